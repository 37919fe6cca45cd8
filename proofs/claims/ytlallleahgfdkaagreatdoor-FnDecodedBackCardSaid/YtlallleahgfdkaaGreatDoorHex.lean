/- spec.place, spec.UnHex: what the reference returns; against encoding/hex's decoding. -/
import Derived.Test.YtlallleahgfdkaaGreatDoorLetters
import Derived.Lib.HexFns2
namespace Go.Proofs.YtlallleahgfdkaaGreatDoor
open Go.RowKit

/-- The number of a sign, if it is one. -/
def place (l : List UInt8) (c : UInt8) : Option Nat := l.findIdx? (· == c)

theorem place_hit (s : ByteArray) (c : UInt8) (k : Nat) (hk : k < s.size) (h : s[k] = c) (hn : ∀ j (hj : j < s.size), j < k → s[j] ≠ c) : place s.data.toList c = some k := by
  unfold place
  rw [List.findIdx?_eq_some_iff_getElem]
  have hl : k < s.data.toList.length := by rw [← Lib.size_eq]; exact hk
  refine ⟨hl, beq_iff_eq.2 h, fun j hj => ?_⟩
  have := hn j (by omega) hj
  exact fun hh => this (beq_iff_eq.1 hh)
theorem place_miss (s : ByteArray) (c : UInt8) (hn : ∀ j (hj : j < s.size), s[j] ≠ c) : place s.data.toList c = none := by
  unfold place
  rw [List.findIdx?_eq_none_iff]
  intro x hx
  obtain ⟨j, hj, e⟩ := List.getElem_of_mem hx
  have := hn j (by rw [Lib.size_eq]; exact hj)
  rw [← e]
  exact beq_eq_false_iff_ne.2 this

def PlacePost (s : ByteArray) (c : UInt8) (w : World) (e : Ending) (w' : World) : Prop :=
  e = .returned (.tuple #[.int .i64 ((place s.data.toList c).getD 0 : Nat), .bool (place s.data.toList c).isSome]) ∧ w = w'
set_option maxRecDepth 100000 in
set_option maxHeartbeats 4000000 in
theorem place_any (s : ByteArray) (c : UInt8) (w : World) (hs : s.size ≤ 2147483647) :
    Calls Tryz.prog 63 #[.string s, .int .u8 c.toNat] w (PlacePost s c w) := by
  have hcb : c.toNat < 256 := UInt8.toNat_lt _
  go_enter Tryz.func63, Tryz.ntmps63
  go_wp2
  go_loop [9] (fun i => ∃ k : Nat, k ≤ s.size ∧ i = .int .i64 k ∧ Hid (∀ j (hj : j < s.size), j < k → s[j] ≠ c)) (fun i => s.size - (intOf i).toNat)
  case atStart => exact ⟨0, Nat.zero_le _, rfl, hid fun j _ hj => by omega⟩
  case round =>
    obtain ⟨k, hk, rfl, HN⟩ := hrel
    by_cases hlt : k < s.size
    · by_cases he : s[k] = c
      · have e1 : ((s[k].toNat : Int) == (c.toNat : Int)) = true := by rw [he]; simp
        have HM := hid (place_hit s c k hlt he HN.out)
        clear he
        go_wp2
        go_ret2
        exact ⟨by rw [HM.out]; rfl, rfl⟩
      · have e1 : ((s[k].toNat : Int) == (c.toNat : Int)) = false := by
          have : ¬ s[k].toNat = c.toNat := fun h => he (UInt8.toNat_inj.1 h)
          simp; omega
        have HE := hid he
        clear he
        go_wp2
        go_round
        case rel => exact ⟨k + 1, by omega, by go_num, hid fun j hj hjk => by
          by_cases e : j = k
          · subst e; exact HE.out
          · exact HN.out j hj (by omega)⟩
        case measure => simp [intOf]; omega
    · have HM := hid (place_miss s c fun j hj => HN.out j hj (by omega))
      go_wp2
      go_ret2
      exact ⟨by rw [HM.out]; rfl, rfl⟩

/-- "0123456789abcdef" -/
def digs : ByteArray := ⟨#[48, 49, 50, 51, 52, 53, 54, 55, 56, 57, 97, 98, 99, 100, 101, 102]⟩
/-- The reference's reading of hexadecimal digits, in lower case. -/
def unhex : List UInt8 → Option (List UInt8)
  | [] => some []
  | [_] => none
  | p :: q :: t => match place digs.data.toList p, place digs.data.toList q with
    | some h, some l => (unhex t).map (UInt8.ofNat (h * 16 + l) :: ·)
    | _, _ => none

theorem place_low (c : UInt8) : place digs.data.toList (Lib.lowerB c) = if 15 < Lib.Hx.v c then none else some (Lib.Hx.v c) := by
  have h : ∀ n : Fin 256, place digs.data.toList (Lib.lowerB (UInt8.ofNat n.val)) = if 15 < Lib.Hx.v (UInt8.ofNat n.val) then none else some (Lib.Hx.v (UInt8.ofNat n.val)) := by decide +kernel
  have := h ⟨c.toNat, UInt8.toNat_lt _⟩
  simpa using this
theorem place_lt (c : UInt8) (n : Nat) (h : place digs.data.toList c = some n) : n < 16 := by
  unfold place at h
  have := (List.findIdx?_eq_some_iff_getElem.1 h).1
  exact this

theorem unhex_decode : ∀ (n : Nat) (l : List UInt8), l.length ≤ n → (∀ x, unhex (Lib.toLowerA l) = some x → Lib.Hx.decode l = (x, .ok)) ∧ (unhex (Lib.toLowerA l) = none → ∀ x, Lib.Hx.decode l ≠ (x, .ok)) := by
  intro n
  induction n with
  | zero =>
    intro l hl
    obtain rfl : l = [] := List.length_eq_zero_iff.1 (by omega)
    exact ⟨fun x h => by simp [Lib.toLowerA, unhex] at h; subst h; exact Lib.Hx.decode_nil, fun h => by simp [Lib.toLowerA, unhex] at h⟩
  | succ n ih =>
    intro l hl
    match l, hl with
    | [], _ => exact ⟨fun x h => by simp [Lib.toLowerA, unhex] at h; subst h; exact Lib.Hx.decode_nil, fun h => by simp [Lib.toLowerA, unhex] at h⟩
    | [c], _ =>
      refine ⟨fun x h => by simp [Lib.toLowerA, unhex] at h, fun _ x h => ?_⟩
      rw [Lib.Hx.decode_one] at h
      split at h <;> cases h
    | p :: q :: t, hl =>
      have ht := ih t (by simp at hl; omega)
      have e : unhex (Lib.toLowerA (p :: q :: t)) = match place digs.data.toList (Lib.lowerB p), place digs.data.toList (Lib.lowerB q) with
        | some h, some l => (unhex (Lib.toLowerA t)).map (UInt8.ofNat (h * 16 + l) :: ·)
        | _, _ => none := by
        rw [show Lib.toLowerA (p :: q :: t) = Lib.lowerB p :: Lib.lowerB q :: Lib.toLowerA t from rfl, unhex]
      rw [e, place_low, place_low, Lib.Hx.decode_two]
      by_cases h1 : 15 < Lib.Hx.v p
      · rw [if_pos h1, if_pos h1]
        exact ⟨fun x h => (by cases h), fun _ x h => by cases h⟩
      · rw [if_neg h1, if_neg h1]
        by_cases h2 : 15 < Lib.Hx.v q
        · rw [if_pos h2, if_pos h2]
          exact ⟨fun x h => (by cases h), fun _ x h => by cases h⟩
        · rw [if_neg h2, if_neg h2]
          cases hu : unhex (Lib.toLowerA t) with
          | none =>
            refine ⟨fun x h => (by cases h), fun _ x h => ?_⟩
            have h3 := congrArg Prod.snd h
            exact ht.2 hu (Lib.Hx.decode t).1 (Prod.ext rfl h3)
          | some y =>
            refine ⟨fun x h => ?_, fun h => by cases h⟩
            have h3 := ht.1 y hu
            rw [h3]
            have : UInt8.ofNat (Lib.Hx.v p * 16 + Lib.Hx.v q) :: y = x := Option.some.inj h
            rw [← this]

theorem unhex_odd : ∀ (n : Nat) (l : List UInt8), l.length ≤ n → l.length % 2 = 1 → unhex l = none := by
  intro n
  induction n with
  | zero => intro l hl h; omega
  | succ n ih =>
    intro l hl h
    match l, hl, h with
    | [], _, h => simp at h
    | [c], _, _ => rfl
    | p :: q :: t, hl, h =>
      have ht := ih t (by simp at hl; omega) (by simp at h; omega)
      rw [unhex, ht]
      split <;> rfl

theorem place_at (c : UInt8) (w : World) (n : Nat) (h : place digs.data.toList c = some n) :
    Calls Tryz.prog 63 #[.string ⟨#[48, 49, 50, 51, 52, 53, 54, 55, 56, 57, 97, 98, 99, 100, 101, 102]⟩, .int .u8 c.toNat] w fun e w' => e = .returned (.tuple #[.int .i64 n, .bool true]) ∧ w = w' := by
  refine (place_any digs c w (by decide)).mono ?_
  rintro e w' ⟨rfl, rfl⟩
  rw [h]
  exact ⟨rfl, rfl⟩
theorem place_no (c : UInt8) (w : World) (h : place digs.data.toList c = none) :
    Calls Tryz.prog 63 #[.string ⟨#[48, 49, 50, 51, 52, 53, 54, 55, 56, 57, 97, 98, 99, 100, 101, 102]⟩, .int .u8 c.toNat] w fun e w' => e = .returned (.tuple #[.int .i64 0, .bool false]) ∧ w = w' := by
  refine (place_any digs c w (by decide)).mono ?_
  rintro e w' ⟨rfl, rfl⟩
  rw [h]
  exact ⟨rfl, rfl⟩
theorem unhex_pair (x : ByteArray) (h1 : 1 < x.size) : unhex x.data.toList = match place digs.data.toList x[0], place digs.data.toList x[1] with
    | some h, some l => (unhex (x.extract 2 x.size).data.toList).map (UInt8.ofNat (h * 16 + l) :: ·)
    | _, _ => none := by
  have hl : 1 < x.data.toList.length := by rw [← Lib.size_eq]; exact h1
  have e : x.data.toList = x.data.toList[0] :: x.data.toList[1] :: x.data.toList.drop 2 := by
    conv => lhs; rw [← List.drop_zero (l := x.data.toList), List.drop_eq_getElem_cons (by omega), List.drop_eq_getElem_cons hl]
  conv => lhs; rw [e, unhex]
  rw [Lib.extract_data, List.take_of_length_le (by rw [List.length_drop, Lib.size_eq]; omega)]
  rfl
theorem or_nib (h l : Nat) (hh : h < 16) (hl : l < 16) : UInt8.ofNat (bits BinOp.or IntKind.i64 ((h : Int) * 16) (l : Int) % 256).toNat = UInt8.ofNat (h * 16 + l) := by
  have k : ∀ a b : Fin 16, bits BinOp.or IntKind.i64 ((a.val : Int) * 16) (b.val : Int) = (a.val : Int) * 16 + b.val := by decide +kernel
  have := k ⟨h, hh⟩ ⟨l, hl⟩
  simp only at this
  rw [this]
  congr 1
  omega
def UnHexPost (s : ByteArray) (w : World) (e : Ending) (w' : World) : Prop :=
  (∃ y : ByteArray, unhex (Lib.toLowerA s.data.toList) = some y.data.toList ∧ y.size ≤ s.size ∧ e = .returned (.tuple #[.string y, .int .i64 0]) ∧ Below w.heap.size w w') ∨
  (unhex (Lib.toLowerA s.data.toList) = none ∧ e = .returned (.tuple #[.string ⟨#[]⟩, .int .i64 1]) ∧ Below w.heap.size w w')
set_option maxRecDepth 100000 in
set_option maxHeartbeats 4000000 in
theorem unHex_any (s : ByteArray) (w : World) (hs : s.size ≤ 1000) :
    Calls Tryz.prog 27 #[.string s] w (UnHexPost s w) := by
  obtain ⟨m, hm⟩ : ∃ m : ByteArray, m = ⟨(Lib.toLowerA s.data.toList).toArray⟩ := ⟨_, rfl⟩
  have hms : m.size = s.size := by rw [hm, Lib.size_eq, Lib.size_eq]; simp [Lib.toLowerA]
  have em : Lib.toLowerA s.data.toList = m.data.toList := by rw [hm]
  have HL := hid (fun W => letters_low s W (by omega))
  rw [← hm] at HL
  unfold UnHexPost
  rw [em]
  have hml : m.size ≤ 1000 := by omega
  have HMS := hid hms
  clear hm em hms
  by_cases hodd : m.size % 2 = 1
  · have HO := hid (unhex_odd m.size m.data.toList (by rw [Lib.size_eq]; exact Nat.le_refl _) (by rw [← Lib.size_eq]; exact hodd))
    have e1 : ((m.size : Int) % 2 != 0) = true := by rw [bne_iff_ne]; omega
    go_enter Tryz.func27, Tryz.ntmps27
    go_wp2_with fail
    refine (HL.out _).mono ?_
    rintro e w1 ⟨rfl, hb1⟩
    go_wp2_with fail
    go_ret2
    exact .inr ⟨HO.out, rfl, hb1⟩
  · have e1 : ((m.size : Int) % 2 != 0) = false := by rw [bne_eq_false_iff_eq]; omega
    go_enter Tryz.func27, Tryz.ntmps27
    go_wp2_with fail
    refine (HL.out _).mono ?_
    rintro e w1 ⟨rfl, hb1⟩
    go_wp2_with fail
    clear HL
    go_loopw [0, 4] (fun v u wr => ∃ x z : ByteArray, v = .string x ∧ u = .string z ∧ x.size % 2 = 0 ∧ z.size + x.size ≤ m.size ∧ Hid ((unhex x.data.toList).map (z.data.toList ++ ·) = unhex m.data.toList) ∧ Below w.heap.size w wr) (fun v _ _ => match v with | .string x => x.size | _ => 0)
    case atStart => exact ⟨m, ⟨#[]⟩, rfl, rfl, by omega, by rw [show (⟨#[]⟩ : ByteArray).size = 0 from rfl]; omega, hid (by cases unhex m.data.toList <;> rfl), hb1⟩
    case round =>
      obtain ⟨x, z, rfl, rfl, hx2, hzx, HU, hbw⟩ := hrel
      by_cases h0 : 0 < x.size
      · have h1 : 1 < x.size := by omega
        have hpair := unhex_pair x h1
        have hsz : (x.extract 2 x.size).size = x.size - 2 := by simp
        have HSZ := hid hsz
        clear hsz
        cases hp : place digs.data.toList x[0] with
        | none =>
          rw [hp] at hpair
          have HN := hid (show unhex m.data.toList = none by rw [← HU.out, hpair]; rfl)
          have HP := hid (fun W => place_no x[0] W hp)
          clear hp hpair
          cases hq : place digs.data.toList x[1] with
          | none =>
            have HQ := hid (fun W => place_no x[1] W hq)
            clear hq
            go_wp2_with fail
            refine (HP.out _).mono ?_
            rintro e w2 ⟨rfl, rfl⟩
            go_wp2_with fail
            refine (HQ.out _).mono ?_
            rintro e w2 ⟨rfl, rfl⟩
            go_wp2_with fail
            go_ret2
            exact .inr ⟨HN.out, rfl, hbw⟩
          | some l =>
            have HQ := hid (fun W => place_at x[1] W l hq)
            clear hq
            go_wp2_with fail
            refine (HP.out _).mono ?_
            rintro e w2 ⟨rfl, rfl⟩
            go_wp2_with fail
            refine (HQ.out _).mono ?_
            rintro e w2 ⟨rfl, rfl⟩
            go_wp2_with fail
            go_ret2
            exact .inr ⟨HN.out, rfl, hbw⟩
        | some h =>
          cases hq : place digs.data.toList x[1] with
          | none =>
            rw [hp, hq] at hpair
            have HN := hid (show unhex m.data.toList = none by rw [← HU.out, hpair]; rfl)
            have HP := hid (fun W => place_at x[0] W h hp)
            have HQ := hid (fun W => place_no x[1] W hq)
            clear hp hq hpair
            go_wp2_with fail
            refine (HP.out _).mono ?_
            rintro e w2 ⟨rfl, rfl⟩
            go_wp2_with fail
            refine (HQ.out _).mono ?_
            rintro e w2 ⟨rfl, rfl⟩
            go_wp2_with fail
            go_ret2
            exact .inr ⟨HN.out, rfl, hbw⟩
          | some l =>
            rw [hp, hq] at hpair
            replace hpair : unhex x.data.toList = (unhex (x.extract 2 x.size).data.toList).map (UInt8.ofNat (h * 16 + l) :: ·) := hpair
            have hh := place_lt _ _ hp
            have hl := place_lt _ _ hq
            have HP := hid (fun W => place_at x[0] W h hp)
            have HQ := hid (fun W => place_at x[1] W l hq)
            obtain ⟨c, hc⟩ : ∃ c, c = UInt8.ofNat (h * 16 + l) := ⟨_, rfl⟩
            have hcv := conv_one wr (bits BinOp.or IntKind.i64 ((h : Int) * 16) (l : Int) % 256) c (by rw [hc, or_nib h l hh hl])
            rw [← hc] at hpair
            have HPAIR := hid hpair
            obtain ⟨z', hz'⟩ : ∃ z' : ByteArray, z' = z ++ ⟨#[c]⟩ := ⟨_, rfl⟩
            have hz2 : z'.data.toList = z.data.toList ++ [c] := by rw [hz', ByteArray.data_append]; simp
            have hz3 : z'.size = z.size + 1 := by rw [Lib.size_eq, hz2, Lib.size_eq]; simp
            have hz4 : z.size ≤ 1000 := by omega
            have HZ := hid hz'
            have HZ2 := hid hz2
            have HZ3 := hid hz3
            clear hp hq hpair hc hz' hz2 hz3
            go_wp2_with fail
            refine (HP.out _).mono ?_
            rintro e w2 ⟨rfl, rfl⟩
            go_wp2_with fail
            refine (HQ.out _).mono ?_
            rintro e w2 ⟨rfl, rfl⟩
            go_wp2_with fail
            refine ⟨⟨x.extract 2 x.size, z', rfl, by rw [HZ.out], by rw [HSZ.out]; omega, by rw [HSZ.out, HZ3.out]; omega, hid ?_, hbw.alloc hbw.size _⟩, by show (x.extract 2 x.size).size < x.size; rw [HSZ.out]; omega⟩
            rw [← HU.out, HPAIR.out, HZ2.out]
            cases unhex (x.extract 2 x.size).data.toList with
            | none => rfl
            | some y => simp
      · have HX := hid (show unhex m.data.toList = some z.data.toList by
          have hx0 : x.data.toList = [] := List.length_eq_zero_iff.1 (by rw [← Lib.size_eq]; omega)
          rw [← HU.out, hx0]; simp [unhex])
        go_wp2_with fail
        go_ret2
        exact .inl ⟨z, HX.out, by rw [← HMS.out]; omega, rfl, hbw⟩
end Go.Proofs.YtlallleahgfdkaaGreatDoor
