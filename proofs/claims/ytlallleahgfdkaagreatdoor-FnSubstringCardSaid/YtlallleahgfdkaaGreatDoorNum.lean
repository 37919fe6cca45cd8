/- util.Atoi64 at the decimal numeral of a number of at most thirteen digits: it gives the number back. -/
import Derived.Test.YtlallleahgfdkaaGreatDoorBase
import Derived.Test.YtlallleahgfdkaaGreatDoorShelf
import Derived.Lib.ConvBytes
import Derived.Lib.AppendIntMem
import Derived.WalkSmall
namespace Go.Proofs.YtlallleahgfdkaaGreatDoor
open Go.RowKit

/-- The number that decimal digits write. -/
def val (l : List UInt8) : Nat := l.foldl (fun a b => a * 10 + (b.toNat - 48)) 0
theorem val_snoc (l : List UInt8) (b : UInt8) : val (l ++ [b]) = val l * 10 + (b.toNat - 48) := by unfold val; rw [List.foldl_append]; rfl
def Digits (l : List UInt8) : Prop := ∀ b ∈ l, 48 ≤ b.toNat ∧ b.toNat ≤ 57
theorem digit_byte (d : Nat) (h : d < 10) : (UInt8.ofNat (48 + d)).toNat = 48 + d := by
  rw [UInt8.toNat_ofNat']; omega
theorem dec_facts : ∀ (n u : Nat), u ≤ n → val (Lib.decDigits u) = u ∧ Digits (Lib.decDigits u) ∧ 1 ≤ (Lib.decDigits u).length := by
  intro n
  induction n with
  | zero =>
    intro u hu
    obtain rfl : u = 0 := by omega
    rw [Lib.decDigits_one (by omega)]
    exact ⟨rfl, fun b hb => by simp at hb; subst hb; decide, by simp⟩
  | succ n ih =>
    intro u hu
    by_cases h : u < 10
    · rw [Lib.decDigits_one h]
      refine ⟨?_, fun b hb => ?_, by simp⟩
      · show 0 * 10 + ((UInt8.ofNat (48 + u)).toNat - 48) = u
        rw [digit_byte u h]; omega
      · rw [List.mem_singleton] at hb; subst hb; have := digit_byte u h; omega
    · obtain ⟨h1, h2, h3⟩ := ih (u / 10) (by omega)
      have hd := digit_byte (u % 10) (by omega)
      rw [Lib.decDigits, dif_neg h]
      refine ⟨?_, fun b hb => ?_, by simp⟩
      · rw [val_snoc, h1, hd]; omega
      · rw [List.mem_append, List.mem_singleton] at hb
        rcases hb with hb | hb
        · exact h2 b hb
        · subst hb; omega
theorem dec_len : ∀ (k u : Nat), u < 10 ^ (k + 1) → (Lib.decDigits u).length ≤ k + 1 := by
  intro k
  induction k with
  | zero => intro u h; rw [Lib.decDigits_one (by simpa using h)]; simp
  | succ k ih =>
    intro u h
    by_cases h10 : u < 10
    · rw [Lib.decDigits_one h10]; simp
    · rw [Lib.decDigits, dif_neg h10, List.length_append, List.length_singleton]
      have := ih (u / 10) (by rw [Nat.pow_succ] at h; omega)
      omega
theorem val_take_succ (l : List UInt8) (k : Nat) (h : k < l.length) : val (l.take (k + 1)) = val (l.take k) * 10 + (l[k].toNat - 48) := by
  rw [List.take_succ_eq_append_getElem h, val_snoc]
theorem val_lt (l : List UInt8) (h : Digits l) : ∀ k, k ≤ l.length → val (l.take k) < 10 ^ k := by
  intro k
  induction k with
  | zero => intro _; simp [val]
  | succ k ih =>
    intro hk
    have h1 := ih (by omega)
    have h2 := h l[k] (List.getElem_mem _)
    rw [val_take_succ l k hk, Nat.pow_succ]
    omega
theorem pow_le13 (k : Nat) (h : k ≤ 13) : 10 ^ k ≤ 10000000000000 := by
  calc 10 ^ k ≤ 10 ^ 13 := Nat.pow_le_pow_right (by omega) h
    _ = 10000000000000 := by decide
theorem bytes_below (w : World) (e : TypeId) (s : ByteArray) : Below w.heap.size w (Lib.bytesWorld w e s) := by
  refine ⟨rfl, rfl, rfl, ?_, fun k hk => Lib.bytesWorld_at_old w e s k hk⟩
  rw [Lib.bytesWorld_size]; omega
set_option maxRecDepth 100000 in
set_option maxHeartbeats 4000000 in
theorem atoi_pos (s : ByteArray) (w : World) (h1 : 1 ≤ s.size) (h13 : s.size ≤ 13) (hd : Digits s.data.toList) :
    Calls Tryz.prog 163 #[.string s] w fun e w' => e = .returned (.tuple #[.int .i64 (val s.data.toList : Nat), .bool true]) ∧ Below w.heap.size w w' := by
  have HD := hid hd
  have h0 : 0 < s.size := by omega
  have hdg := hd s[0] (List.getElem_mem (by rw [← Lib.size_eq]; exact h0))
  have t1 : ((s[0].toNat : Int) == 45) = false := beq_eq_false_iff_ne.2 (by omega)
  have t2 : ((s[0].toNat : Int) == 43) = false := beq_eq_false_iff_ne.2 (by omega)
  have t3 : ((s.size : Int) == 0) = false := beq_eq_false_iff_ne.2 (by omega)
  have t4 : decide ((0 : Int) < (s.size : Int)) = true := decide_eq_true (by omega)
  have t5 : decide ((19 : Int) < (s.size : Int)) = false := decide_eq_false (by omega)
  clear hd
  have hcv := Lib.run_convert_string_bytes (P := Tryz.prog) w 9 58 5 s Tryz.underlying9 Tryz.underlying58 Tryz.underlying5
  have HCELL := hid (fun k (hk : k < s.size) => Lib.bytesWorld_cell w 5 s k hk)
  have HB : Hid (Below w.heap.size w (Lib.bytesWorld w 5 s)) := hid (bytes_below w 5 s)
  obtain ⟨W1, hW1⟩ : ∃ W1, W1 = Lib.bytesWorld w 5 s := ⟨_, rfl⟩
  rw [← hW1] at hcv HCELL HB
  clear hW1
  go_enter Tryz.func163, Tryz.ntmps163
  go_wp2
  go_loop [6, 7, 36] (fun p n i => p = .bool false ∧ ∃ (k m : Nat), k ≤ s.size ∧ i = .int .i64 k ∧ n = .int .i64 m ∧ Hid (m = val (s.data.toList.take k))) (fun _ _ i => s.size - (intOf i).toNat)
  case atStart => exact ⟨rfl, 0, 0, Nat.zero_le _, rfl, rfl, hid (by simp [val])⟩
  case round =>
    obtain ⟨rfl, k, m, hk, rfl, rfl, HM⟩ := hrel
    have hm : m ≤ 10000000000000 := by rw [HM.out]; exact Nat.le_trans (Nat.le_of_lt (val_lt _ HD.out k (by rw [← Lib.size_eq]; exact hk))) (pow_le13 k (by omega))
    by_cases hlt : k < s.size
    · have hdg := HD.out s[k] (List.getElem_mem (by rw [← Lib.size_eq]; exact hlt))
      obtain ⟨c, hc⟩ : ∃ c : Nat, c = s[k].toNat := ⟨_, rfl⟩
      rw [← hc] at hdg
      obtain ⟨hd1, hd2⟩ := hdg
      have hcell : W1.cell? ⟨w.heap.size, k, none⟩ = some (.int .u8 c) := by
        rw [HCELL.out k hlt, hc]
        have hl : k < s.data.toList.length := by rw [← Lib.size_eq]; exact hlt
        rw [List.getD, List.getElem?_eq_getElem hl]; rfl
      have HC := hid hc
      clear hc
      have HV := hid (val_take_succ s.data.toList k (by rw [← Lib.size_eq]; exact hlt))
      have q1 : ((c : Int) == 46) = false := beq_eq_false_iff_ne.2 (by omega)
      go_wp2
      refine ⟨⟨rfl, k + 1, m * 10 + (c - 48), hlt, by rw [Int.natCast_add]; rfl, ?_, hid ?_⟩, ?_⟩
      · congr 1; omega
      · rw [HV.out, ← HM.out, HC.out]; rfl
      · show s.size - (k + 1) < s.size - k
        omega
    · obtain rfl : k = s.size := by omega
      have HE : Hid (m = val s.data.toList) := hid (by rw [HM.out]; congr 1; exact List.take_of_length_le (by rw [← Lib.size_eq]; exact Nat.le_refl _))
      clear hlt
      go_wp2
      go_ret2
      refine ⟨?_, HB.out⟩
      rw [HE.out]
      rfl
set_option maxRecDepth 100000 in
set_option maxHeartbeats 4000000 in
theorem atoi_neg (s : ByteArray) (t : ByteArray) (w : World) (h1 : 1 ≤ t.size) (h13 : t.size ≤ 13) (hs : s.size = t.size + 1) (h45 : s[0]? = some 45) (ht : s.extract 1 (t.size + 1) = t) (hd : Digits t.data.toList) (hp : 0 < val t.data.toList) :
    Calls Tryz.prog 163 #[.string s] w fun e w' => e = .returned (.tuple #[.int .i64 (-(val t.data.toList : Nat)), .bool true]) ∧ Below w.heap.size w w' := by
  have HD := hid hd
  have h0 : 0 < s.size := by omega
  have t0 : s[0].toNat = 45 := by
    rw [getElem?_pos s 0 h0] at h45; injection h45 with h45; rw [h45]; rfl
  have t1 : ((s[0].toNat : Int) == 45) = true := by rw [t0]; rfl
  have t3 : ((t.size : Int) == 0) = false := beq_eq_false_iff_ne.2 (by omega)
  have t4 : decide ((0 : Int) < (s.size : Int)) = true := decide_eq_true (by omega)
  have t5 : decide ((19 : Int) < (t.size : Int)) = false := decide_eq_false (by omega)
  clear hd h45
  have hcv := Lib.run_convert_string_bytes (P := Tryz.prog) w 9 58 5 t Tryz.underlying9 Tryz.underlying58 Tryz.underlying5
  have HCELL := hid (fun k (hk : k < t.size) => Lib.bytesWorld_cell w 5 t k hk)
  have HB : Hid (Below w.heap.size w (Lib.bytesWorld w 5 t)) := hid (bytes_below w 5 t)
  obtain ⟨W1, hW1⟩ : ∃ W1, W1 = Lib.bytesWorld w 5 t := ⟨_, rfl⟩
  rw [← hW1] at hcv HCELL HB
  clear hW1
  have hcv2 : Sem.run Tryz.prog (convert 9 58 (Value.string (s.extract 1 (t.size + 1)))) w = Result.ok (Value.slice (some { block := w.heap.size, off := 0 }) t.size (grownCap w t.size 0 5)) W1 := by rw [ht]; exact hcv
  go_enter Tryz.func163, Tryz.ntmps163
  go_wp2
  go_loop [6, 7, 36] (fun p n i => p = .bool false ∧ ∃ (k m : Nat), k ≤ t.size ∧ i = .int .i64 k ∧ n = .int .i64 m ∧ Hid (m = val (t.data.toList.take k))) (fun _ _ i => t.size - (intOf i).toNat)
  case atStart => exact ⟨rfl, 0, 0, Nat.zero_le _, rfl, rfl, hid (by simp [val])⟩
  case round =>
    obtain ⟨rfl, k, m, hk, rfl, rfl, HM⟩ := hrel
    have hm : m ≤ 10000000000000 := by rw [HM.out]; exact Nat.le_trans (Nat.le_of_lt (val_lt _ HD.out k (by rw [← Lib.size_eq]; exact hk))) (pow_le13 k (by omega))
    by_cases hlt : k < t.size
    · have hdg := HD.out t[k] (List.getElem_mem (by rw [← Lib.size_eq]; exact hlt))
      obtain ⟨c, hc⟩ : ∃ c : Nat, c = t[k].toNat := ⟨_, rfl⟩
      rw [← hc] at hdg
      obtain ⟨hd1, hd2⟩ := hdg
      have hcell : W1.cell? ⟨w.heap.size, k, none⟩ = some (.int .u8 c) := by
        rw [HCELL.out k hlt, hc]
        have hl : k < t.data.toList.length := by rw [← Lib.size_eq]; exact hlt
        rw [List.getD, List.getElem?_eq_getElem hl]; rfl
      have HC := hid hc
      clear hc
      have HV := hid (val_take_succ t.data.toList k (by rw [← Lib.size_eq]; exact hlt))
      have q1 : ((c : Int) == 46) = false := beq_eq_false_iff_ne.2 (by omega)
      go_wp2
      refine ⟨⟨rfl, k + 1, m * 10 + (c - 48), hlt, by rw [Int.natCast_add]; rfl, ?_, hid ?_⟩, ?_⟩
      · congr 1; omega
      · rw [HV.out, ← HM.out, HC.out]; rfl
      · show t.size - (k + 1) < t.size - k
        omega
    · obtain rfl : k = t.size := by omega
      have HE : Hid (m = val t.data.toList) := hid (by rw [HM.out]; congr 1; exact List.take_of_length_le (by rw [← Lib.size_eq]; exact Nat.le_refl _))
      clear hlt
      have hpm : 0 < m := by rw [HE.out]; exact hp
      have hq : decide ((0 : Int) < -(m : Int)) = false := decide_eq_false (by omega)
      go_wp2
      go_ret2
      refine ⟨?_, HB.out⟩
      rw [HE.out]
      rfl

/-! ### The numeral of a number, and back -/
theorem atoi_itoa (n : Int) (h0 : -10000000000000 < n) (h1 : n < 10000000000000) (w : World) :
    Calls Tryz.prog 163 #[.string ⟨(Lib.itoa n).toArray⟩] w fun e w' => e = .returned (.tuple #[.int .i64 n, .bool true]) ∧ Below w.heap.size w w' := by
  unfold Lib.itoa
  by_cases hn : n < 0
  · rw [if_pos hn]
    obtain ⟨f1, f2, f3⟩ := dec_facts n.natAbs n.natAbs (Nat.le_refl _)
    have f4 := dec_len 12 n.natAbs (by omega)
    have := atoi_neg ⟨(45 :: Lib.decDigits n.natAbs).toArray⟩ ⟨(Lib.decDigits n.natAbs).toArray⟩ w
      (by rw [Lib.size_eq]; exact f3) (by rw [Lib.size_eq]; exact f4) (by rw [Lib.size_eq, Lib.size_eq]; simp) rfl
      (by rw [← Lib.mk_data (ByteArray.extract _ _ _), Lib.extract_data, Lib.size_eq]; simp) f2 (by rw [f1]; omega)
    rw [f1] at this
    rwa [show -((n.natAbs : Nat) : Int) = n by omega] at this
  · rw [if_neg hn]
    obtain ⟨f1, f2, f3⟩ := dec_facts n.toNat n.toNat (Nat.le_refl _)
    have f4 := dec_len 12 n.toNat (by omega)
    have := atoi_pos ⟨(Lib.decDigits n.toNat).toArray⟩ w (by rw [Lib.size_eq]; exact f3) (by rw [Lib.size_eq]; exact f4) f2
    rw [f1] at this
    rwa [show ((n.toNat : Nat) : Int) = n by omega] at this

/-- The table of powers of ten reads so in every world that w's laws lead to. -/
def PowAt (w : World) : Prop := ∀ w', Below w.heap.size w w' → Lib.TabIs Tryz.prog w' "internal/strconv.uint64pow10" .u64 Lib.pow10Tab
theorem gPow' : Tryz.prog.globalNamed "internal/strconv.uint64pow10" = some 5 := by kernel_rfl
theorem powAt_of {w : World} (h5 : 5 < w.heap.size) (h : Lib.TabIs Tryz.prog w "internal/strconv.uint64pow10" .u64 Lib.pow10Tab) : PowAt w := fun _ hb => var?_below hb gPow' h5 h
theorem PowAt.of {w w1 : World} (h : PowAt w) (hb : Below w.heap.size w w1) : PowAt w1 := fun w' h' => h w' (hb.trans (h'.mono hb.size))
theorem itoa_any (n : Int) (h0 : -9223372036854775808 ≤ n) (h1 : n ≤ 9223372036854775807) (w : World) (hp : PowAt w) :
    Calls Tryz.prog 176 #[.int .i64 n] w fun e w' => e = .returned (.string ⟨(Lib.itoa n).toArray⟩) ∧ Below w.heap.size w w' := by
  refine (Tryz.strconv_Itoa n h0 h1 w (hp w (Below.refl _ _))).mono ?_
  rintro e w' ⟨rfl, k, os, rfl⟩
  exact ⟨rfl, Lib.below_grow _ _ (Nat.le_refl _) _ _⟩
end Go.Proofs.YtlallleahgfdkaaGreatDoor
