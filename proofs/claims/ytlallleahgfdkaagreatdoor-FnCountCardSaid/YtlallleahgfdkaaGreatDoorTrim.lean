/- zzInSet, zzTrimLeft, zzTrimRight, zzTrim at a cutset of ASCII; spec.has, TrimLeft, TrimRight: what they return; new memory alone is made. -/
import Derived.Test.YtlallleahgfdkaaGreatDoorImpl2
import Derived.Test.YtlallleahgfdkaaGreatDoorPlain
import Derived.Lib.OthersKept
import Derived.Deep.QuietTactic
import Derived.BigQuiet
import Derived.IntWalk
namespace Go.Proofs.YtlallleahgfdkaaGreatDoor
open Go.RowKit

theorem get_bang (s : ByteArray) (i : Nat) (h : i < s.size) : s.get! i = s[i] := by
  show s.get! i = _
  simp [ByteArray.get!, getElem!_pos, h]
  rfl
theorem decode_ge (s : ByteArray) (i : Nat) (h : i < s.size) (hb : 128 ≤ s[i].toNat) : 128 ≤ (Utf8.decode s i).1 := by
  rw [← get_bang s i h] at hb
  unfold Utf8.decode
  simp only [Nat.add_zero]
  have hre : 128 ≤ Utf8.runeError := by decide
  split
  · omega
  · split
    · split
      · assumption
      · exact hre
    · split
      · split
        · rename_i hh; simp only [Bool.and_eq_true, decide_eq_true_eq] at hh; simp only; omega
        · exact hre
      · split
        · split
          · rename_i hh; simp only [Bool.and_eq_true, decide_eq_true_eq] at hh; simp only; omega
          · exact hre
        · exact hre
theorem decode_small (s : ByteArray) (i : Nat) : (Utf8.decode s i).1 ≤ 2147483647 := by
  have g : ∀ k, (s.get! k).toNat < 256 := fun k => UInt8.toNat_lt _
  have hre : Utf8.runeError ≤ 2147483647 := by decide
  have h0 := g (i + 0)
  have h1 := g (i + 1)
  have h2 := g (i + 2)
  have h3 := g (i + 3)
  unfold Utf8.decode
  simp only
  split
  · simp only; omega
  · split
    · split
      · simp only; omega
      · exact hre
    · split
      · split
        · simp only; omega
        · exact hre
      · split
        · split
          · simp only; omega
          · exact hre
        · exact hre
theorem below_drewN {B : Nat} {a w : World} (h : Below B a w) (n : Nat) : Below B a (w.drewN n) := h.trans ⟨rfl, rfl, rfl, Nat.le_refl _, fun _ _ => rfl⟩
theorem iterPos_of {w : World} {k : Nat} {s : ByteArray} {p : Nat} (h : w.heap[k]? = some (.stringIter s p)) : w.iterPos k = p := by simp [World.iterPos, h]
theorem lt_of_block {w : World} {k : Nat} {o : Obj} (h : w.heap[k]? = some o) : k < w.heap.size := (Array.getElem?_eq_some_iff.1 h).1

theorem any_of_get {s : ByteArray} {p : UInt8 → Bool} {j : Nat} (h : j < s.size) (hp : p s[j] = true) : s.data.toList.any p = true := by
  rw [List.any_eq_true]
  exact ⟨s[j], List.getElem_mem (by rw [← Lib.size_eq]; exact h), hp⟩
theorem any_false_of {s : ByteArray} {p : UInt8 → Bool} (h : ∀ j (hj : j < s.size), p s[j] = false) : s.data.toList.any p = false := by
  rw [List.any_eq_false]
  intro b hb
  obtain ⟨j, hj, e⟩ := List.getElem_of_mem hb
  have := h j (by rw [Lib.size_eq]; exact hj)
  rw [← e]
  intro h2
  have h3 : p s[j] = true := h2
  rw [this] at h3
  cases h3

/-- Does the number c stand among the text's bytes? -/
def inSetB (t : ByteArray) (c : Nat) : Bool := t.data.toList.any fun b => b.toNat == c

set_option maxRecDepth 100000 in
set_option maxHeartbeats 4000000 in
theorem inSet_any (c : Nat) (t : ByteArray) (w : World) (_ht : t.size ≤ 2147483647) (ha : AllAscii t) :
    Calls Tryz.prog 162 #[.int .i32 c, .string t] w fun e w' => e = .returned (.bool (inSetB t c)) ∧ Below w.heap.size w w' := by
  have HA := hid ha
  clear ha
  go_enter Tryz.func162, Tryz.ntmps162
  go_wp2
  go_loopw [] (fun wr => ∃ pos : Nat, pos ≤ t.size ∧ wr.heap[w.heap.size]? = some (.stringIter t pos) ∧ Below w.heap.size w wr ∧ Hid (∀ j (h : j < t.size), j < pos → ((t[j].toNat == c) = false))) (fun wr => t.size - wr.iterPos w.heap.size)
  case atStart => exact ⟨0, Nat.zero_le _, World.iter_heap w t 0, (Below.refl _ _).alloc (Nat.le_refl _) _, hid fun j _ hj => by omega⟩
  case round =>
    obtain ⟨pos, hpl, hit, hbw, HN⟩ := hrel
    have hpos0 := hid (iterPos_of hit)
    by_cases hp : pos < t.size
    · have hnx : ∀ ty, (Instr.next (.pointer (some ⟨w.heap.size, 0, none⟩)) true ty).run Tryz.prog wr = _ := fun ty => Lib.run_next_ascii_at wr w.heap.size t pos ty hit hp (HA.out pos hp)
      have hit2 := Lib.iterAt_heap wr w.heap.size t pos (pos + 1) hit
      have hbw2 := Lib.below_iterAt hbw (k := w.heap.size) (Nat.le_refl _) t (pos + 1)
      obtain ⟨W1, hW1⟩ : ∃ W1, W1 = wr.iterAt w.heap.size t (pos + 1) := ⟨_, rfl⟩
      rw [← hW1] at hnx hit2 hbw2
      have HIT2 := hid hit2
      have hpos1 := hid (iterPos_of hit2)
      clear hW1 hit hit2 hbw
      cases hcd : (t[pos].toNat == c) with
      | true =>
        have HT := hid (show inSetB t c = true from any_of_get hp hcd)
        have hcd' : c = t[pos].toNat := by simp at hcd; omega
        have h1 : ((c : Int) == (t[pos].toNat : Int)) = true := by simp; omega
        clear hcd hcd'
        go_wp2
        go_ret
        exact ⟨ret_bool HT.out.symm, hbw2⟩
      | false =>
        have HF := hid hcd
        have h1 : ((c : Int) == (t[pos].toNat : Int)) = false := by simp at hcd ⊢; omega
        have h2 : ¬ ((c : Int) = (t[pos].toNat : Int)) := by simp at hcd; omega
        clear hcd
        go_wp2
        go_roundw
        case rel => exact ⟨pos + 1, by omega, HIT2.out, hbw2, hid fun j h hj => by
          by_cases e : j = pos
          · subst e; exact HF.out
          · exact HN.out j h (by omega)⟩
        case measure => rw [hpos0.out, hpos1.out]; omega
    · have hnx : ∀ ty, (Instr.next (.pointer (some ⟨w.heap.size, 0, none⟩)) true ty).run Tryz.prog wr = _ := fun ty => Lib.run_next_end_at wr w.heap.size t pos ty hit hp
      have HF := hid (show inSetB t c = false from any_false_of fun j hj => HN.out j hj (by omega))
      go_wp2
      go_ret
      exact ⟨ret_bool HF.out.symm, hbw⟩

theorem inSet_ascii (t : ByteArray) (b : UInt8) : inSetB t b.toNat = t.data.toList.contains b := by
  unfold inSetB
  rw [Bool.eq_iff_iff, List.any_eq_true, List.contains_iff_mem]
  constructor
  · rintro ⟨x, hx, e⟩
    have : x = b := by apply UInt8.toNat_inj.1; simpa using e
    exact this ▸ hx
  · intro h; exact ⟨b, h, by simp⟩
theorem inSet_high (t : ByteArray) (ha : AllAscii t) (c : Nat) (hc : 128 ≤ c) : inSetB t c = false :=
  any_false_of fun j hj => by have := ha j hj; simp; omega
theorem trimL_at (s t : ByteArray) (pos : Nat) (hp : pos < s.size) (hn : ∀ j (h : j < s.size), j < pos → t.data.toList.contains s[j] = true) (hx : t.data.toList.contains s[pos] = false) :
    s.extract pos s.size = ⟨(Pl.trimL s.data.toList t.data.toList).toArray⟩ := by
  have hl : pos < s.data.toList.length := by rw [← Lib.size_eq]; exact hp
  have hx' : t.data.toList.contains s.data.toList[pos] = false := hx
  rw [Pl.trimL_drop _ _ pos (fun j hj b hb => by
    obtain ⟨h1, e⟩ := List.getElem?_eq_some_iff.1 hb
    rw [← e]; exact hn j (by rw [Lib.size_eq]; exact h1) hj), List.drop_eq_getElem_cons hl, Pl.trimL_out _ _ _ hx', ← List.drop_eq_getElem_cons hl, Lib.extract_eq, List.take_of_length_le (by rw [List.length_drop, Lib.size_eq]; omega)]
theorem trimL_end (s t : ByteArray) (hn : ∀ j (h : j < s.size), t.data.toList.contains s[j] = true) : (⟨#[]⟩ : ByteArray) = ⟨(Pl.trimL s.data.toList t.data.toList).toArray⟩ := by
  rw [Pl.trimL_drop _ _ s.size (fun j hj b hb => by
    obtain ⟨h1, e⟩ := List.getElem?_eq_some_iff.1 hb
    rw [← e]; exact hn j hj), Lib.size_eq, List.drop_length]
  rfl
set_option maxRecDepth 100000 in
set_option maxHeartbeats 4000000 in
theorem zzTrimLeft_any (s t : ByteArray) (w : World) (_hs : s.size ≤ 2147483647) (ht : t.size ≤ 2147483647) (ha : AllAscii t) :
    Calls Tryz.prog 122 #[.string s, .string t] w fun e w' => e = .returned (.string ⟨(Pl.trimL s.data.toList t.data.toList).toArray⟩) ∧ Below w.heap.size w w' := by
  have HA := hid ha
  clear ha
  go_enter Tryz.func122, Tryz.ntmps122
  go_wp2
  go_loopw [] (fun wr => ∃ pos : Nat, pos ≤ s.size ∧ wr.heap[w.heap.size]? = some (.stringIter s pos) ∧ Below w.heap.size w wr ∧ Hid (∀ j (h : j < s.size), j < pos → t.data.toList.contains s[j] = true)) (fun wr => s.size - wr.iterPos w.heap.size)
  case atStart => exact ⟨0, Nat.zero_le _, World.iter_heap w s 0, (Below.refl _ _).alloc (Nat.le_refl _) _, hid fun j _ hj => by omega⟩
  case round =>
    obtain ⟨pos, hpl, hit, hbw, HN⟩ := hrel
    have hpos0 := hid (iterPos_of hit)
    by_cases hp : pos < s.size
    · have hnx : ∀ ty, (Instr.next (.pointer (some ⟨w.heap.size, 0, none⟩)) true ty).run Tryz.prog wr = _ := fun ty => Lib.run_next_any_at wr w.heap.size s pos ty hit hp
      have hit2 := Lib.iterAt_heap wr w.heap.size s pos (pos + (Utf8.decode s pos).2) hit
      have hbw2 := Lib.below_iterAt hbw (k := w.heap.size) (Nat.le_refl _) s (pos + (Utf8.decode s pos).2)
      obtain ⟨W1, hW1⟩ : ∃ W1, W1 = wr.iterAt w.heap.size s (pos + (Utf8.decode s pos).2) := ⟨_, rfl⟩
      rw [← hW1] at hnx hit2 hbw2
      clear hW1 hit hbw
      have hcs : ∃ c n : Nat, (Utf8.decode s pos) = (c, n) ∧ c ≤ 2147483647 ∧ inSetB t c = t.data.toList.contains s[pos] ∧ (inSetB t c = true → n = 1) := by
        by_cases hlow : s[pos].toNat < 128
        · exact ⟨_, _, decode_ascii s pos hp hlow, by omega, inSet_ascii t s[pos], fun _ => rfl⟩
        · have h1 := decode_ge s pos hp (by omega)
          have h2 := inSet_high t HA.out _ h1
          refine ⟨(Utf8.decode s pos).1, (Utf8.decode s pos).2, rfl, decode_small s pos, ?_, fun h => by rw [h2] at h; cases h⟩
          rw [h2, ← inSet_ascii, inSet_high t HA.out _ (by omega)]
      obtain ⟨c, n, hdec, hc1, hc2, hc3⟩ := hcs
      rw [hdec] at hnx hit2
      have HIN := hid (fun W => inSet_any c t W ht HA.out)
      have HIT2 := hid hit2
      have HB2 := hid hbw2
      clear hdec hit2
      obtain ⟨x, hx⟩ : ∃ x, x = inSetB t c := ⟨_, rfl⟩
      rw [← hx] at HIN hc2 hc3
      clear hx
      have HC2 := hid hc2
      have HC3 := hid hc3
      clear hc2 hc3 hbw2
      cases x with
      | true =>
        go_wp2_with (go_at_call 162; refine (HIN.out _).mono ?_; rintro e W2 ⟨rfl, hb2⟩)
        have hn1 := HC3.out (by first | trivial | rfl)
        have hit3 : W2.heap[w.heap.size]? = some (.stringIter s (pos + 1)) := by
          rw [hb2.block _ (lt_of_block HIT2.out), HIT2.out, hn1]
        go_roundw
        case rel => exact ⟨pos + 1, by omega, hit3, HB2.out.trans (hb2.mono HB2.out.size), hid fun j h hj => by
          by_cases e : j = pos
          · subst e; exact HC2.out.symm
          · exact HN.out j h (by omega)⟩
        case measure => rw [hpos0.out, iterPos_of hit3]; omega
      | false =>
        go_wp2_with (go_at_call 162; refine (HIN.out _).mono ?_; rintro e W2 ⟨rfl, hb2⟩)
        go_ret
        exact ⟨ret_str (trimL_at s t pos hp HN.out HC2.out.symm), HB2.out.trans (hb2.mono HB2.out.size)⟩
    · have hnx : ∀ ty, (Instr.next (.pointer (some ⟨w.heap.size, 0, none⟩)) true ty).run Tryz.prog wr = _ := fun ty => Lib.run_next_end_at wr w.heap.size s pos ty hit hp
      go_wp2
      go_ret
      exact ⟨ret_str (trimL_end s t fun j h => HN.out j h (by omega)), hbw⟩

theorem trimR_at (s t : ByteArray) (m : Nat) (hm : m < s.size) (hn : ∀ j (h : j < s.size), m + 1 ≤ j → t.data.toList.contains s[j] = true) (hx : t.data.toList.contains s[m] = false) :
    s.extract 0 (m + 1) = ⟨(Pl.trimR s.data.toList t.data.toList).toArray⟩ := by
  have hl : m < s.data.toList.length := by rw [← Lib.size_eq]; exact hm
  have hx' : t.data.toList.contains s.data.toList[m] = false := hx
  rw [Pl.trimR_take _ _ (s.data.toList.length - (m + 1)) (by omega) (fun j hj b hb => by
    obtain ⟨h1, e⟩ := List.getElem?_eq_some_iff.1 hb
    rw [← e]; exact hn j (by rw [Lib.size_eq]; exact h1) (by omega)), show s.data.toList.length - (s.data.toList.length - (m + 1)) = m + 1 by omega,
    List.take_succ_eq_append_getElem hl, Pl.trimR_snoc_out _ _ hx', ← List.take_succ_eq_append_getElem hl, Lib.extract_eq, List.drop_zero, Nat.sub_zero]
theorem trimR_end (s t : ByteArray) (hn : ∀ j (h : j < s.size), t.data.toList.contains s[j] = true) : ByteArray.empty = ⟨(Pl.trimR s.data.toList t.data.toList).toArray⟩ := by
  rw [Pl.trimR_take _ _ s.data.toList.length (Nat.le_refl _) (fun j hj b hb => by
    obtain ⟨h1, e⟩ := List.getElem?_eq_some_iff.1 hb
    rw [← e]; exact hn j (by rw [Lib.size_eq]; exact h1)), Nat.sub_self, List.take_zero]
  rfl
theorem contains_take_succ (t : ByteArray) (i : Nat) (h : i < t.size) (x : UInt8) : (t.data.toList.take (i + 1)).contains x = ((t.data.toList.take i).contains x || (t[i] == x)) := by
  rw [List.take_succ_eq_append_getElem (by rw [← Lib.size_eq]; exact h)]
  rw [Bool.eq_iff_iff]
  simp only [List.contains_iff_mem, List.mem_append, List.mem_singleton, Bool.or_eq_true, beq_iff_eq]
  constructor
  · rintro (h | h)
    · exact .inl h
    · exact .inr h.symm
  · rintro (h | h)
    · exact .inl h
    · exact .inr h.symm
set_option maxRecDepth 100000 in
set_option maxHeartbeats 4000000 in
theorem zzTrimRight_any (s t : ByteArray) (w : World) (hs : s.size ≤ 2147483647) (ht : t.size ≤ 2147483647) :
    Calls Tryz.prog 123 #[.string s, .string t] w fun e w' => e = .returned (.string ⟨(Pl.trimR s.data.toList t.data.toList).toArray⟩) ∧ Below w.heap.size w w' := by
  go_enter Tryz.func123, Tryz.ntmps123
  go_wp2
  go_loopw [5] (fun i wr => ∃ n : Nat, n ≤ s.size ∧ i = .int .i64 n ∧ Hid (∀ j (h : j < s.size), n ≤ j → t.data.toList.contains s[j] = true) ∧ Below w.heap.size w wr) (fun i _ => (intOf i).toNat)
  case atStart => exact ⟨s.size, Nat.le_refl _, rfl, hid fun j h hj => by omega, Below.refl _ _⟩
  case round =>
    obtain ⟨n, hn, rfl, HN, hbw⟩ := hrel
    by_cases h0 : 0 < n
    · obtain ⟨m, rfl⟩ : ∃ m, n = m + 1 := ⟨n - 1, by omega⟩
      have hsm : m < s.size := by omega
      go_wp2
      obtain ⟨wo, hwo⟩ : ∃ wo : World, wo = wr := ⟨_, rfl⟩
      subst hwo
      go_loopw [6, 7] (fun b i wi => ∃ k : Nat, k ≤ t.size ∧ i = .int .i64 k ∧ (∃ x : Bool, b = .bool x ∧ Hid (x = (t.data.toList.take k).contains s[m])) ∧ Below w.heap.size w wi) (fun _ i _ => t.size - (intOf i).toNat)
      case atStart => exact ⟨0, Nat.zero_le _, rfl, ⟨false, rfl, rfl⟩, hbw⟩
      case round =>
        obtain ⟨k, hk, rfl, ⟨x, rfl, HX⟩, hbi⟩ := hrel
        by_cases hlt : k < t.size
        · have HT := hid (contains_take_succ t k hlt s[m])
          have q1 : (k : Int) < (t.size : Int) := by omega
          have q2 : (m : Int) < (s.size : Int) := by omega
          have q3 : ((m : Int) + 1 - 1).toNat = m := by omega
          have q4 : IntKind.i64.wrap ((m : Int) + 1 - 1) = (m : Int) := by rw [show (m : Int) + 1 - 1 = m by omega]; exact IntWalk.i64_in _ (by omega)
          by_cases he : t[k] = s[m]
          · have e1 : ((t[k].toNat : Int) == (s[m].toNat : Int)) = true := by rw [he]; simp
            go_wp2
            go_quiet (fail)
            go_wp2
            exact ⟨⟨k + 1, by omega, by go_num, ⟨true, rfl, hid (by rw [HT.out, he]; simp)⟩, below_drewN hbi _⟩, by simp [intOf]; omega⟩
          · have e1 : ((t[k].toNat : Int) == (s[m].toNat : Int)) = false := by
              have : ¬ t[k].toNat = s[m].toNat := fun h => he (UInt8.toNat_inj.1 h)
              simp; omega
            go_wp2
            go_quiet (fail)
            go_wp2
            exact ⟨⟨k + 1, by omega, by go_num, ⟨x, rfl, hid (by rw [HT.out, ← HX.out]; simp [he])⟩, below_drewN hbi _⟩, by simp [intOf]; omega⟩
        · have HX2 := hid (show x = t.data.toList.contains s[m] by rw [HX.out, List.take_of_length_le (by rw [← Lib.size_eq]; omega)])
          clear HX
          cases x with
          | true =>
            go_wp2
            exact ⟨⟨m, by omega, by go_num, hid fun j h hj => by
              by_cases e : j = m
              · subst e; exact HX2.out.symm
              · exact HN.out j h (by omega), hbi⟩, by simp [intOf]⟩
          | false =>
            go_wp2
            go_ret
            exact ⟨ret_str (trimR_at s t m hsm HN.out HX2.out.symm), hbi⟩
    · have HF := hid (show n = 0 by omega)
      have h00 : n = 0 := HF.out
      subst h00
      go_wp2
      go_ret
      exact ⟨ret_str (trimR_end s t fun j h => HN.out j h (by omega)), hbw⟩

def hasB (t : ByteArray) (c : UInt8) : Bool := t.data.toList.contains c
theorem size_trimL (s t : ByteArray) : (⟨(Pl.trimL s.data.toList t.data.toList).toArray⟩ : ByteArray).size ≤ s.size := by
  rw [Lib.size_eq, Lib.size_eq s]; exact Pl.trimL_le _ _
theorem size_trimR (s t : ByteArray) : (⟨(Pl.trimR s.data.toList t.data.toList).toArray⟩ : ByteArray).size ≤ s.size := by
  rw [Lib.size_eq, Lib.size_eq s]; exact Pl.trimR_le _ _
set_option maxRecDepth 100000 in
set_option maxHeartbeats 4000000 in
theorem zzTrim_any (s t : ByteArray) (w : World) (hs : s.size ≤ 2147483647) (ht : t.size ≤ 2147483647) (ha : AllAscii t) :
    Calls Tryz.prog 124 #[.string s, .string t] w fun e w' => e = .returned (.string ⟨(Pl.trimR (Pl.trimL s.data.toList t.data.toList) t.data.toList).toArray⟩) ∧ Below w.heap.size w w' := by
  obtain ⟨x, hx⟩ : ∃ x : ByteArray, x = ⟨(Pl.trimL s.data.toList t.data.toList).toArray⟩ := ⟨_, rfl⟩
  have hxs : x.size ≤ 2147483647 := by have := size_trimL s t; rw [hx]; omega
  have e : Pl.trimL s.data.toList t.data.toList = x.data.toList := by rw [hx]
  have HL := hid (fun W => zzTrimLeft_any s t W hs ht ha)
  have HR := hid (fun W => zzTrimRight_any x t W hxs ht)
  rw [← hx] at HL
  rw [e]
  clear hx e ha
  go_enter Tryz.func124, Tryz.ntmps124
  go_wp2_with fail
  refine (HL.out _).mono ?_
  rintro e w1 ⟨rfl, hb1⟩
  have HB1 := hid hb1
  clear hb1
  go_wp2_with fail
  refine (HR.out _).mono ?_
  rintro e w2 ⟨rfl, hb2⟩
  go_wp2_with fail
  go_ret
  exact ⟨rfl, HB1.out.trans (hb2.mono HB1.out.size)⟩

set_option maxRecDepth 100000 in
set_option maxHeartbeats 4000000 in
theorem has_any (t : ByteArray) (c : UInt8) (w : World) (ht : t.size ≤ 2147483647) :
    Calls Tryz.prog 72 #[.string t, .int .u8 c.toNat] w fun e w' => e = .returned (.bool (hasB t c)) ∧ w = w' := by
  have hcb : c.toNat < 256 := UInt8.toNat_lt _
  go_enter Tryz.func72, Tryz.ntmps72
  go_wp2
  go_loop [8] (fun i => ∃ k : Nat, k ≤ t.size ∧ i = .int .i64 k ∧ Hid ((t.data.toList.take k).contains c = false)) (fun i => t.size - (intOf i).toNat)
  case atStart => exact ⟨0, Nat.zero_le _, rfl, rfl⟩
  case round =>
    obtain ⟨k, hk, rfl, HN⟩ := hrel
    by_cases hlt : k < t.size
    · have HT := hid (contains_take_succ t k hlt c)
      by_cases he : t[k] = c
      · have e1 : ((t[k].toNat : Int) == (c.toNat : Int)) = true := by rw [he]; simp
        have HM := hid (show hasB t c = true by unfold hasB; rw [List.contains_iff_mem, ← he]; exact List.getElem_mem (by rw [← Lib.size_eq]; exact hlt))
        clear he
        go_wp2
        go_ret
        exact ⟨ret_bool HM.out.symm, rfl⟩
      · have e1 : ((t[k].toNat : Int) == (c.toNat : Int)) = false := by
          have : ¬ t[k].toNat = c.toNat := fun h => he (UInt8.toNat_inj.1 h)
          simp; omega
        have HE := hid he
        clear he
        go_wp2
        go_round
        case rel => exact ⟨k + 1, by omega, by go_num, hid (by rw [HT.out, HN.out]; simp [HE.out])⟩
        case measure => simp [intOf]; omega
    · have HF := hid (show hasB t c = false by
        have := HN.out
        rw [List.take_of_length_le (by rw [← Lib.size_eq]; omega)] at this
        exact this)
      go_wp2
      go_ret
      exact ⟨ret_bool HF.out.symm, rfl⟩

theorem trimL_extract (s t : ByteArray) (h : 0 < s.size) (hc : t.data.toList.contains s[0] = true) : Pl.trimL (s.extract 1 s.size).data.toList t.data.toList = Pl.trimL s.data.toList t.data.toList := by
  have hl : 0 < s.data.toList.length := by rw [← Lib.size_eq]; exact h
  have hc' : t.data.toList.contains s.data.toList[0] = true := hc
  rw [Lib.extract_data, List.take_of_length_le (by rw [List.length_drop, Lib.size_eq]; omega)]
  conv => rhs; rw [← List.drop_zero (l := s.data.toList), List.drop_eq_getElem_cons hl, Pl.trimL_in _ _ _ hc']
theorem trimL_stop (s t : ByteArray) (h : s.size = 0 ∨ ∃ h : 0 < s.size, t.data.toList.contains s[0] = false) : s = ⟨(Pl.trimL s.data.toList t.data.toList).toArray⟩ := by
  rcases h with h | ⟨h, hc⟩
  · have : s.data.toList = [] := by rw [Lib.size_eq] at h; exact List.length_eq_zero_iff.1 h
    rw [this]; rw [← Lib.mk_data s, this]; rfl
  · have hl : 0 < s.data.toList.length := by rw [← Lib.size_eq]; exact h
    have hc' : t.data.toList.contains s.data.toList[0] = false := hc
    have : Pl.trimL s.data.toList t.data.toList = s.data.toList := by
      rw [← List.drop_zero (l := s.data.toList), List.drop_eq_getElem_cons hl, Pl.trimL_out _ _ _ hc']
    rw [this, Lib.mk_data]
theorem trimR_extract (s t : ByteArray) (h : 0 < s.size) (hc : t.data.toList.contains s[s.size - 1] = true) : Pl.trimR (s.extract 0 (s.size - 1)).data.toList t.data.toList = Pl.trimR s.data.toList t.data.toList := by
  have hl : s.size - 1 < s.data.toList.length := by rw [← Lib.size_eq]; omega
  have hc' : t.data.toList.contains s.data.toList[s.size - 1] = true := hc
  rw [Lib.extract_data, List.drop_zero, Nat.sub_zero]
  conv => rhs; rw [← List.take_length (l := s.data.toList), ← Lib.size_eq, show s.size = s.size - 1 + 1 by omega, List.take_succ_eq_append_getElem hl, Pl.trimR_snoc_in _ _ hc']
theorem trimR_stop (s t : ByteArray) (h : s.size = 0 ∨ ∃ h : 0 < s.size, t.data.toList.contains s[s.size - 1] = false) : s = ⟨(Pl.trimR s.data.toList t.data.toList).toArray⟩ := by
  rcases h with h | ⟨h, hc⟩
  · have : s.data.toList = [] := by rw [Lib.size_eq] at h; exact List.length_eq_zero_iff.1 h
    rw [this]; rw [← Lib.mk_data s, this]; rfl
  · have hl : s.size - 1 < s.data.toList.length := by rw [← Lib.size_eq]; omega
    have hc' : t.data.toList.contains s.data.toList[s.size - 1] = false := hc
    have e : s.data.toList = s.data.toList.take (s.size - 1) ++ [s.data.toList[s.size - 1]] := by
      rw [← List.take_succ_eq_append_getElem hl, show s.size - 1 + 1 = s.size by omega, Lib.size_eq, List.take_length]
    have : Pl.trimR s.data.toList t.data.toList = s.data.toList := by
      conv => lhs; rw [e, Pl.trimR_snoc_out _ _ hc']
      exact e.symm
    rw [this, Lib.mk_data]
set_option maxRecDepth 100000 in
set_option maxHeartbeats 4000000 in
theorem specTrimL_any (s t : ByteArray) (w : World) (_hs : s.size ≤ 2147483647) (ht : t.size ≤ 2147483647) :
    Calls Tryz.prog 41 #[.string s, .string t] w fun e w' => e = .returned (.string ⟨(Pl.trimL s.data.toList t.data.toList).toArray⟩) ∧ w = w' := by
  obtain ⟨y, hy⟩ : ∃ y : List UInt8, y = Pl.trimL s.data.toList t.data.toList := ⟨_, rfl⟩
  rw [← hy]
  have HY := hid hy
  clear hy
  go_enter Tryz.func41, Tryz.ntmps41
  go_wp2
  go_loop [0] (fun v => ∃ x : ByteArray, v = .string x ∧ x.size ≤ s.size ∧ Hid (Pl.trimL x.data.toList t.data.toList = y)) (fun v => match v with | .string x => x.size | _ => 0)
  case atStart => exact ⟨s, rfl, Nat.le_refl _, HY.out.symm⟩
  case round =>
    obtain ⟨x, rfl, hxs, HX⟩ := hrel
    by_cases h0 : 0 < x.size
    · cases hc : t.data.toList.contains x[0] with
      | true =>
        have HE := hid (trimL_extract x t h0 hc)
        have hh := has_any t x[0] w ht
        rw [show hasB t x[0] = true from hc] at hh
        have HH := hid hh
        clear hh hc
        have hsz : (x.extract 1 x.size).size = x.size - 1 := by simp
        have HSZ := hid hsz
        clear hsz
        go_wp2_with (go_at_call 72; refine HH.out.mono ?_; rintro e w2 ⟨rfl, rfl⟩)
        exact ⟨⟨x.extract 1 x.size, rfl, by rw [HSZ.out]; omega, HE.out.trans HX.out⟩, by show (x.extract 1 x.size).size < x.size; rw [HSZ.out]; omega⟩
      | false =>
        have HE := hid (trimL_stop x t (.inr ⟨h0, hc⟩))
        have hh := has_any t x[0] w ht
        rw [show hasB t x[0] = false from hc] at hh
        have HH := hid hh
        clear hh hc
        go_wp2_with (go_at_call 72; refine HH.out.mono ?_; rintro e w2 ⟨rfl, rfl⟩)
        go_ret
        exact ⟨ret_str (by rw [← HX.out]; exact HE.out), rfl⟩
    · have HE := hid (trimL_stop x t (.inl (by omega)))
      go_wp2
      go_ret
      exact ⟨ret_str (by rw [← HX.out]; exact HE.out), rfl⟩

set_option maxRecDepth 100000 in
set_option maxHeartbeats 4000000 in
theorem specTrimR_any (s t : ByteArray) (w : World) (hs : s.size ≤ 2147483647) (ht : t.size ≤ 2147483647) :
    Calls Tryz.prog 42 #[.string s, .string t] w fun e w' => e = .returned (.string ⟨(Pl.trimR s.data.toList t.data.toList).toArray⟩) ∧ w = w' := by
  obtain ⟨y, hy⟩ : ∃ y : List UInt8, y = Pl.trimR s.data.toList t.data.toList := ⟨_, rfl⟩
  rw [← hy]
  have HY := hid hy
  clear hy
  go_enter Tryz.func42, Tryz.ntmps42
  go_wp2
  go_loop [0] (fun v => ∃ x : ByteArray, v = .string x ∧ x.size ≤ s.size ∧ Hid (Pl.trimR x.data.toList t.data.toList = y)) (fun v => match v with | .string x => x.size | _ => 0)
  case atStart => exact ⟨s, rfl, Nat.le_refl _, HY.out.symm⟩
  case round =>
    obtain ⟨x, rfl, hxs, HX⟩ := hrel
    by_cases h0 : 0 < x.size
    · cases hc : t.data.toList.contains x[x.size - 1] with
      | true =>
        have HE := hid (trimR_extract x t h0 hc)
        have hh := has_any t x[x.size - 1] w ht
        rw [show hasB t x[x.size - 1] = true from hc] at hh
        have HH := hid hh
        clear hh hc
        have hsz : (x.extract 0 (x.size - 1)).size = x.size - 1 := by simp
        have HSZ := hid hsz
        clear hsz
        go_wp2_with (go_at_call 72; refine HH.out.mono ?_; rintro e w2 ⟨rfl, rfl⟩)
        exact ⟨⟨x.extract 0 (x.size - 1), rfl, by rw [HSZ.out]; omega, HE.out.trans HX.out⟩, by show (x.extract 0 (x.size - 1)).size < x.size; rw [HSZ.out]; omega⟩
      | false =>
        have HE := hid (trimR_stop x t (.inr ⟨h0, hc⟩))
        have hh := has_any t x[x.size - 1] w ht
        rw [show hasB t x[x.size - 1] = false from hc] at hh
        have HH := hid hh
        clear hh hc
        go_wp2_with (go_at_call 72; refine HH.out.mono ?_; rintro e w2 ⟨rfl, rfl⟩)
        go_ret
        exact ⟨ret_str (by rw [← HX.out]; exact HE.out), rfl⟩
    · have HE := hid (trimR_stop x t (.inl (by omega)))
      go_wp2
      go_ret
      exact ⟨ret_str (by rw [← HX.out]; exact HE.out), rfl⟩
end Go.Proofs.YtlallleahgfdkaaGreatDoor
