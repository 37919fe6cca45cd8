/- The law FnCount: called with any two strings, where the table of powers of ten reads as laid, it returns true, and makes new memory alone. -/
import Derived.Test.YtlallleahgfdkaaGreatDoorCountImpl
import Derived.Test.YtlallleahgfdkaaGreatDoorImpl2
import Derived.Test.YtlallleahgfdkaaGreatDoorPowLt
namespace Go.Proofs.YtlallleahgfdkaaGreatDoor
open Go.RowKit

set_option maxRecDepth 100000 in
set_option maxHeartbeats 4000000 in
theorem fnCount_any (s t : ByteArray) (w : World) (HT : Hid (PowAt w)) :
    Calls Tryz.prog 12 #[.string s, .string t] w fun e w' => e = .returned (.bool true) ∧ Below w.heap.size w w' := by
  by_cases h1 : 2147483647 < s.size
  · go_enter Tryz.func12, Tryz.ntmps12
    go_wp2
    go_ret
    exact ⟨rfl, Below.refl _ _⟩
  by_cases h2 : 2147483647 < t.size
  · go_enter Tryz.func12, Tryz.ntmps12
    go_wp2
    go_ret
    exact ⟨rfl, Below.refl _ _⟩
  have hst : ∀ W, PowAt W → 1 ≤ t.size → Calls Tryz.prog 43 #[.string s, .string t] W fun e w' => e = .returned (.tuple #[.int .i64 (Pl.cntFrom s.data.toList t.data.toList 0 : Nat), .bool true]) ∧ Below W.heap.size W w' := fun W hW h => count_any s t W (by omega) (by omega) h hW
  have hsp : ∀ W, 1 ≤ t.size → Calls Tryz.prog 44 #[.string s, .string t] W (SplitPost s t W) := fun W h => split_any s t W (by omega) (by omega) h
  have HST := hid hst
  have HSP := hid hsp
  unfold SplitPost at HSP
  clear hst hsp
  obtain ⟨c, hc⟩ : ∃ c, c = Pl.cntFrom s.data.toList t.data.toList 0 := ⟨_, rfl⟩
  have hcle : c ≤ 2147483647 := by rw [hc]; exact Nat.le_trans (Pl.cntFrom_le _ _ _) (by rw [← Lib.size_eq]; omega)
  rw [← hc] at HST HSP
  clear hc
  go_enter Tryz.func12, Tryz.ntmps12
  go_wp2_with fail
  refine (ready_any [s, t] _ _ (by simp) (fun i hi => ?_) (by simp) (fun i hi => ?_)).mono ?_
  · match i, hi with
    | 0, _ => show s.size ≤ _; omega
    | 1, _ => show t.size ≤ _; omega
  · match i, hi with
    | 0, _ => simp
    | 1, _ => simp
  rintro e w1 ⟨rd, rfl, hx, hb1⟩
  have hbel : Below w.heap.size w w1 := ((Below.refl _ _).alloc (Nat.le_refl _) _).trans (hb1.mono (by simp))
  have HB := hid hbel
  clear hbel hb1
  clear hx
  cases rd with
  | false =>
    go_wp2_with fail
    refine (alive_any _).mono ?_
    rintro e w2 ⟨rfl, hb2⟩
    go_wp2
    go_ret
    exact ⟨rfl, HB.out.trans (hb2.mono HB.out.size)⟩
  | true =>
  cases he : t.toList.isEmpty with
  | true =>
    go_wp2_with fail
    refine (alive_any _).mono ?_
    rintro e w2 ⟨rfl, hb2⟩
    go_wp2
    go_ret
    exact ⟨rfl, HB.out.trans (hb2.mono HB.out.size)⟩
  | false =>
    have ht1 : 1 ≤ t.size := by
      rcases Nat.eq_zero_or_pos t.size with h0 | h0
      · exfalso
        rw [Lib.size_eq] at h0
        have h3 := List.eq_nil_of_length_eq_zero h0
        rw [Lib.toList_data, h3] at he
        simp at he
      · exact h0
    go_wp2_with fail
    refine (HST.out _ (HT.out.of HB.out) ht1).mono ?_
    rintro e w2 ⟨rfl, hb2⟩
    have HB2 := hid (HB.out.trans (hb2.mono HB.out.size))
    clear HB hb2
    go_wp2_with fail
    refine (HSP.out _ ht1).mono ?_
    rintro e w3 ⟨a, b, rfl, hb3⟩
    have HB3 := hid (HB2.out.trans (hb3.mono HB2.out.size))
    clear HB2 hb3
    go_wp2_with fail
    refine (alive_any _).mono ?_
    rintro e w4 ⟨rfl, hb4⟩
    go_wp2
    go_ret
    exact ⟨rfl, HB3.out.trans (hb4.mono HB3.out.size)⟩
end Go.Proofs.YtlallleahgfdkaaGreatDoor
