/- The law FnContains: called with any two strings it returns true, and makes new memory alone. -/
import Derived.Test.YtlallleahgfdkaaGreatDoorContains
namespace Go.Proofs.YtlallleahgfdkaaGreatDoor
open Go.RowKit

set_option maxRecDepth 100000 in
set_option maxHeartbeats 4000000 in
theorem fnContains_any (s t : ByteArray) (w : World) :
    Calls Tryz.prog 3 #[.string s, .string t] w fun e w' => e = .returned (.bool true) ∧ Below w.heap.size w w' := by
  by_cases h1 : 2147483647 < s.size
  · go_enter Tryz.func3, Tryz.ntmps3
    go_wp2
    go_ret
    exact ⟨rfl, Below.refl _ _⟩
  · by_cases h2 : 2147483647 < t.size
    · go_enter Tryz.func3, Tryz.ntmps3
      go_wp2
      go_ret
      exact ⟨rfl, Below.refl _ _⟩
    · go_enter Tryz.func3, Tryz.ntmps3
      go_wp2_with fail
      refine (ready_any [s, t] _ _ (by simp) (fun i hi => ?_) (by simp) (fun i hi => ?_)).mono ?_
      · match i, hi with
        | 0, _ => show s.size ≤ _; omega
        | 1, _ => show t.size ≤ _; omega
      · match i, hi with
        | 0, _ => simp
        | 1, _ => simp
      rintro e w1 ⟨x, rfl, hx, hb1⟩
      cases x with
      | false =>
        go_wp2
        go_ret
        exact ⟨rfl, ((Below.refl _ _).alloc (Nat.le_refl _) _).trans (hb1.mono (by simp))⟩
      | true =>
        clear hx
        have hbel : Below w.heap.size w w1 := ((Below.refl _ _).alloc (Nat.le_refl _) _).trans (hb1.mono (by simp))
        have HB := hid hbel
        clear hbel hb1
        by_cases ht : t.data.toList = []
        · have ht' : t.toList = [] := by rw [Lib.toList_data]; exact ht
          have ht2 : t.toList.isEmpty = true := by rw [ht']; rfl
          clear ht
          go_wp2
          go_ret
          exact ⟨rfl, HB.out⟩
        · have ht' : t.toList.isEmpty = false := by rw [Lib.toList_data]; cases hh : t.data.toList with | nil => exact absurd hh ht | cons => rfl
          obtain ⟨n, hn⟩ : ∃ n : Nat, n = Pl.nAt s.data.toList t.data.toList s.size := ⟨_, rfl⟩
          have hc : ∀ W, Calls Tryz.prog 18 #[.string s, .string t] W fun e w' => e = .returned (.tuple #[.bool (decide (0 < n)), .bool true]) ∧ Below W.heap.size W w' := by
            intro W; rw [hn, Lib.size_eq, ← Pl.hasIn_nAt _ _ ht]; exact contains_any s t W (by omega) (by omega)
          have hp : ∀ W, Calls Tryz.prog 21 #[.string s, .string t] W fun e w' => ∃ a c, e = .returned (.slice a n c) ∧ Below W.heap.size W w' := by
            intro W; rw [hn]; exact places_any s t W (by omega)
          have HC := hid hc
          have HP := hid hp
          clear hc hp hn ht
          go_wp2_with fail
          refine (HC.out _).mono ?_
          rintro e w2 ⟨rfl, hb2⟩
          have HB2 := hid (HB.out.trans (hb2.mono HB.out.size))
          clear HB hb2
          go_wp2_with fail
          refine (startsWith_any s t _ (by omega) (by omega)).mono ?_
          rintro e w3 ⟨rfl, hb3⟩
          have HB3 := hid (HB2.out.trans (hb3.mono HB2.out.size))
          clear HB2 hb3
          go_wp2_with fail
          refine (endsWith_any s t _ (by omega) (by omega)).mono ?_
          rintro e w4 ⟨rfl, hb4⟩
          have HB4 := hid (HB3.out.trans (hb4.mono HB3.out.size))
          clear HB3 hb4
          go_wp2_with fail
          refine (HP.out _).mono ?_
          rintro e w5 ⟨a, c, rfl, hb5⟩
          have HB5 := hid (HB4.out.trans (hb5.mono HB4.out.size))
          clear HB4 hb5
          go_wp2_with fail
          refine (starts2_any s t _).mono ?_
          rintro e w6 ⟨rfl, rfl⟩
          go_wp2_with fail
          refine (ends_any s t _ (by omega) (by omega)).mono ?_
          rintro e w6 ⟨rfl, rfl⟩
          go_wp2_with fail
          go_ret
          exact ⟨rfl, HB5.out⟩
end Go.Proofs.YtlallleahgfdkaaGreatDoor
