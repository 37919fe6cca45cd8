/- The law FnReverse: called with any string it returns true, and makes new memory alone. -/
import Derived.Test.YtlallleahgfdkaaGreatDoorReverse
namespace Go.Proofs.YtlallleahgfdkaaGreatDoor
open Go.RowKit

set_option maxRecDepth 100000 in
set_option maxHeartbeats 4000000 in
theorem fnReverse_any (s : ByteArray) (w : World) :
    Calls Tryz.prog 9 #[.string s] w fun e w' => e = .returned (.bool true) ∧ Below w.heap.size w w' := by
  by_cases h1 : 2147483647 < s.size
  · go_enter Tryz.func9, Tryz.ntmps9
    go_wp2
    go_ret
    exact ⟨rfl, Below.refl _ _⟩
  go_enter Tryz.func9, Tryz.ntmps9
  go_wp2_with fail
  refine (ascii_any [s] _ _ (by simp) (fun i hi => ?_) (fun i hi => ?_)).mono ?_
  · match i, hi with
    | 0, _ => show s.size ≤ _; omega
  · match i, hi with
    | 0, _ => simp
  rintro e w1 ⟨asc, rfl, hasc, rfl⟩
  have HB := hid (((Below.refl w.heap.size w).alloc (Nat.le_refl _) (.cells #[.string s] 9)))
  have HASC := hid hasc
  clear hasc
  cases asc with
  | false =>
    go_wp2_with fail
    refine (alive_any _).mono ?_
    rintro e w2 ⟨rfl, hb2⟩
    have HB2 := hid (HB.out.trans (hb2.mono HB.out.size))
    clear HB hb2
    go_wp2_with fail
    go_ret
    exact ⟨rfl, HB2.out⟩
  | true =>
  have ha : AllAscii s := HASC.out rfl 0 (by simp)
  have HA := hid ha
  clear ha HASC
  by_cases hbig : 1000 < s.size
  ·
    go_wp2_with fail
    refine (alive_any _).mono ?_
    rintro e w2 ⟨rfl, hb2⟩
    have HB2 := hid (HB.out.trans (hb2.mono HB.out.size))
    clear HB hb2
    go_wp2_with fail
    go_ret
    exact ⟨rfl, HB2.out⟩

  obtain ⟨x, hx⟩ : ∃ x : ByteArray, x = ⟨s.data.toList.reverse.toArray⟩ := ⟨_, rfl⟩
  have HR := hid (fun W => reverse_any s W (by omega) HA.out)
  have HS := hid (fun W => specReverse_any s W (by omega))
  rw [← hx] at HR HS
  clear hx
  go_wp2_with fail
  refine (HR.out _).mono ?_
  rintro e w2 ⟨rfl, hb2⟩
  have HB2 := hid (HB.out.trans (hb2.mono HB.out.size))
  clear HB hb2
  go_wp2_with fail
  refine (HS.out _).mono ?_
  rintro e w3 ⟨rfl, rfl⟩
  go_wp2_with fail
  refine (is_yes _ _).mono ?_
  rintro e w4 ⟨rfl, rfl⟩
  go_wp2_with fail
  refine (alive_any _).mono ?_
  rintro e w5 ⟨rfl, hb5⟩
  have HB5 := hid (HB2.out.trans (hb5.mono HB2.out.size))
  clear HB2 hb5
  go_wp2_with fail
  go_ret
  exact ⟨rfl, HB5.out⟩
end Go.Proofs.YtlallleahgfdkaaGreatDoor
