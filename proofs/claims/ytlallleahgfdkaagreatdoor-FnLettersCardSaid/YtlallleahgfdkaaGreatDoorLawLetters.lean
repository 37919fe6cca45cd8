/- The law FnLetters: called with any string it returns true, and makes new memory alone. -/
import Derived.Test.YtlallleahgfdkaaGreatDoorLetters
namespace Go.Proofs.YtlallleahgfdkaaGreatDoor
open Go.RowKit
set_option maxRecDepth 100000 in
set_option maxHeartbeats 4000000 in
theorem fnLetters_any (s : ByteArray) (w : World) :
    Calls Tryz.prog 6 #[.string s] w fun e w' => e = .returned (.bool true) ∧ Below w.heap.size w w' := by
  by_cases h1 : 2147483647 < s.size
  · go_enter Tryz.func6, Tryz.ntmps6
    go_wp2
    go_ret
    exact ⟨rfl, Below.refl _ _⟩
  go_enter Tryz.func6, Tryz.ntmps6
  go_wp2_with fail
  refine (ascii_any [s] _ _ (by simp) (fun i hi => ?_) (fun i hi => ?_)).mono ?_
  · match i, hi with
    | 0, _ => show s.size ≤ _; omega
  · match i, hi with
    | 0, _ => simp
  rintro e w1 ⟨asc, rfl, hasc, rfl⟩
  have HB := hid (((Below.refl w.heap.size w).alloc (Nat.le_refl _) (.cells #[.string s] 9)))
  have HASC := hid hasc
  clear hasc
  cases asc with
  | false =>
    go_wp2_with fail
    refine (alive_any _).mono ?_
    rintro e w2 ⟨rfl, hb2⟩
    have HB2 := hid (HB.out.trans (hb2.mono HB.out.size))
    clear HB hb2
    go_wp2_with fail
    go_ret
    exact ⟨rfl, HB2.out⟩
  | true =>
  have ha : AllAscii s := HASC.out rfl 0 (by simp)
  have HA := hid ha
  clear ha HASC
  by_cases hbig : 1000 < s.size
  ·
    go_wp2_with fail
    refine (alive_any _).mono ?_
    rintro e w2 ⟨rfl, hb2⟩
    have HB2 := hid (HB.out.trans (hb2.mono HB.out.size))
    clear HB hb2
    go_wp2_with fail
    go_ret
    exact ⟨rfl, HB2.out⟩

  obtain ⟨x, hx⟩ : ∃ x : ByteArray, x = ⟨(Lib.toLowerA s.data.toList).toArray⟩ := ⟨_, rfl⟩
  obtain ⟨y, hy⟩ : ∃ y : ByteArray, y = ⟨(Lib.toUpperA s.data.toList).toArray⟩ := ⟨_, rfl⟩
  have HL := hid (fun W => lower_any s W (by omega) HA.out)
  have HU := hid (fun W => upper_any s W (by omega) HA.out)
  have HL2 := hid (fun W => letters_low s W (by omega))
  have HU2 := hid (fun W => letters_up s W (by omega))
  rw [← hx] at HL HL2
  rw [← hy] at HU HU2
  clear hx hy
  go_wp2_with fail
  refine (HL.out _).mono ?_
  rintro e w2 ⟨rfl, hb2⟩
  have HB2 := hid (HB.out.trans (hb2.mono HB.out.size))
  clear HB hb2
  go_wp2_with fail
  refine (HU.out _).mono ?_
  rintro e w3 ⟨rfl, hb3⟩
  have HB3 := hid (HB2.out.trans (hb3.mono HB2.out.size))
  clear HB2 hb3
  go_wp2_with fail
  refine (HL2.out _).mono ?_
  rintro e w4 ⟨rfl, hb4⟩
  have HB4 := hid (HB3.out.trans (hb4.mono HB3.out.size))
  clear HB3 hb4
  go_wp2_with fail
  refine (is_yes _ _).mono ?_
  rintro e w5 ⟨rfl, rfl⟩
  go_wp2_with fail
  refine (HU2.out _).mono ?_
  rintro e w6 ⟨rfl, hb6⟩
  have HB6 := hid (HB4.out.trans (hb6.mono HB4.out.size))
  clear HB4 hb6
  go_wp2_with fail
  refine (is_yes _ _).mono ?_
  rintro e w7 ⟨rfl, rfl⟩
  go_wp2_with fail
  refine (alive_any _).mono ?_
  rintro e w8 ⟨rfl, hb8⟩
  have HB8 := hid (HB6.out.trans (hb8.mono HB6.out.size))
  clear HB6 hb8
  go_wp2_with fail
  go_ret
  exact ⟨rfl, HB8.out⟩
end Go.Proofs.YtlallleahgfdkaaGreatDoor
