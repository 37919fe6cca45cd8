/- The law FnTrim: called with any two strings it returns true, and makes new memory alone. -/
import Derived.Test.YtlallleahgfdkaaGreatDoorTrimImpl
namespace Go.Proofs.YtlallleahgfdkaaGreatDoor
open Go.RowKit

set_option maxRecDepth 100000 in
set_option maxHeartbeats 4000000 in
theorem fnTrim_any (s t : ByteArray) (w : World) :
    Calls Tryz.prog 10 #[.string s, .string t] w fun e w' => e = .returned (.bool true) ∧ Below w.heap.size w w' := by
  by_cases h1 : 2147483647 < s.size
  · go_enter Tryz.func10, Tryz.ntmps10
    go_wp2
    go_ret
    exact ⟨rfl, Below.refl _ _⟩
  by_cases h2 : 2147483647 < t.size
  · go_enter Tryz.func10, Tryz.ntmps10
    go_wp2
    go_ret
    exact ⟨rfl, Below.refl _ _⟩
  go_enter Tryz.func10, Tryz.ntmps10
  go_wp2_with fail
  refine (ready_any [s] _ _ (by simp) (fun i hi => ?_) (by simp) (fun i hi => ?_)).mono ?_
  · match i, hi with
    | 0, _ => show s.size ≤ _; omega
  · match i, hi with
    | 0, _ => simp
  rintro e w1 ⟨rd, rfl, hx, hb1⟩
  have hbel : Below w.heap.size w w1 := ((Below.refl _ _).alloc (Nat.le_refl _) _).trans (hb1.mono (by simp))
  have HB := hid hbel
  clear hbel hb1
  cases rd with
  | false =>
    go_wp2_with fail
    refine (alive_any _).mono ?_
    rintro e w7 ⟨rfl, hb7⟩
    have HBX := hid (HB.out.trans (hb7.mono HB.out.size))
    clear HB hb7
    go_wp2_with fail
    go_ret
    exact ⟨rfl, HBX.out⟩
  | true =>
  clear hx
  go_wp2_with fail
  refine (ascii_any [t] _ _ (by simp) (fun i hi => ?_) (fun i hi => ?_)).mono ?_
  · match i, hi with
    | 0, _ => show t.size ≤ _; omega
  · match i, hi with
    | 0, _ => simp
  rintro e w2 ⟨asc, rfl, hasc, rfl⟩
  have HB2 := hid (HB.out.alloc HB.out.size (.cells #[.string t] 9))
  clear HB
  have HASC := hid hasc
  clear hasc
  cases asc with
  | false =>
    go_wp2_with fail
    refine (alive_any _).mono ?_
    rintro e w7 ⟨rfl, hb7⟩
    have HBX := hid (HB2.out.trans (hb7.mono HB2.out.size))
    clear HB2 hb7
    go_wp2_with fail
    go_ret
    exact ⟨rfl, HBX.out⟩
  | true =>
  have ha : AllAscii t := HASC.out rfl 0 (by simp)
  have HA := hid ha
  clear ha HASC
  by_cases hbig : 1000 < t.size
  ·
    go_wp2_with fail
    refine (alive_any _).mono ?_
    rintro e w7 ⟨rfl, hb7⟩
    have HBX := hid (HB2.out.trans (hb7.mono HB2.out.size))
    clear HB2 hb7
    go_wp2_with fail
    go_ret
    exact ⟨rfl, HBX.out⟩

  obtain ⟨x, hx⟩ : ∃ x : ByteArray, x = ⟨(Pl.trimL s.data.toList t.data.toList).toArray⟩ := ⟨_, rfl⟩
  obtain ⟨y, hy⟩ : ∃ y : ByteArray, y = ⟨(Pl.trimR s.data.toList t.data.toList).toArray⟩ := ⟨_, rfl⟩
  obtain ⟨z, hz⟩ : ∃ z : ByteArray, z = ⟨(Pl.trimR (Pl.trimL s.data.toList t.data.toList) t.data.toList).toArray⟩ := ⟨_, rfl⟩
  have hxs : x.size ≤ 2147483647 := by have := size_trimL s t; rw [hx]; omega
  have e : Pl.trimL s.data.toList t.data.toList = x.data.toList := by rw [hx]
  have HL := hid (fun W => trimLeft_any s t W (by omega) (by omega) HA.out)
  have HR := hid (fun W => trimRight_any s t W (by omega) (by omega))
  have HT := hid (fun W => trim_any s t W (by omega) (by omega) HA.out)
  have HL2 := hid (fun W => specTrimL_any s t W (by omega) (by omega))
  have HR2 := hid (fun W => specTrimR_any s t W (by omega) (by omega))
  have HT2 := hid (fun W => specTrimR_any x t W hxs (by omega))
  rw [← e, ← hz] at HT2
  rw [← hx] at HL HL2
  rw [← hy] at HR HR2
  rw [← hz] at HT
  clear hx hy hz e
  go_wp2_with fail
  refine (HL.out _).mono ?_
  rintro e w3 ⟨rfl, hb3⟩
  have HB3 := hid (HB2.out.trans (hb3.mono HB2.out.size))
  clear HB2 hb3
  go_wp2_with fail
  refine (HR.out _).mono ?_
  rintro e w4 ⟨rfl, hb4⟩
  have HB4 := hid (HB3.out.trans (hb4.mono HB3.out.size))
  clear HB3 hb4
  go_wp2_with fail
  refine (HT.out _).mono ?_
  rintro e w5 ⟨rfl, hb5⟩
  have HB5 := hid (HB4.out.trans (hb5.mono HB4.out.size))
  clear HB4 hb5
  go_wp2_with fail
  refine (HL2.out _).mono ?_
  rintro e w6 ⟨rfl, rfl⟩
  go_wp2_with fail
  refine (is_yes _ _).mono ?_
  rintro e w7 ⟨rfl, rfl⟩
  go_wp2_with fail
  refine (HR2.out _).mono ?_
  rintro e w8 ⟨rfl, rfl⟩
  go_wp2_with fail
  refine (is_yes _ _).mono ?_
  rintro e w9 ⟨rfl, rfl⟩
  go_wp2_with fail
  refine (HT2.out _).mono ?_
  rintro e w10 ⟨rfl, rfl⟩
  go_wp2_with fail
  refine (is_yes _ _).mono ?_
  rintro e w11 ⟨rfl, rfl⟩
  go_wp2_with fail
  refine (alive_any _).mono ?_
  rintro e w12 ⟨rfl, hb12⟩
  have HB12 := hid (HB5.out.trans (hb12.mono HB5.out.size))
  clear HB5 hb12
  go_wp2_with fail
  go_ret
  exact ⟨rfl, HB12.out⟩
end Go.Proofs.YtlallleahgfdkaaGreatDoor
