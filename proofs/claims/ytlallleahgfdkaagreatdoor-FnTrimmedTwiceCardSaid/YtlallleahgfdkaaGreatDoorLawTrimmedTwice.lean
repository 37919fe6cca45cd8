/- The law FnTrimmedTwice: called with any two strings it returns true, and makes new memory alone. -/
import Derived.Test.YtlallleahgfdkaaGreatDoorTrimImpl
namespace Go.Proofs.YtlallleahgfdkaaGreatDoor
open Go.RowKit

set_option maxRecDepth 100000 in
set_option maxHeartbeats 4000000 in
theorem fnTrimmedTwice_any (s t : ByteArray) (w : World) :
    Calls Tryz.prog 11 #[.string s, .string t] w fun e w' => e = .returned (.bool true) ∧ Below w.heap.size w w' := by
  by_cases h1 : 2147483647 < s.size
  · go_enter Tryz.func11, Tryz.ntmps11
    go_wp2
    go_ret
    exact ⟨rfl, Below.refl _ _⟩
  by_cases h2 : 2147483647 < t.size
  · go_enter Tryz.func11, Tryz.ntmps11
    go_wp2
    go_ret
    exact ⟨rfl, Below.refl _ _⟩
  go_enter Tryz.func11, Tryz.ntmps11
  go_wp2_with fail
  refine (ready_any [s, t] _ _ (by simp) (fun i hi => ?_) (by simp) (fun i hi => ?_)).mono ?_
  · match i, hi with
    | 0, _ => show s.size ≤ _; omega
    | 1, _ => show t.size ≤ _; omega
  · match i, hi with
    | 0, _ => simp
    | 1, _ => simp
  rintro e w1 ⟨rd, rfl, hx, hb1⟩
  have hbel : Below w.heap.size w w1 := ((Below.refl _ _).alloc (Nat.le_refl _) _).trans (hb1.mono (by simp))
  have HB := hid hbel
  clear hbel hb1
  cases rd with
  | false =>
    go_wp2
    go_ret
    exact ⟨rfl, HB.out⟩
  | true =>
  clear hx
  go_wp2_with fail
  refine (ascii_any [t] _ _ (by simp) (fun i hi => ?_) (fun i hi => ?_)).mono ?_
  · match i, hi with
    | 0, _ => show t.size ≤ _; omega
  · match i, hi with
    | 0, _ => simp
  rintro e w2 ⟨asc, rfl, hasc, rfl⟩
  have HB2 := hid (HB.out.alloc HB.out.size (.cells #[.string t] 9))
  clear HB
  have HASC := hid hasc
  clear hasc
  cases asc with
  | false =>
    go_wp2
    go_ret
    exact ⟨rfl, HB2.out⟩
  | true =>
  have ha : AllAscii t := HASC.out rfl 0 (by simp)
  have HA := hid ha
  clear ha HASC
  obtain ⟨x, hx⟩ : ∃ x : ByteArray, x = ⟨(Pl.trimL s.data.toList t.data.toList).toArray⟩ := ⟨_, rfl⟩
  obtain ⟨y, hy⟩ : ∃ y : ByteArray, y = ⟨(Pl.trimR s.data.toList t.data.toList).toArray⟩ := ⟨_, rfl⟩
  obtain ⟨z, hz⟩ : ∃ z : ByteArray, z = ⟨(Pl.trimR (Pl.trimL s.data.toList t.data.toList) t.data.toList).toArray⟩ := ⟨_, rfl⟩
  have hxs : x.size ≤ 2147483647 := by have := size_trimL s t; rw [hx]; omega
  have hys : y.size ≤ 2147483647 := by have := size_trimR s t; rw [hy]; omega
  have ex : Pl.trimL s.data.toList t.data.toList = x.data.toList := by rw [hx]
  have ey : Pl.trimR s.data.toList t.data.toList = y.data.toList := by rw [hy]
  have ez : Pl.trimR (Pl.trimL s.data.toList t.data.toList) t.data.toList = z.data.toList := by rw [hz]
  have hzs : z.size ≤ 2147483647 := by
    have := size_trimR x t
    rw [← ex, ← hz] at this; omega
  have HL := hid (fun W => trimLeft_any s t W (by omega) (by omega) HA.out)
  have HR := hid (fun W => trimRight_any s t W (by omega) (by omega))
  have HT := hid (fun W => trim_any s t W (by omega) (by omega) HA.out)
  have HRL := hid (fun W => trimLeft_any y t W hys (by omega) HA.out)
  have HLR := hid (fun W => trimRight_any x t W hxs (by omega))
  have HTT := hid (fun W => trim_any z t W hzs (by omega) HA.out)
  rw [← ey, ← Pl.trim_swap, ← hz] at HRL
  rw [← ex, ← hz] at HLR
  rw [← ez, Pl.trim_twice, ← hz] at HTT
  rw [← hx] at HL
  rw [← hy] at HR
  rw [← hz] at HT
  clear hx hy hz ex ey ez
  go_wp2_with fail
  refine (HT.out _).mono ?_
  rintro e w3 ⟨rfl, hb3⟩
  have HB3 := hid (HB2.out.trans (hb3.mono HB2.out.size))
  clear HB2 hb3
  go_wp2_with fail
  refine (of_any _ _).mono ?_
  rintro e w4 ⟨rfl, rfl⟩
  go_wp2_with fail
  refine (HR.out _).mono ?_
  rintro e w5 ⟨rfl, hb5⟩
  have HB5 := hid (HB3.out.trans (hb5.mono HB3.out.size))
  clear HB3 hb5
  go_wp2_with fail
  refine (of_any _ _).mono ?_
  rintro e w6 ⟨rfl, rfl⟩
  go_wp2_with fail
  refine (HRL.out _).mono ?_
  rintro e w7 ⟨rfl, hb7⟩
  have HB7 := hid (HB5.out.trans (hb7.mono HB5.out.size))
  clear HB5 hb7
  go_wp2_with fail
  refine (of_any _ _).mono ?_
  rintro e w8 ⟨rfl, rfl⟩
  go_wp2_with fail
  refine (HL.out _).mono ?_
  rintro e w9 ⟨rfl, hb9⟩
  have HB9 := hid (HB7.out.trans (hb9.mono HB7.out.size))
  clear HB7 hb9
  go_wp2_with fail
  refine (of_any _ _).mono ?_
  rintro e w10 ⟨rfl, rfl⟩
  go_wp2_with fail
  refine (HLR.out _).mono ?_
  rintro e w11 ⟨rfl, hb11⟩
  have HB11 := hid (HB9.out.trans (hb11.mono HB9.out.size))
  clear HB9 hb11
  go_wp2_with fail
  refine (of_any _ _).mono ?_
  rintro e w12 ⟨rfl, rfl⟩
  go_wp2_with fail
  refine (HTT.out _).mono ?_
  rintro e w13 ⟨rfl, hb13⟩
  have HB13 := hid (HB11.out.trans (hb13.mono HB11.out.size))
  clear HB11 hb13
  go_wp2_with fail
  refine (of_any _ _).mono ?_
  rintro e w14 ⟨rfl, rfl⟩
  go_wp2_with fail
  refine (alive_any _).mono ?_
  rintro e w15 ⟨rfl, hb15⟩
  have HB15 := hid (HB13.out.trans (hb15.mono HB13.out.size))
  clear HB13 hb15
  go_wp2_with fail
  go_ret
  exact ⟨rfl, HB15.out⟩
end Go.Proofs.YtlallleahgfdkaaGreatDoor
