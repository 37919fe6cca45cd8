/- The law FnLettersAgree: called with any string it returns true, and makes new memory alone. -/
import Derived.Test.YtlallleahgfdkaaGreatDoorImpl2
namespace Go.Proofs.YtlallleahgfdkaaGreatDoor
open Go.RowKit

theorem upper_lower (b : UInt8) : Lib.upperB (Lib.lowerB b) = Lib.upperB b := by
  have h : ∀ n : Fin 256, Lib.upperB (Lib.lowerB (UInt8.ofNat n.val)) = Lib.upperB (UInt8.ofNat n.val) := by decide +kernel
  have := h ⟨b.toNat, UInt8.toNat_lt _⟩
  simpa using this
theorem lower_upper (b : UInt8) : Lib.lowerB (Lib.upperB b) = Lib.lowerB b := by
  have h : ∀ n : Fin 256, Lib.lowerB (Lib.upperB (UInt8.ofNat n.val)) = Lib.lowerB (UInt8.ofNat n.val) := by decide +kernel
  have := h ⟨b.toNat, UInt8.toNat_lt _⟩
  simpa using this
theorem ascii_lowerB (b : UInt8) (hb : b.toNat < 128) : (Lib.lowerB b).toNat < 128 := by
  have h : ∀ n : Fin 128, (Lib.lowerB (UInt8.ofNat n.val)).toNat < 128 := by decide +kernel
  have := h ⟨b.toNat, hb⟩
  simpa using this
theorem ascii_upperB (b : UInt8) (hb : b.toNat < 128) : (Lib.upperB b).toNat < 128 := by
  have h : ∀ n : Fin 128, (Lib.upperB (UInt8.ofNat n.val)).toNat < 128 := by decide +kernel
  have := h ⟨b.toNat, hb⟩
  simpa using this
theorem ascii_map (f : UInt8 → UInt8) (hf : ∀ b, b.toNat < 128 → (f b).toNat < 128) {s : ByteArray} (h : AllAscii s) : AllAscii ⟨(s.data.toList.map f).toArray⟩ := by
  intro i hi
  show ((s.data.toList.map f).toArray[i]'_).toNat < 128
  rw [List.getElem_toArray, List.getElem_map]
  exact hf _ (ascii_list h i _ (List.getElem?_eq_getElem _))
set_option maxRecDepth 100000 in
set_option maxHeartbeats 4000000 in
theorem fnLettersAgree_any (s : ByteArray) (w : World) :
    Calls Tryz.prog 7 #[.string s] w fun e w' => e = .returned (.bool true) ∧ Below w.heap.size w w' := by
  by_cases h1 : 2147483647 < s.size
  · go_enter Tryz.func7, Tryz.ntmps7
    go_wp2
    go_ret
    exact ⟨rfl, Below.refl _ _⟩
  go_enter Tryz.func7, Tryz.ntmps7
  go_wp2_with fail
  refine (ascii_any [s] _ _ (by simp) (fun i hi => ?_) (fun i hi => ?_)).mono ?_
  · match i, hi with
    | 0, _ => show s.size ≤ _; omega
  · match i, hi with
    | 0, _ => simp
  rintro e w1 ⟨asc, rfl, hasc, rfl⟩
  have HB := hid (((Below.refl w.heap.size w).alloc (Nat.le_refl _) (.cells #[.string s] 9)))
  have HASC := hid hasc
  clear hasc
  cases asc with
  | false =>
    go_wp2_with fail
    refine (alive_any _).mono ?_
    rintro e w2 ⟨rfl, hb2⟩
    have HB2 := hid (HB.out.trans (hb2.mono HB.out.size))
    clear HB hb2
    go_wp2_with fail
    go_ret
    exact ⟨rfl, HB2.out⟩
  | true =>
  have ha : AllAscii s := HASC.out rfl 0 (by simp)
  have HA := hid ha
  clear ha HASC
  by_cases hbig : 1000 < s.size
  ·
    go_wp2_with fail
    refine (alive_any _).mono ?_
    rintro e w2 ⟨rfl, hb2⟩
    have HB2 := hid (HB.out.trans (hb2.mono HB.out.size))
    clear HB hb2
    go_wp2_with fail
    go_ret
    exact ⟨rfl, HB2.out⟩

  obtain ⟨x, hx⟩ : ∃ x : ByteArray, x = ⟨(Lib.toLowerA s.data.toList).toArray⟩ := ⟨_, rfl⟩
  obtain ⟨y, hy⟩ : ∃ y : ByteArray, y = ⟨(Lib.toUpperA s.data.toList).toArray⟩ := ⟨_, rfl⟩
  have hxs : x.size ≤ 2147483647 := by rw [hx, Lib.size_eq]; simp [Lib.toLowerA]; rw [Lib.size_eq] at hbig; simp at hbig; omega
  have hys : y.size ≤ 2147483647 := by rw [hy, Lib.size_eq]; simp [Lib.toUpperA]; rw [Lib.size_eq] at hbig; simp at hbig; omega
  have hxa : AllAscii x := by rw [hx]; exact ascii_map _ ascii_lowerB HA.out
  have hya : AllAscii y := by rw [hy]; exact ascii_map _ ascii_upperB HA.out
  have HL := hid (fun W => lower_any s W (by omega) HA.out)
  have HU := hid (fun W => upper_any s W (by omega) HA.out)
  have HL2 := hid (fun W => lower_any y W hys hya)
  have HU2 := hid (fun W => upper_any x W hxs hxa)
  have e1 : (⟨(Lib.toLowerA y.data.toList).toArray⟩ : ByteArray) = x := by
    rw [hx, hy]; simp [Lib.toLowerA, Lib.toUpperA, lower_upper]
  have e2 : (⟨(Lib.toUpperA x.data.toList).toArray⟩ : ByteArray) = y := by
    rw [hx, hy]; simp [Lib.toLowerA, Lib.toUpperA, upper_lower]
  rw [e1] at HL2
  rw [e2] at HU2
  rw [← hx] at HL
  rw [← hy] at HU
  clear hx hy hxa hya e1 e2
  go_wp2_with fail
  refine (HL.out _).mono ?_
  rintro e w2 ⟨rfl, hb2⟩
  have HB2 := hid (HB.out.trans (hb2.mono HB.out.size))
  clear HB hb2
  go_wp2_with fail
  refine (of_any _ _).mono ?_
  rintro e w3 ⟨rfl, rfl⟩
  go_wp2_with fail
  refine (HU.out _).mono ?_
  rintro e w4 ⟨rfl, hb4⟩
  have HB4 := hid (HB2.out.trans (hb4.mono HB2.out.size))
  clear HB2 hb4
  go_wp2_with fail
  refine (of_any _ _).mono ?_
  rintro e w5 ⟨rfl, rfl⟩
  go_wp2_with fail
  refine (HU2.out _).mono ?_
  rintro e w6 ⟨rfl, hb6⟩
  have HB6 := hid (HB4.out.trans (hb6.mono HB4.out.size))
  clear HB4 hb6
  go_wp2_with fail
  refine (of_any _ _).mono ?_
  rintro e w7 ⟨rfl, rfl⟩
  go_wp2_with fail
  refine (HL2.out _).mono ?_
  rintro e w8 ⟨rfl, hb8⟩
  have HB8 := hid (HB6.out.trans (hb8.mono HB6.out.size))
  clear HB6 hb8
  go_wp2_with fail
  refine (of_any _ _).mono ?_
  rintro e w9 ⟨rfl, rfl⟩
  go_wp2_with fail
  refine (alive_any _).mono ?_
  rintro e w10 ⟨rfl, hb10⟩
  have HB10 := hid (HB8.out.trans (hb10.mono HB8.out.size))
  clear HB8 hb10
  go_wp2_with fail
  go_ret
  exact ⟨rfl, HB10.out⟩
end Go.Proofs.YtlallleahgfdkaaGreatDoor
