/- The law FnReversed: called with any two strings it returns true, and makes new memory alone. -/
import Derived.Test.YtlallleahgfdkaaGreatDoorImpl1
import Derived.Test.YtlallleahgfdkaaGreatDoorReverse
namespace Go.Proofs.YtlallleahgfdkaaGreatDoor
open Go.RowKit

theorem ascii_rev {s : ByteArray} (h : AllAscii s) : AllAscii ⟨s.data.toList.reverse.toArray⟩ := by
  intro i hi
  have hi' : i < s.data.toList.reverse.length := by
    have := hi
    rw [Lib.size_eq] at this
    simpa using this
  show (s.data.toList.reverse.toArray[i]'_).toNat < 128
  rw [List.getElem_toArray]
  have hm : s.data.toList.reverse[i] ∈ s.data.toList := List.mem_reverse.1 (List.getElem_mem hi')
  obtain ⟨j, hj, e⟩ := List.getElem_of_mem hm
  rw [← e]
  exact ascii_list h j _ (List.getElem?_eq_getElem hj)
theorem prefix_rev (s t : List UInt8) : Lib.hasPrefix s t = Lib.hasSuffix s.reverse t.reverse := by
  unfold Lib.hasPrefix Lib.hasSuffix List.isSuffixOf
  rw [List.reverse_reverse, List.reverse_reverse]
set_option maxRecDepth 100000 in
set_option maxHeartbeats 4000000 in
theorem fnReversed_any (s t : ByteArray) (w : World) :
    Calls Tryz.prog 13 #[.string s, .string t] w fun e w' => e = .returned (.bool true) ∧ Below w.heap.size w w' := by
  by_cases h1 : 2147483647 < s.size
  · go_enter Tryz.func13, Tryz.ntmps13
    go_wp2
    go_ret
    exact ⟨rfl, Below.refl _ _⟩
  by_cases h2 : 2147483647 < t.size
  · go_enter Tryz.func13, Tryz.ntmps13
    go_wp2
    go_ret
    exact ⟨rfl, Below.refl _ _⟩
  go_enter Tryz.func13, Tryz.ntmps13
  go_wp2_with fail
  refine (ascii_any [s, t] _ _ (by simp) (fun i hi => ?_) (fun i hi => ?_)).mono ?_
  · match i, hi with
    | 0, _ => show s.size ≤ _; omega
    | 1, _ => show t.size ≤ _; omega
  · match i, hi with
    | 0, _ => simp
    | 1, _ => simp
  rintro e w1 ⟨asc, rfl, hasc, rfl⟩
  have HB := hid (((Below.refl w.heap.size w).alloc (Nat.le_refl _) (.cells #[.string s, .string t] 9)))
  have HASC := hid hasc
  clear hasc
  cases asc with
  | false =>
    go_wp2_with fail
    refine (alive_any _).mono ?_
    rintro e w2 ⟨rfl, hb2⟩
    have HB2 := hid (HB.out.trans (hb2.mono HB.out.size))
    clear HB hb2
    go_wp2_with fail
    go_ret
    exact ⟨rfl, HB2.out⟩
  | true =>
  have ha : AllAscii s := HASC.out rfl 0 (by simp)
  have hat : AllAscii t := HASC.out rfl 1 (by simp)
  have HA := hid ha
  have HAT := hid hat
  clear ha hat HASC
  by_cases hbig : 1000 < s.size
  ·
    go_wp2_with fail
    refine (alive_any _).mono ?_
    rintro e w2 ⟨rfl, hb2⟩
    have HB2 := hid (HB.out.trans (hb2.mono HB.out.size))
    clear HB hb2
    go_wp2_with fail
    go_ret
    exact ⟨rfl, HB2.out⟩

  by_cases hbig2 : 1000 < t.size
  ·
    go_wp2_with fail
    refine (alive_any _).mono ?_
    rintro e w2 ⟨rfl, hb2⟩
    have HB2 := hid (HB.out.trans (hb2.mono HB.out.size))
    clear HB hb2
    go_wp2_with fail
    go_ret
    exact ⟨rfl, HB2.out⟩

  obtain ⟨x, hx⟩ : ∃ x : ByteArray, x = ⟨s.data.toList.reverse.toArray⟩ := ⟨_, rfl⟩
  obtain ⟨y, hy⟩ : ∃ y : ByteArray, y = ⟨t.data.toList.reverse.toArray⟩ := ⟨_, rfl⟩
  have hxs : x.size ≤ 2147483647 := by rw [hx, Lib.size_eq]; rw [Lib.size_eq] at hbig; simp at hbig ⊢; omega
  have hys : y.size ≤ 2147483647 := by rw [hy, Lib.size_eq]; rw [Lib.size_eq] at hbig2; simp at hbig2 ⊢; omega
  have hxa : AllAscii x := by rw [hx]; exact ascii_rev HA.out
  have HR := hid (fun W => reverse_any s W (by omega) HA.out)
  have HT := hid (fun W => reverse_any t W (by omega) HAT.out)
  have HX := hid (fun W => reverse_any x W hxs hxa)
  have e1 : (⟨x.data.toList.reverse.toArray⟩ : ByteArray) = s := by rw [hx]; simp
  rw [e1] at HX
  have HP := hid (fun W => startsWith_any s t W (by omega) (by omega))
  have HS := hid (fun W => endsWith_any x y W hxs hys)
  have e2 : Lib.hasPrefix s.data.toList t.data.toList = Lib.hasSuffix x.data.toList y.data.toList := by rw [hx, hy]; exact prefix_rev _ _
  rw [e2] at HP
  obtain ⟨b, hb⟩ : ∃ b : Bool, b = Lib.hasSuffix x.data.toList y.data.toList := ⟨_, rfl⟩
  rw [← hb] at HP HS
  rw [← hx] at HR
  rw [← hy] at HT
  clear hx hy hxa e1 e2 hb
  go_wp2_with fail
  refine (HR.out _).mono ?_
  rintro e w2 ⟨rfl, hb2⟩
  have HB2 := hid (HB.out.trans (hb2.mono HB.out.size))
  clear HB hb2
  go_wp2_with fail
  refine (of_any _ _).mono ?_
  rintro e w3 ⟨rfl, rfl⟩
  go_wp2_with fail
  refine (HT.out _).mono ?_
  rintro e w4 ⟨rfl, hb4⟩
  have HB4 := hid (HB2.out.trans (hb4.mono HB2.out.size))
  clear HB2 hb4
  go_wp2_with fail
  refine (of_any _ _).mono ?_
  rintro e w5 ⟨rfl, rfl⟩
  go_wp2_with fail
  refine (HP.out _).mono ?_
  rintro e w6 ⟨rfl, hb6⟩
  have HB6 := hid (HB4.out.trans (hb6.mono HB4.out.size))
  clear HB4 hb6
  go_wp2_with fail
  refine (HS.out _).mono ?_
  rintro e w7 ⟨rfl, hb7⟩
  have HB7 := hid (HB6.out.trans (hb7.mono HB6.out.size))
  clear HB6 hb7
  go_wp2_with fail
  refine (HX.out _).mono ?_
  rintro e w8 ⟨rfl, hb8⟩
  have HB8 := hid (HB7.out.trans (hb8.mono HB7.out.size))
  clear HB7 hb8
  go_wp2_with fail
  refine (of_any _ _).mono ?_
  rintro e w9 ⟨rfl, rfl⟩
  go_wp2_with fail
  go_ret
  exact ⟨rfl, HB8.out⟩
end Go.Proofs.YtlallleahgfdkaaGreatDoor
