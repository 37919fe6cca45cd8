/- The law FnDecodeHex: called with any string, where encoding/hex.ErrLength holds an error that is not nil, it returns true, and makes new memory alone. -/
import Derived.Test.YtlallleahgfdkaaGreatDoorHexImpl
namespace Go.Proofs.YtlallleahgfdkaaGreatDoor
open Go.RowKit

set_option maxRecDepth 100000 in
set_option maxHeartbeats 4000000 in
theorem fnDecodeHex_any (s : ByteArray) (w : World) (h00 : 0 < w.heap.size) (u0 : TypeId) (y0 : Value) (hE : w.cell? ⟨0, 0, none⟩ = some (.iface u0 y0)) :
    Calls Tryz.prog 5 #[.string s] w fun e w' => e = .returned (.bool true) ∧ Below w.heap.size w w' := by
  by_cases h1 : 2147483647 < s.size
  · go_enter Tryz.func5, Tryz.ntmps5
    go_wp2
    go_ret
    exact ⟨rfl, Below.refl _ _⟩
  have HE := hid hE
  clear hE
  go_enter Tryz.func5, Tryz.ntmps5
  go_wp2_with fail
  refine (ready_any [s] _ _ (by simp) (fun i hi => ?_) (by simp) (fun i hi => ?_)).mono ?_
  · match i, hi with
    | 0, _ => show s.size ≤ _; omega
  · match i, hi with
    | 0, _ => simp
  rintro e w1 ⟨rd, rfl, hx, hb1⟩
  have hbel : Below w.heap.size w w1 := ((Below.refl _ _).alloc (Nat.le_refl _) _).trans (hb1.mono (by simp))
  have HB := hid hbel
  clear hbel hb1
  cases rd with
  | false =>
    go_wp2
    go_ret
    exact ⟨rfl, HB.out⟩
  | true =>
  have hs : s.size ≤ 1000 := hx rfl 0 (by simp)
  clear hx
  have hdec := unhex_decode s.data.toList.length s.data.toList (Nat.le_refl _)
  have HDEC := hid hdec
  clear hdec
  go_wp2_with fail
  refine (unHex_any s _ hs).mono ?_
  rintro e w2 (⟨y, hy, hys, rfl, hb2⟩ | ⟨hy, rfl, hb2⟩)
  · have hd := HDEC.out.1 _ hy
    have HB2 := hid (HB.out.trans (hb2.mono HB.out.size))
    have hE2 : w2.cell? ⟨0, 0, none⟩ = some (.iface u0 y0) := by rw [HB2.out.cell (p := ⟨0, 0, none⟩) h00]; exact HE.out
    have h02 : 0 < w2.heap.size := by have := HB2.out.size; omega
    have HX := hid (decodeHex_ok s y w2 u0 y0 h02 hE2 (by omega) hd)
    have hys' : y.size ≤ 2147483647 := by omega
    clear HB hb2 HDEC hd hE2 hy
    go_wp2_with fail
    refine HX.out.mono ?_
    rintro e w3 ⟨rfl, hb3⟩
    have HB3 := hid (HB2.out.trans (hb3.mono HB2.out.size))
    clear HB2 hb3 HX
    go_wp2_with fail
    refine (valid_one y _ _ hys' (by simp)).mono ?_
    rintro e w4 ⟨v, rfl, rfl⟩
    have HB4 := hid (HB3.out.alloc HB3.out.size (.cells #[.string y] 9))
    clear HB3
    cases v with
    | true =>
      go_wp2_with fail
      refine (is_yes _ _).mono ?_
      rintro e w5 ⟨rfl, rfl⟩
      go_wp2_with fail
      refine (alive_any _).mono ?_
      rintro e w5 ⟨rfl, hb5⟩
      have HB5 := hid (HB4.out.trans (hb5.mono HB4.out.size))
      clear HB4 hb5
      go_wp2_with fail
      go_ret
      exact ⟨rfl, HB5.out⟩
    | false =>
      go_wp2_with fail
      refine (alive_any _).mono ?_
      rintro e w5 ⟨rfl, hb5⟩
      have HB5 := hid (HB4.out.trans (hb5.mono HB4.out.size))
      clear HB4 hb5
      go_wp2_with fail
      go_ret
      exact ⟨rfl, HB5.out⟩
  · have hd := HDEC.out.2 hy
    have HB2 := hid (HB.out.trans (hb2.mono HB.out.size))
    have hE2 : w2.cell? ⟨0, 0, none⟩ = some (.iface u0 y0) := by rw [HB2.out.cell (p := ⟨0, 0, none⟩) h00]; exact HE.out
    have h02 : 0 < w2.heap.size := by have := HB2.out.size; omega
    have HX := hid (decodeHex_bad s w2 u0 y0 h02 hE2 (by omega) hd)
    clear HB hb2 HDEC hd hE2 hy
    go_wp2_with fail
    refine HX.out.mono ?_
    rintro e w3 ⟨rfl, hb3⟩
    have HB3 := hid (HB2.out.trans (hb3.mono HB2.out.size))
    clear HB2 hb3 HX
    go_wp2_with fail
    refine (alive_any _).mono ?_
    rintro e w5 ⟨rfl, hb5⟩
    have HB5 := hid (HB3.out.trans (hb5.mono HB3.out.size))
    clear HB3 hb5
    go_wp2_with fail
    go_ret
    exact ⟨rfl, HB5.out⟩
end Go.Proofs.YtlallleahgfdkaaGreatDoor
