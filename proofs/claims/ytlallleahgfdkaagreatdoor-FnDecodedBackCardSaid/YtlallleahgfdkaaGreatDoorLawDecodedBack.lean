/- The law FnDecodedBack: called with any string, where encoding/hex.ErrLength holds an error that is not nil, it returns true, and makes new memory alone. -/
import Derived.Test.YtlallleahgfdkaaGreatDoorB64Back
namespace Go.Proofs.YtlallleahgfdkaaGreatDoor
open Go.RowKit

set_option maxRecDepth 100000 in
set_option maxHeartbeats 4000000 in
theorem fnDecodedBack_any (s : ByteArray) (w : World) (h00 : 0 < w.heap.size) (u0 : TypeId) (y0 : Value) (hE : w.cell? ⟨0, 0, none⟩ = some (.iface u0 y0)) :
    Calls Tryz.prog 16 #[.string s] w fun e w' => e = .returned (.bool true) ∧ Below w.heap.size w w' := by
  by_cases h1 : 2147483647 < s.size
  · go_enter Tryz.func16, Tryz.ntmps16
    go_wp2
    go_ret
    exact ⟨rfl, Below.refl _ _⟩
  have HE := hid hE
  clear hE
  go_enter Tryz.func16, Tryz.ntmps16
  go_wp2_with fail
  refine (ready_any [s] _ _ (by simp) (fun i hi => ?_) (by simp) (fun i hi => ?_)).mono ?_
  · match i, hi with
    | 0, _ => show s.size ≤ _; omega
  · match i, hi with
    | 0, _ => simp
  rintro e w1 ⟨rd, rfl, hx, hb1⟩
  have hbel : Below w.heap.size w w1 := ((Below.refl _ _).alloc (Nat.le_refl _) _).trans (hb1.mono (by simp))
  have HB := hid hbel
  clear hbel hb1
  cases rd with
  | false =>
    go_wp2
    go_ret
    exact ⟨rfl, HB.out⟩
  | true =>
  have hs : s.size ≤ 1000 := hx rfl 0 (by simp)
  clear hx
  obtain ⟨ta, hta⟩ : ∃ ta, ta = encS alStd s (padLen s) := ⟨_, rfl⟩
  obtain ⟨tu, htu⟩ : ∃ tu, tu = encS alUrl s (padLen s) := ⟨_, rfl⟩
  obtain ⟨tn, htn⟩ : ∃ tn, tn = encS alUrl s (noLen s) := ⟨_, rfl⟩
  obtain ⟨th, hth⟩ : ∃ th, th = hexS s := ⟨_, rfl⟩
  have C47 : Hid (∀ W, Calls Tryz.prog 47 #[.string s] W fun e w' => e = .returned (.tuple #[.string ta, .bool true]) ∧ Below W.heap.size W w') := fun W => by rw [hta]; exact encode64_any s W hs
  have C51 : Hid (∀ W, Calls Tryz.prog 51 #[.string s] W fun e w' => e = .returned (.tuple #[.string tu, .bool true]) ∧ Below W.heap.size W w') := fun W => by rw [htu]; exact encodeURL_any s W hs
  have C52 : Hid (∀ W, Calls Tryz.prog 52 #[.string s] W fun e w' => e = .returned (.tuple #[.string tn, .bool true]) ∧ Below W.heap.size W w') := fun W => by rw [htn]; exact encodeNoPad_any s W hs
  have C53 : Hid (∀ W, Calls Tryz.prog 53 #[.string s] W fun e w' => e = .returned (.tuple #[.string th, .bool true]) ∧ Below W.heap.size W w') := fun W => by rw [hth]; exact encodeHex_any s W hs
  have C48 : Hid (∀ W, Calls Tryz.prog 48 #[.string ta] W fun e w' => e = .returned (.tuple #[.bool true, .bool true]) ∧ Below W.heap.size W w') := fun W => valid64_any s ta W hs hta
  have C49 : Hid (∀ W, Calls Tryz.prog 49 #[.string ta] W fun e w' => e = .returned (.tuple #[.string s, .bool true]) ∧ Below W.heap.size W w') := fun W => decode64_any s ta W hs hta
  have C50u : Hid (∀ W, Calls Tryz.prog 50 #[.string tu] W fun e w' => e = .returned (.tuple #[.string s, .bool true]) ∧ Below W.heap.size W w') := fun W => decodeURL_pad s tu W hs htu
  have C50n : Hid (∀ W, Calls Tryz.prog 50 #[.string tn] W fun e w' => e = .returned (.tuple #[.string s, .bool true]) ∧ Below W.heap.size W w') := fun W => decodeURL_no s tn W hs htn
  have hthl : th.size ≤ 2147483647 := by rw [hth, hexS_size]; omega
  have hthd : Lib.Hx.decode th.data.toList = (s.data.toList, .ok) := by rw [hth]; exact dec_hexS s
  have C29 : Hid (∀ W, Below w.heap.size w W → Calls Tryz.prog 29 #[.string th] W fun e w' => e = .returned (.tuple #[.string s, .bool true]) ∧ Below W.heap.size W w') := fun W hW =>
    decodeHex_ok th s W u0 y0 (Nat.lt_of_lt_of_le h00 hW.size) ((hW.cell (p := ⟨0, 0, none⟩) h00).trans HE.out) hthl hthd
  clear hta htu htn hth hthl hthd HE
  go_wp2_with fail
  refine (C47.out _).mono ?_
  rintro e w2 ⟨rfl, hb2⟩
  have HB2 := hid (HB.out.trans (hb2.mono HB.out.size))
  clear HB hb2
  go_wp2_with fail
  refine (of_any ta _).mono ?_
  rintro e w3 ⟨rfl, rfl⟩
  go_wp2_with fail
  refine (C48.out _).mono ?_
  rintro e w4 ⟨rfl, hb4⟩
  have HB4 := hid (HB2.out.trans (hb4.mono HB2.out.size))
  clear HB2 hb4
  go_wp2_with fail
  refine (C49.out _).mono ?_
  rintro e w5 ⟨rfl, hb5⟩
  have HB5 := hid (HB4.out.trans (hb5.mono HB4.out.size))
  clear HB4 hb5
  go_wp2_with fail
  refine (of_any s _).mono ?_
  rintro e w6 ⟨rfl, rfl⟩
  go_wp2_with fail
  refine (C51.out _).mono ?_
  rintro e w7 ⟨rfl, hb7⟩
  have HB7 := hid (HB5.out.trans (hb7.mono HB5.out.size))
  clear HB5 hb7
  go_wp2_with fail
  refine (of_any tu _).mono ?_
  rintro e w8 ⟨rfl, rfl⟩
  go_wp2_with fail
  refine (C50u.out _).mono ?_
  rintro e w9 ⟨rfl, hb9⟩
  have HB9 := hid (HB7.out.trans (hb9.mono HB7.out.size))
  clear HB7 hb9
  go_wp2_with fail
  refine (of_any s _).mono ?_
  rintro e w10 ⟨rfl, rfl⟩
  go_wp2_with fail
  refine (C52.out _).mono ?_
  rintro e w11 ⟨rfl, hb11⟩
  have HB11 := hid (HB9.out.trans (hb11.mono HB9.out.size))
  clear HB9 hb11
  go_wp2_with fail
  refine (of_any tn _).mono ?_
  rintro e w12 ⟨rfl, rfl⟩
  go_wp2_with fail
  refine (C50n.out _).mono ?_
  rintro e w13 ⟨rfl, hb13⟩
  have HB13 := hid (HB11.out.trans (hb13.mono HB11.out.size))
  clear HB11 hb13
  go_wp2_with fail
  refine (of_any s _).mono ?_
  rintro e w14 ⟨rfl, rfl⟩
  go_wp2_with fail
  refine (C53.out _).mono ?_
  rintro e w15 ⟨rfl, hb15⟩
  have HB15 := hid (HB13.out.trans (hb15.mono HB13.out.size))
  clear HB13 hb15
  go_wp2_with fail
  refine (of_any th _).mono ?_
  rintro e w16 ⟨rfl, rfl⟩
  go_wp2_with fail
  refine (C29.out _ HB15.out).mono ?_
  rintro e w17 ⟨rfl, hb17⟩
  have HB17 := hid (HB15.out.trans (hb17.mono HB15.out.size))
  clear HB15 hb17
  go_wp2_with fail
  refine (of_any s _).mono ?_
  rintro e w18 ⟨rfl, rfl⟩
  go_wp2_with fail
  go_ret
  exact ⟨rfl, HB17.out⟩
end Go.Proofs.YtlallleahgfdkaaGreatDoor
