/- impl.Decode64, Valid64, DecodeURL at encodings of at most 1000 bytes: the bytes that were encoded; new memory alone is made. -/
import Derived.Test.YtlallleahgfdkaaGreatDoorB64Impl
import Derived.Test.YtlallleahgfdkaaGreatDoorB64Suf
namespace Go.Proofs.YtlallleahgfdkaaGreatDoor
open Go.RowKit

theorem std_ex (w : World) : Calls Tryz.prog 135 #[] w fun e w' => ∃ be g, e = .returned (.pointer (some ⟨be, 0, none⟩)) ∧ EncF alStd 64 61 g ∧ w'.rowIs be 133 322 g ∧ Below w.heap.size w w' :=
  (std_any w).mono fun _ _ ⟨he, ⟨g, hg, hr⟩, hb⟩ => ⟨_, g, he, hg, hr, hb⟩
theorem url_ex (w : World) : Calls Tryz.prog 138 #[] w fun e w' => ∃ be g, e = .returned (.pointer (some ⟨be, 0, none⟩)) ∧ EncF alUrl 64 61 g ∧ w'.rowIs be 133 322 g ∧ Below w.heap.size w w' :=
  (url_any w).mono fun _ _ ⟨he, ⟨g, hg, hr⟩, hb⟩ => ⟨_, g, he, hg, hr, hb⟩
set_option maxRecDepth 100000 in
set_option maxHeartbeats 4000000 in
theorem decode64_any (s t : ByteArray) (w : World) (hn : s.size ≤ 1000) (ht : t = encS alStd s (padLen s)) :
    Calls Tryz.prog 49 #[.string t] w fun e w' => e = .returned (.tuple #[.string s, .bool true]) ∧ Below w.heap.size w w' := by
  have HT : Hid (t = encS alStd s ((s.size + 2) / 3 * 4)) := ht
  clear ht
  go_enter Tryz.func49, Tryz.ntmps49
  go_wp2_with (first | (go_at_call 135; go_must (refine (std_ex _).mono ?_; rintro e w2 ⟨be, g, rfl, hg, hrow, hb2⟩; have H2 := hid (And.intro hg (And.intro hrow hb2)); clear hg hrow hb2)) | (go_at_call 137; go_must (refine (decStr_any alStd s t be g _ alpha_std hn HT.out H2.out.1 H2.out.2.1).mono ?_; rintro e w3 ⟨cap, rfl, hcv, hb3⟩; have hb9 := H2.out.2.2.trans (hb3.mono H2.out.2.2.size); obtain ⟨hc1, hf1⟩ := bcell hb9; obtain ⟨hr1, hs1, hz1, hr2, hs2⟩ := after1 hb9)) | go_in)
  go_ret2
  refine ⟨rfl, ?_⟩
  repeat (first | exact Below.refl _ _ | (refine Below.drew ?_) | (refine Below.alloc ?_ (by first | omega | (simp; done) | (simp; omega)) _) | (refine Below.setCell ?_ (by first | omega | (simp; done) | (simp; omega)) _) | (refine Below.trans ?_ (hb9.mono (by first | omega | (simp; done) | (simp; omega)))))
set_option maxRecDepth 100000 in
set_option maxHeartbeats 4000000 in
theorem valid64_any (s t : ByteArray) (w : World) (hn : s.size ≤ 1000) (ht : t = encS alStd s (padLen s)) :
    Calls Tryz.prog 48 #[.string t] w fun e w' => e = .returned (.tuple #[.bool true, .bool true]) ∧ Below w.heap.size w w' := by
  have HT : Hid (t = encS alStd s ((s.size + 2) / 3 * 4)) := ht
  clear ht
  go_enter Tryz.func48, Tryz.ntmps48
  go_wp2_with (first | (go_at_call 135; go_must (refine (std_ex _).mono ?_; rintro e w2 ⟨be, g, rfl, hg, hrow, hb2⟩; have H2 := hid (And.intro hg (And.intro hrow hb2)); clear hg hrow hb2)) | (go_at_call 137; go_must (refine (decStr_any alStd s t be g _ alpha_std hn HT.out H2.out.1 H2.out.2.1).mono ?_; rintro e w3 ⟨cap, rfl, hcv, hb3⟩; clear hcv; have hb9 := H2.out.2.2.trans (hb3.mono H2.out.2.2.size); obtain ⟨hc1, hf1⟩ := bcell hb9; obtain ⟨hr1, hs1, hz1, hr2, hs2⟩ := after1 hb9)) | go_in)
  go_ret2
  refine ⟨rfl, ?_⟩
  repeat (first | exact Below.refl _ _ | (refine Below.drew ?_) | (refine Below.alloc ?_ (by first | omega | (simp; done) | (simp; omega)) _) | (refine Below.setCell ?_ (by first | omega | (simp; done) | (simp; omega)) _) | (refine Below.trans ?_ (hb9.mono (by first | omega | (simp; done) | (simp; omega)))))
set_option maxRecDepth 100000 in
set_option maxHeartbeats 4000000 in
theorem url_padded (s x : ByteArray) (w : World) (hn : s.size ≤ 1000) (hx : x.size ≤ 4000) (hs : Lib.hasSuffix x.data.toList [61] = true)  (ht : x = encS alUrl s (padLen s)) :
    Calls Tryz.prog 50 #[.string x] w fun e w' => e = .returned (.tuple #[.string s, .bool true]) ∧ Below w.heap.size w w' := by
  have HT : Hid (x = encS alUrl s ((s.size + 2) / 3 * 4)) := ht
  have HS := hid (fun W => (Tryz.strings_HasSuffix x ⟨#[61]⟩ W (by omega)).mono fun e w' (h : e = .returned (.bool (Lib.hasSuffix x.data.toList [61])) ∧ w' = W) => (⟨by rw [h.1, hs], h.2.symm⟩ : e = .returned (.bool true) ∧ W = w'))
  clear ht hs
  go_enter Tryz.func50, Tryz.ntmps50
  go_wp2_with (first | (go_at_call 114; go_must (refine (HS.out _).mono ?_; rintro e w' ⟨rfl, rfl⟩)) | (go_at_call 138; go_must (refine (url_ex _).mono ?_; rintro e w2 ⟨be, g, rfl, hg, hrow, hb2⟩; have H2 := hid (And.intro hg (And.intro hrow hb2)); clear hg hrow hb2)) | (go_at_call 137; go_must (refine (decStr_any alUrl s _ be g _ alpha_url hn HT.out H2.out.1 H2.out.2.1).mono ?_; rintro e w3 ⟨cap, rfl, hcv, hb3⟩; have hb9 := H2.out.2.2.trans (hb3.mono H2.out.2.2.size); obtain ⟨hc1, hf1⟩ := bcell hb9; obtain ⟨hr1, hs1, hz1, hr2, hs2⟩ := after1 hb9)) | go_in)
  go_ret2
  refine ⟨rfl, ?_⟩
  repeat (first | exact Below.refl _ _ | (refine Below.drew ?_) | (refine Below.alloc ?_ (by first | omega | (simp; done) | (simp; omega)) _) | (refine Below.setCell ?_ (by first | omega | (simp; done) | (simp; omega)) _) | (refine Below.trans ?_ (hb9.mono (by first | omega | (simp; done) | (simp; omega)))))
set_option maxRecDepth 100000 in
set_option maxHeartbeats 4000000 in
theorem url_zero (s x : ByteArray) (w : World) (hn : s.size ≤ 1000) (hx : x.size ≤ 4000) (hs : Lib.hasSuffix x.data.toList [61] = false) (hm : x.size % 4 = 0) (ht : x = encS alUrl s (padLen s)) :
    Calls Tryz.prog 50 #[.string x] w fun e w' => e = .returned (.tuple #[.string s, .bool true]) ∧ Below w.heap.size w w' := by
  have HT : Hid (x = encS alUrl s ((s.size + 2) / 3 * 4)) := ht
  have HS := hid (fun W => (Tryz.strings_HasSuffix x ⟨#[61]⟩ W (by omega)).mono fun e w' (h : e = .returned (.bool (Lib.hasSuffix x.data.toList [61])) ∧ w' = W) => (⟨by rw [h.1, hs], h.2.symm⟩ : e = .returned (.bool false) ∧ W = w'))
  have t0 : ((x.size : Int) % 4 == 0) = true := beq_iff_eq.2 (by omega)
  have t2 : ((x.size : Int) % 4 == 2) = false := beq_eq_false_iff_ne.2 (by omega)
  have t3 : ((x.size : Int) % 4 == 3) = false := beq_eq_false_iff_ne.2 (by omega)
  clear hm
  clear ht hs
  go_enter Tryz.func50, Tryz.ntmps50
  go_wp2_with (first | (go_at_call 114; go_must (refine (HS.out _).mono ?_; rintro e w' ⟨rfl, rfl⟩)) | (go_at_call 138; go_must (refine (url_ex _).mono ?_; rintro e w2 ⟨be, g, rfl, hg, hrow, hb2⟩; have H2 := hid (And.intro hg (And.intro hrow hb2)); clear hg hrow hb2)) | (go_at_call 137; go_must (refine (decStr_any alUrl s _ be g _ alpha_url hn HT.out H2.out.1 H2.out.2.1).mono ?_; rintro e w3 ⟨cap, rfl, hcv, hb3⟩; have hb9 := H2.out.2.2.trans (hb3.mono H2.out.2.2.size); obtain ⟨hc1, hf1⟩ := bcell hb9; obtain ⟨hr1, hs1, hz1, hr2, hs2⟩ := after1 hb9)) | go_in)
  go_ret2
  refine ⟨rfl, ?_⟩
  repeat (first | exact Below.refl _ _ | (refine Below.drew ?_) | (refine Below.alloc ?_ (by first | omega | (simp; done) | (simp; omega)) _) | (refine Below.setCell ?_ (by first | omega | (simp; done) | (simp; omega)) _) | (refine Below.trans ?_ (hb9.mono (by first | omega | (simp; done) | (simp; omega)))))
set_option maxRecDepth 100000 in
set_option maxHeartbeats 4000000 in
theorem url_two (s x : ByteArray) (w : World) (hn : s.size ≤ 1000) (hx : x.size ≤ 4000) (hs : Lib.hasSuffix x.data.toList [61] = false) (hm : x.size % 4 = 2) (ht : x ++ ⟨#[61, 61]⟩ = encS alUrl s (padLen s)) :
    Calls Tryz.prog 50 #[.string x] w fun e w' => e = .returned (.tuple #[.string s, .bool true]) ∧ Below w.heap.size w w' := by
  have HT : Hid (x ++ ⟨#[61, 61]⟩ = encS alUrl s ((s.size + 2) / 3 * 4)) := ht
  have HS := hid (fun W => (Tryz.strings_HasSuffix x ⟨#[61]⟩ W (by omega)).mono fun e w' (h : e = .returned (.bool (Lib.hasSuffix x.data.toList [61])) ∧ w' = W) => (⟨by rw [h.1, hs], h.2.symm⟩ : e = .returned (.bool false) ∧ W = w'))
  have t0 : ((x.size : Int) % 4 == 0) = false := beq_eq_false_iff_ne.2 (by omega)
  have t2 : ((x.size : Int) % 4 == 2) = true := beq_iff_eq.2 (by omega)
  have t3 : ((x.size : Int) % 4 == 3) = false := beq_eq_false_iff_ne.2 (by omega)
  clear hm
  clear ht hs
  go_enter Tryz.func50, Tryz.ntmps50
  go_wp2_with (first | (go_at_call 114; go_must (refine (HS.out _).mono ?_; rintro e w' ⟨rfl, rfl⟩)) | (go_at_call 138; go_must (refine (url_ex _).mono ?_; rintro e w2 ⟨be, g, rfl, hg, hrow, hb2⟩; have H2 := hid (And.intro hg (And.intro hrow hb2)); clear hg hrow hb2)) | (go_at_call 137; go_must (refine (decStr_any alUrl s _ be g _ alpha_url hn HT.out H2.out.1 H2.out.2.1).mono ?_; rintro e w3 ⟨cap, rfl, hcv, hb3⟩; have hb9 := H2.out.2.2.trans (hb3.mono H2.out.2.2.size); obtain ⟨hc1, hf1⟩ := bcell hb9; obtain ⟨hr1, hs1, hz1, hr2, hs2⟩ := after1 hb9)) | go_in)
  go_ret2
  refine ⟨rfl, ?_⟩
  repeat (first | exact Below.refl _ _ | (refine Below.drew ?_) | (refine Below.alloc ?_ (by first | omega | (simp; done) | (simp; omega)) _) | (refine Below.setCell ?_ (by first | omega | (simp; done) | (simp; omega)) _) | (refine Below.trans ?_ (hb9.mono (by first | omega | (simp; done) | (simp; omega)))))
set_option maxRecDepth 100000 in
set_option maxHeartbeats 4000000 in
theorem url_three (s x : ByteArray) (w : World) (hn : s.size ≤ 1000) (hx : x.size ≤ 4000) (hs : Lib.hasSuffix x.data.toList [61] = false) (hm : x.size % 4 = 3) (ht : x ++ ⟨#[61]⟩ = encS alUrl s (padLen s)) :
    Calls Tryz.prog 50 #[.string x] w fun e w' => e = .returned (.tuple #[.string s, .bool true]) ∧ Below w.heap.size w w' := by
  have HT : Hid (x ++ ⟨#[61]⟩ = encS alUrl s ((s.size + 2) / 3 * 4)) := ht
  have HS := hid (fun W => (Tryz.strings_HasSuffix x ⟨#[61]⟩ W (by omega)).mono fun e w' (h : e = .returned (.bool (Lib.hasSuffix x.data.toList [61])) ∧ w' = W) => (⟨by rw [h.1, hs], h.2.symm⟩ : e = .returned (.bool false) ∧ W = w'))
  have t0 : ((x.size : Int) % 4 == 0) = false := beq_eq_false_iff_ne.2 (by omega)
  have t2 : ((x.size : Int) % 4 == 2) = false := beq_eq_false_iff_ne.2 (by omega)
  have t3 : ((x.size : Int) % 4 == 3) = true := beq_iff_eq.2 (by omega)
  clear hm
  clear ht hs
  go_enter Tryz.func50, Tryz.ntmps50
  go_wp2_with (first | (go_at_call 114; go_must (refine (HS.out _).mono ?_; rintro e w' ⟨rfl, rfl⟩)) | (go_at_call 138; go_must (refine (url_ex _).mono ?_; rintro e w2 ⟨be, g, rfl, hg, hrow, hb2⟩; have H2 := hid (And.intro hg (And.intro hrow hb2)); clear hg hrow hb2)) | (go_at_call 137; go_must (refine (decStr_any alUrl s _ be g _ alpha_url hn HT.out H2.out.1 H2.out.2.1).mono ?_; rintro e w3 ⟨cap, rfl, hcv, hb3⟩; have hb9 := H2.out.2.2.trans (hb3.mono H2.out.2.2.size); obtain ⟨hc1, hf1⟩ := bcell hb9; obtain ⟨hr1, hs1, hz1, hr2, hs2⟩ := after1 hb9)) | go_in)
  go_ret2
  refine ⟨rfl, ?_⟩
  repeat (first | exact Below.refl _ _ | (refine Below.drew ?_) | (refine Below.alloc ?_ (by first | omega | (simp; done) | (simp; omega)) _) | (refine Below.setCell ?_ (by first | omega | (simp; done) | (simp; omega)) _) | (refine Below.trans ?_ (hb9.mono (by first | omega | (simp; done) | (simp; omega)))))
theorem decodeURL_pad (s x : ByteArray) (w : World) (hn : s.size ≤ 1000) (hx : x = encS alUrl s (padLen s)) :
    Calls Tryz.prog 50 #[.string x] w fun e w' => e = .returned (.tuple #[.string s, .bool true]) ∧ Below w.heap.size w w' := by
  have hsz : x.size = padLen s := by rw [hx, encS_size]
  have hl : padLen s ≤ 4000 := by unfold padLen; omega
  by_cases h : s.size % 3 = 0
  · exact url_zero s x w hn (by omega) (by rw [hx]; exact suf_pad0 alUrl s alpha_url h) (by rw [hsz]; unfold padLen; omega) hx
  · exact url_padded s x w hn (by omega) (by rw [hx]; exact suf_pad alUrl s h) hx
theorem decodeURL_no (s x : ByteArray) (w : World) (hn : s.size ≤ 1000) (hx : x = encS alUrl s (noLen s)) :
    Calls Tryz.prog 50 #[.string x] w fun e w' => e = .returned (.tuple #[.string s, .bool true]) ∧ Below w.heap.size w w' := by
  have hsz : x.size = noLen s := by rw [hx, encS_size]
  have hl : noLen s ≤ 4000 := by unfold noLen; omega
  have hs : Lib.hasSuffix x.data.toList [61] = false := by rw [hx]; exact suf_no alUrl s alpha_url
  have h3 : s.size % 3 = 0 ∨ s.size % 3 = 1 ∨ s.size % 3 = 2 := by omega
  rcases h3 with h | h | h
  · exact url_zero s x w hn (by omega) hs (by rw [hsz]; unfold noLen; omega) (by rw [hx]; exact no_zero alUrl s h)
  · exact url_two s x w hn (by omega) hs (by rw [hsz]; unfold noLen; omega) (by rw [hx]; exact no_two alUrl s h)
  · exact url_three s x w hn (by omega) hs (by rw [hsz]; unfold noLen; omega) (by rw [hx]; exact no_one alUrl s h)
end Go.Proofs.YtlallleahgfdkaaGreatDoor
