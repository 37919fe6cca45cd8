/- builtins.StringOperandByteSlice; impl.Encode64, EncodeURL, EncodeNoPad, EncodeHex at at most 1000 bytes: the signs of the plain law; new memory alone is made. -/
import Derived.Test.YtlallleahgfdkaaGreatDoorB64DS
import Derived.Test.YtlallleahgfdkaaGreatDoorHexImpl
namespace Go.Proofs.YtlallleahgfdkaaGreatDoor
open Go.RowKit

theorem empty_of {s : ByteArray} (h : ¬ 0 < s.size) : s = ByteArray.empty := ext_bv s ByteArray.empty (by rw [ByteArray.size_empty]; omega) (fun i hi => by omega)
set_option maxRecDepth 100000 in
set_option maxHeartbeats 4000000 in
theorem opBytes_any (s : ByteArray) (w : World) (hn : s.size ≤ 1000) :
    Calls Tryz.prog 134 #[.iface 73 (.string s), .int .i64 1] w fun e w' => ∃ bs cap, e = .returned (.tuple #[.slice (some ⟨bs, 0, none⟩) s.size cap, .nilIface]) ∧ s.size ≤ cap ∧ bs < w'.heap.size ∧ (∀ i, i < s.size → w'.cell? ⟨bs, i, none⟩ = some (.int .u8 (bv s i : Nat))) ∧ Below w.heap.size w w' := by
  by_cases h0 : 0 < s.size
  · have hcv := fun w => run_bytes_of_string (P := Tryz.prog) w 9 58 5 s Tryz.underlying9 Tryz.underlying58 Tryz.underlying5
    have hge := grownCap_ge w s.size 0 5
    have t0 : ((s.size : Int) == 0) = false := beq_eq_false_iff_ne.2 (by omega)
    go_enter Tryz.func134, Tryz.ntmps134
    go_wp2
    go_ret2
    refine ⟨_, _, rfl, hge, by simp, fun i hi => ?_, ((Below.refl _ _).alloc (Nat.le_refl _) _).drew⟩
    show (w.alloc _).cell? _ = _
    rw [World.cell?_alloc_mark, bv_row s _ i hi]
  · obtain rfl : s = ByteArray.empty := empty_of h0
    go_enter Tryz.func134, Tryz.ntmps134
    go_wp2
    go_ret2
    exact ⟨_, _, rfl, Nat.le_refl _, by simp, fun i hi => by simp at hi, (Below.refl _ _).alloc (Nat.le_refl _) _⟩
set_option maxRecDepth 100000 in
set_option maxHeartbeats 4000000 in
theorem encode64_any (s : ByteArray) (w : World) (hn : s.size ≤ 1000) :
    Calls Tryz.prog 47 #[.string s] w fun e w' => e = .returned (.tuple #[.string (encS alStd s ((s.size + 2) / 3 * 4)), .bool true]) ∧ Below w.heap.size w w' := by
  go_enter Tryz.func47, Tryz.ntmps47
  go_wp2_with (first | (go_at_call 134; go_must (refine (opBytes_any s _ hn).mono ?_; rintro e w1 ⟨bs, cap, rfl, hcap, hbs, hcell, hb1⟩; have H1 := hid (And.intro hcell hb1); clear hcell hb1)) | (go_at_call 135; go_must (refine (std_any _).mono ?_; rintro e w2 ⟨rfl, ⟨g, hg, hrow⟩, hb2⟩; have H2 := hid (And.intro hg (And.intro hrow hb2)); clear hg hrow hb2)) | (go_at_call 136; go_must (refine (encStr_pad alStd s _ _ _ g _ hn hcap H2.out.1 H2.out.2.1 (fun i hi => (H2.out.2.2.cell (p := ⟨bs, i, none⟩) hbs).trans (H1.out.1 i hi)) (Nat.lt_of_lt_of_le hbs H2.out.2.2.size)).mono ?_; rintro e w3 ⟨rfl, hb3⟩; have hb9 := H1.out.2.trans ((H2.out.2.2.mono H1.out.2.size).trans (hb3.mono (Nat.le_trans H1.out.2.size H2.out.2.2.size))); obtain ⟨hc1, hf1⟩ := bcell hb9; obtain ⟨hr1, hs1, hz1, hr2, hs2⟩ := after1 hb9)) | go_in)
  go_ret2
  refine ⟨rfl, ?_⟩
  repeat (first | exact Below.refl _ _ | (refine Below.drew ?_) | (refine Below.alloc ?_ (by first | omega | (simp; done) | (simp; omega)) _) | (refine Below.setCell ?_ (by first | omega | (simp; done) | (simp; omega)) _) | (refine Below.trans ?_ (hb9.mono (by first | omega | (simp; done) | (simp; omega)))))
set_option maxRecDepth 100000 in
set_option maxHeartbeats 4000000 in
theorem encodeURL_any (s : ByteArray) (w : World) (hn : s.size ≤ 1000) :
    Calls Tryz.prog 51 #[.string s] w fun e w' => e = .returned (.tuple #[.string (encS alUrl s ((s.size + 2) / 3 * 4)), .bool true]) ∧ Below w.heap.size w w' := by
  go_enter Tryz.func51, Tryz.ntmps51
  go_wp2_with (first | (go_at_call 134; go_must (refine (opBytes_any s _ hn).mono ?_; rintro e w1 ⟨bs, cap, rfl, hcap, hbs, hcell, hb1⟩; have H1 := hid (And.intro hcell hb1); clear hcell hb1)) | (go_at_call 138; go_must (refine (url_any _).mono ?_; rintro e w2 ⟨rfl, ⟨g, hg, hrow⟩, hb2⟩; have H2 := hid (And.intro hg (And.intro hrow hb2)); clear hg hrow hb2)) | (go_at_call 136; go_must (refine (encStr_pad alUrl s _ _ _ g _ hn hcap H2.out.1 H2.out.2.1 (fun i hi => (H2.out.2.2.cell (p := ⟨bs, i, none⟩) hbs).trans (H1.out.1 i hi)) (Nat.lt_of_lt_of_le hbs H2.out.2.2.size)).mono ?_; rintro e w3 ⟨rfl, hb3⟩; have hb9 := H1.out.2.trans ((H2.out.2.2.mono H1.out.2.size).trans (hb3.mono (Nat.le_trans H1.out.2.size H2.out.2.2.size))); obtain ⟨hc1, hf1⟩ := bcell hb9; obtain ⟨hr1, hs1, hz1, hr2, hs2⟩ := after1 hb9)) | go_in)
  go_ret2
  refine ⟨rfl, ?_⟩
  repeat (first | exact Below.refl _ _ | (refine Below.drew ?_) | (refine Below.alloc ?_ (by first | omega | (simp; done) | (simp; omega)) _) | (refine Below.setCell ?_ (by first | omega | (simp; done) | (simp; omega)) _) | (refine Below.trans ?_ (hb9.mono (by first | omega | (simp; done) | (simp; omega)))))
/-- A whole row, as a load of all its cells asks it. -/
theorem range_full {w : World} {b n : Nat} {t : TypeId} {g : Nat → Value} (h : w.rowIs b t n g) (ty : TypeId) (hi : (Tryz.prog.info? ty).map (·.size) = some n) :
    ∃ CS : List Value, w.rangeAt b 0 CS ∧ (Tryz.prog.info? ty).map (·.size) = some CS.length ∧ CS.toArray.size = n ∧ ∀ i, i < CS.toArray.size → CS.toArray[i]? = some (g i) := by
  refine ⟨(List.range n).map fun i => g i, fun j v hv => ?_, by rw [hi]; simp, by simp, fun i hi => ?_⟩
  · obtain ⟨hj, hv⟩ := List.getElem?_eq_some_iff.1 hv
    rw [List.getElem_map, List.getElem_range] at hv
    rw [← hv, Nat.zero_add]
    simp only [List.length_map, List.length_range] at hj
    exact h.cell hj
  · have hi2 : i < n := by simpa using hi
    simp [hi2]
set_option maxRecDepth 100000 in
set_option maxHeartbeats 4000000 in
theorem encodeNoPad_any (s : ByteArray) (w : World) (hn : s.size ≤ 1000) :
    Calls Tryz.prog 52 #[.string s] w fun e w' => e = .returned (.tuple #[.string (encS alUrl s (s.size / 3 * 4 + (s.size % 3 * 8 + 5) / 6)), .bool true]) ∧ Below w.heap.size w w' := by
  have hi133 : (Tryz.prog.info? 133).map (·.size) = some 322 := by kernel_rfl
  have HI := hid hi133
  clear hi133
  go_enter Tryz.func52, Tryz.ntmps52
  go_wp2_with (first | (with_reducible refine wpList_load_mid rfl 133 (.tmp 24) rfl _ 0 rfl CS _ hra Tryz.underlying133 rfl hi ?_; clear hra hi) | (go_at_call 134; go_must (refine (opBytes_any s _ hn).mono ?_; rintro e w1 ⟨bs, cap, rfl, hcap, hbs, hcell, hb1⟩; have H1 := hid (And.intro hcell hb1); clear hcell hb1)) | (go_at_call 138; go_must (refine (url_any _).mono ?_; rintro e w2 ⟨rfl, ⟨g, hg, hrow⟩, hb2⟩; obtain ⟨CS, hra, hi, hcs, hcg⟩ := range_full hrow 133 HI.out; have H2 := hid (And.intro hg (And.intro hb2 (And.intro hcs hcg))); clear hg hrow hb2 hcs hcg)) | (go_at_call 139; go_must (refine (withPad_any alUrl CS.toArray g _ H2.out.2.2.1 H2.out.2.2.2 H2.out.1).mono ?_; rintro e w4 ⟨rfl, ⟨g4, hg4, hrow4⟩, hb4⟩; have H4 := hid (And.intro hg4 (And.intro hrow4 hb4)); clear hg4 hrow4 hb4)) | (go_at_call 136; go_must (refine (encStr_no alUrl s _ _ _ g4 _ hn hcap H4.out.1 H4.out.2.1 (fun i hi => (H4.out.2.2.cell (p := ⟨bs, i, none⟩) (Nat.lt_of_lt_of_le hbs H2.out.2.1.size)).trans ((H2.out.2.1.cell (p := ⟨bs, i, none⟩) hbs).trans (H1.out.1 i hi))) (Nat.lt_of_lt_of_le hbs (Nat.le_trans H2.out.2.1.size H4.out.2.2.size))).mono ?_; rintro e w3 ⟨rfl, hb3⟩; have hb9 := H1.out.2.trans ((H2.out.2.1.mono H1.out.2.size).trans ((H4.out.2.2.mono (Nat.le_trans H1.out.2.size H2.out.2.1.size)).trans (hb3.mono (Nat.le_trans H1.out.2.size (Nat.le_trans H2.out.2.1.size H4.out.2.2.size))))); obtain ⟨hc1, hf1⟩ := bcell hb9; obtain ⟨hr1, hs1, hz1, hr2, hs2⟩ := after1 hb9)) | go_in)
  go_ret2
  refine ⟨rfl, ?_⟩
  repeat (first | exact Below.refl _ _ | (refine Below.drew ?_) | (refine Below.alloc ?_ (by first | omega | (simp; done) | (simp; omega)) _) | (refine Below.setCell ?_ (by first | omega | (simp; done) | (simp; omega)) _) | (refine Below.trans ?_ (hb9.mono (by first | omega | (simp; done) | (simp; omega)))))
/-- The text in hexadecimal digits. -/
def hexS (s : ByteArray) : ByteArray := ⟨(Lib.Hx.encode s.data.toList).toArray⟩
theorem hexS_size (s : ByteArray) : (hexS s).size = 2 * s.size := by
  rw [Lib.size_eq, Lib.size_eq s]
  exact Lib.Hx.encode_length _
theorem v_digit : ∀ d : Fin 16, Lib.Hx.v (Lib.Hx.digit d.val) = d.val := by decide +kernel
theorem dec_enc (l : List UInt8) : Lib.Hx.decode (Lib.Hx.encode l) = (l, .ok) := by
  induction l with
  | nil => exact Lib.Hx.decode_nil
  | cons a t ih =>
    have ha : a.toNat < 256 := UInt8.toNat_lt _
    have h1 := v_digit ⟨a.toNat / 16, by omega⟩
    have h2 := v_digit ⟨a.toNat % 16, by omega⟩
    simp only at h1 h2
    rw [Lib.Hx.encode_cons, Lib.Hx.decode_two, h1, h2, if_neg (by omega), if_neg (by omega), ih]
    have e : UInt8.ofNat (a.toNat / 16 * 16 + a.toNat % 16) = a := by
      rw [show a.toNat / 16 * 16 + a.toNat % 16 = a.toNat by omega]
      simp
    rw [e]
theorem dec_hexS (s : ByteArray) : Lib.Hx.decode (hexS s).data.toList = (s.data.toList, .ok) := dec_enc _
theorem hexEnc_any (s : ByteArray) (bs cap : Nat) (w : World) (hn : s.size ≤ 1000) (hsrc : ∀ i, i < s.size → w.cell? ⟨bs, i, none⟩ = some (.int .u8 (bv s i : Nat))) (hb : bs < w.heap.size) :
    Calls Tryz.prog 140 #[.slice (some ⟨bs, 0, none⟩) s.size cap] w fun e w' => e = .returned (.string (hexS s)) ∧ Below w.heap.size w w' := by
  have h := Tryz.hex_EncodeToString_bytes bs 0 cap s.data.toList w (fun i hi => by
    have hi2 : i < s.size := by rw [Lib.size_eq]; exact hi
    rw [Nat.zero_add, hsrc i hi2, bv_at s i hi2]
    rfl) hb (by rw [← Lib.size_eq]; omega)
  rw [← Lib.size_eq] at h
  exact h
set_option maxRecDepth 100000 in
set_option maxHeartbeats 4000000 in
theorem encodeHex_any (s : ByteArray) (w : World) (hn : s.size ≤ 1000) :
    Calls Tryz.prog 53 #[.string s] w fun e w' => e = .returned (.tuple #[.string (hexS s), .bool true]) ∧ Below w.heap.size w w' := by
  go_enter Tryz.func53, Tryz.ntmps53
  go_wp2_with (first | (go_at_call 134; go_must (refine (opBytes_any s _ hn).mono ?_; rintro e w1 ⟨bs, cap, rfl, hcap, hbs, hcell, hb1⟩; have H1 := hid (And.intro hcell hb1); clear hcell hb1)) | (go_at_call 140; go_must (refine (hexEnc_any s bs cap _ hn H1.out.1 hbs).mono ?_; rintro e w3 ⟨rfl, hb3⟩; have hb9 := H1.out.2.trans (hb3.mono H1.out.2.size); obtain ⟨hc1, hf1⟩ := bcell hb9; obtain ⟨hr1, hs1, hz1, hr2, hs2⟩ := after1 hb9)) | go_in)
  go_ret2
  refine ⟨rfl, ?_⟩
  repeat (first | exact Below.refl _ _ | (refine Below.drew ?_) | (refine Below.alloc ?_ (by first | omega | (simp; done) | (simp; omega)) _) | (refine Below.setCell ?_ (by first | omega | (simp; done) | (simp; omega)) _) | (refine Below.trans ?_ (hb9.mono (by first | omega | (simp; done) | (simp; omega)))))
end Go.Proofs.YtlallleahgfdkaaGreatDoor
