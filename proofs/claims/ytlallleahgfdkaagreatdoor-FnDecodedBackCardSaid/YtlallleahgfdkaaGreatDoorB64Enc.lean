/- encoding/base64's Encoding.EncodedLen, Encode, EncodeToString, padded and not: the signs of the plain law. Conditions: the Encoding's cells read so, the source is in memory, at most 2^31 bytes long. -/
import Derived.Test.YtlallleahgfdkaaGreatDoorB64New
namespace Go.Proofs.YtlallleahgfdkaaGreatDoor
open Go.RowKit

set_option maxRecDepth 100000 in
set_option maxHeartbeats 4000000 in
theorem encLen_pad (be n : Nat) (w : World) (hn : n ≤ 2147483647) (hp : w.cell? ⟨be, 320, none⟩ = some (.int .i32 61)) :
    Calls Tryz.prog 168 #[.pointer (some ⟨be, 0, none⟩), .int .i64 n] w fun e w' => e = .returned (.int .i64 (((n + 2) / 3 * 4 : Nat) : Int)) ∧ w = w' := by
  go_enter Tryz.func168, Tryz.ntmps168
  go_wp2
  go_ret
  exact ⟨ret_int (by omega), rfl⟩
set_option maxRecDepth 100000 in
set_option maxHeartbeats 4000000 in
theorem encLen_no (be n : Nat) (w : World) (hn : n ≤ 2147483647) (hp : w.cell? ⟨be, 320, none⟩ = some (.int .i32 (-1))) :
    Calls Tryz.prog 168 #[.pointer (some ⟨be, 0, none⟩), .int .i64 n] w fun e w' => e = .returned (.int .i64 ((n / 3 * 4 + (n % 3 * 8 + 5) / 6 : Nat) : Int)) ∧ w = w' := by
  go_enter Tryz.func168, Tryz.ntmps168
  go_wp2
  go_ret
  exact ⟨ret_int (by omega), rfl⟩

theorem slice_if (p : Prop) [Decidable p] (b x y n c : Nat) : Value.slice (if p then some ⟨b, x, none⟩ else some ⟨b, y, none⟩) n c = Value.slice (some ⟨b, if p then x else y, none⟩) n c := by
  by_cases h : p
  · rw [if_pos h, if_pos h]
  · rw [if_neg h, if_neg h]
theorem he_below {w w' : World} {b n bd : Nat} {t : TypeId} {g : Nat → Value} (h : w.rowIs b t n g) (hb : Below bd w w') (hlt : b < bd) : w'.rowIs b t n g := h.of_block (hb.block _ hlt)
/-- A part of a row, sa a load of many cells asks it. -/
theorem range_of {w : World} {b n : Nat} {t : TypeId} {g : Nat → Value} (h : w.rowIs b t n g) (o k : Nat) (hk : o + k ≤ n) (ty : TypeId) (hi : (Tryz.prog.info? ty).map (·.size) = some k) :
    ∃ CS : List Value, w.rangeAt b o CS ∧ (Tryz.prog.info? ty).map (·.size) = some CS.length := by
  refine ⟨(List.range k).map fun i => g (o + i), fun j v hv => ?_, by rw [hi]; simp⟩
  obtain ⟨hj, hv⟩ := List.getElem?_eq_some_iff.1 hv
  rw [List.getElem_map, List.getElem_range] at hv
  rw [← hv]
  simp only [List.length_map, List.length_range] at hj
  exact h.cell (by omega)
/-- The row behind q whole quanta. -/
def encRow (al s : ByteArray) (k : Nat) (f : Nat → Value) (i : Nat) : Value := if i < k then .int .u8 (encN al s i) else f i
theorem encRow_zero (al s : ByteArray) (f : Nat → Value) : encRow al s 0 f = f := by funext i; unfold encRow; rw [if_neg (by omega)]
theorem encRow_four (al s : ByteArray) (q : Nat) (f : Nat → Value) (y0 y1 y2 y3 : Nat) (h0 : y0 = encN al s (4 * q)) (h1 : y1 = encN al s (4 * q + 1)) (h2 : y2 = encN al s (4 * q + 2)) (h3 : y3 = encN al s (4 * q + 3)) (i : Nat) :
    (if i = 4 * q + 3 then Value.int .u8 y3 else if i = 4 * q + 2 then .int .u8 y2 else if i = 4 * q + 1 then .int .u8 y1 else if i = 4 * q then .int .u8 y0 else encRow al s (4 * q) f i) = encRow al s (4 * q + 4) f i := by
  unfold encRow
  by_cases e3 : i = 4 * q + 3
  · rw [if_pos e3, if_pos (by omega), h3, e3]
  rw [if_neg e3]
  by_cases e2 : i = 4 * q + 2
  · rw [if_pos e2, if_pos (by omega), h2, e2]
  rw [if_neg e2]
  by_cases e1 : i = 4 * q + 1
  · rw [if_pos e1, if_pos (by omega), h1, e1]
  rw [if_neg e1]
  by_cases e0 : i = 4 * q
  · rw [if_pos e0, if_pos (by omega), h0, e0]
  rw [if_neg e0]
  by_cases e : i < 4 * q
  · rw [if_pos e, if_pos (by omega)]
  · rw [if_neg e, if_neg (by omega)]
theorem encRow_two (al s : ByteArray) (q : Nat) (f : Nat → Value) (y0 y1 : Nat) (h0 : y0 = encN al s (4 * q)) (h1 : y1 = encN al s (4 * q + 1)) (i : Nat) :
    (if i = 4 * q + 1 then Value.int .u8 y1 else if i = 4 * q then .int .u8 y0 else encRow al s (4 * q) f i) = encRow al s (4 * q + 2) f i := by
  unfold encRow
  by_cases e1 : i = 4 * q + 1
  · rw [if_pos e1, if_pos (by omega), h1, e1]
  rw [if_neg e1]
  by_cases e0 : i = 4 * q
  · rw [if_pos e0, if_pos (by omega), h0, e0]
  rw [if_neg e0]
  by_cases e : i < 4 * q
  · rw [if_pos e, if_pos (by omega)]
  · rw [if_neg e, if_neg (by omega)]
theorem encRow_three (al s : ByteArray) (q : Nat) (f : Nat → Value) (y0 y1 y2 : Nat) (h0 : y0 = encN al s (4 * q)) (h1 : y1 = encN al s (4 * q + 1)) (h2 : y2 = encN al s (4 * q + 2)) (i : Nat) :
    (if i = 4 * q + 2 then Value.int .u8 y2 else if i = 4 * q + 1 then .int .u8 y1 else if i = 4 * q then .int .u8 y0 else encRow al s (4 * q) f i) = encRow al s (4 * q + 3) f i := by
  unfold encRow
  by_cases e2 : i = 4 * q + 2
  · rw [if_pos e2, if_pos (by omega), h2, e2]
  rw [if_neg e2]
  by_cases e1 : i = 4 * q + 1
  · rw [if_pos e1, if_pos (by omega), h1, e1]
  rw [if_neg e1]
  by_cases e0 : i = 4 * q
  · rw [if_pos e0, if_pos (by omega), h0, e0]
  rw [if_neg e0]
  by_cases e : i < 4 * q
  · rw [if_pos e, if_pos (by omega)]
  · rw [if_neg e, if_neg (by omega)]
theorem encRow_all (al s : ByteArray) (k : Nat) (f : Nat → Value) (i : Nat) (h : i < k) : encRow al s k f i = .int .u8 (encN al s i) := by unfold encRow; rw [if_pos h]
set_option maxRecDepth 100000 in
set_option maxHeartbeats 4000000 in
theorem encode_pad (al s : ByteArray) (be bs bd cs N : Nat) (f g : Nat → Value) (w : World) (h0 : 0 < s.size) (hn : s.size ≤ 2147483647) (hN : N = (s.size + 2) / 3 * 4) (hcs : s.size ≤ cs)
    (hg : EncF al 64 (61) g) (he : w.rowIs be 133 322 g) (hsrc : ∀ i, i < s.size → w.cell? ⟨bs, i, none⟩ = some (.int .u8 (bv s i))) (hd : w.rowIs bd 5 N f) (hbe : be < bd) (hbs : bs < bd) :
    Calls Tryz.prog 169 #[.pointer (some ⟨be, 0, none⟩), .slice (some ⟨bd, 0, none⟩) N N, .slice (some ⟨bs, 0, none⟩) s.size cs] w fun e w' =>
      e = .returned (.tuple #[]) ∧ w'.rowIs bd 5 N (fun i => .int .u8 (encN al s i)) ∧ Below bd w w' := by
  obtain ⟨CS, hr, hi⟩ := range_of he 0 64 (by omega) 130 (by kernel_rfl)
  have HS := hid hsrc
  have HG := hid hg
  have HE := hid he
  have HD := hid hd
  have HN := hid hN
  clear hsrc hg he hd hN
  go_enter Tryz.func169, Tryz.ntmps169
  go_wp2_with (with_reducible refine wpList_load_mid rfl 130 (.tmp 14) rfl be 0 rfl CS _ hr Tryz.underlying130 rfl hi ?_)
  go_frame
  clear hr hi
  go_loopw [1, 2] (fun vd vs wr => ∃ da d sa m c : Nat, vd = .slice (some ⟨bd, da, none⟩) d d ∧ vs = .slice (some ⟨bs, sa, none⟩) m c ∧ m ≤ s.size ∧ m ≤ c ∧ c ≤ cs ∧ d ≤ N ∧ Hid (∃ q, s.size = 3 * q + m ∧ cs = 3 * q + c ∧ N = 4 * q + d ∧ (0 < m → sa = 3 * q) ∧ (0 < d → da = 4 * q) ∧ wr.rowIs bd 5 N (encRow al s (4 * q) f) ∧ Below bd w wr)) (fun _ vs _ => match vs with | .slice _ m _ => m | _ => 0)
  case atStart => exact ⟨0, N, 0, s.size, cs, rfl, rfl, Nat.le_refl _, hcs, Nat.le_refl _, Nat.le_refl _, hid ⟨0, by omega, by omega, by omega, fun _ => rfl, fun _ => rfl, by rw [Nat.mul_zero, encRow_zero]; exact HD.out, Below.refl _ _⟩⟩
  case round =>
    obtain ⟨da, d, sa, m, c, rfl, rfl, hm, hc, hccs, hdN, HR⟩ := hrel
    by_cases h3 : 3 ≤ m
    · obtain ⟨q, e1, e2, e3, e4, e5, hrow, hb⟩ := HR.out
      clear HR
      have hd4 : 4 ≤ d := by have := HN.out; omega
      have HAD := hid (e5 (by omega))
      have HAS := hid (e4 (by omega))
      have c0 : wr.cell? ⟨bs, sa, none⟩ = some (.int .u8 (bv s (3 * q))) := by rw [hb.cell (p := ⟨bs, sa, none⟩) hbs, HAS.out]; exact HS.out _ (by omega)
      have c1 : wr.cell? ⟨bs, sa + 1, none⟩ = some (.int .u8 (bv s (3 * q + 1))) := by rw [hb.cell (p := ⟨bs, sa + 1, none⟩) hbs, HAS.out]; exact HS.out _ (by omega)
      have c2 : wr.cell? ⟨bs, sa + 2, none⟩ = some (.int .u8 (bv s (3 * q + 2))) := by rw [hb.cell (p := ⟨bs, sa + 2, none⟩) hbs, HAS.out]; exact HS.out _ (by omega)
      have HE' := hid (he_below HE.out hb hbe)
      have b0 := bv_lt s (3 * q)
      have b1 := bv_lt s (3 * q + 1)
      have b2 := bv_lt s (3 * q + 2)
      have hv := or3 _ _ _ b0 b1 b2
      have hv' : bv s (3 * q) * 65536 + bv s (3 * q + 1) * 256 + bv s (3 * q + 2) = qv s q := rfl
      rw [hv'] at hv
      have hq := qv_lt s q
      have HX := hid (And.intro (sx0 _ hq) (And.intro (sx1 _ hq) (And.intro (sx2 _ hq) (sx3 _ hq))))
      have HROW := hid hrow
      have HB := hid hb
      have HEQ := hid (And.intro e1 (And.intro e2 e3))
      clear e1 e2 e3 e4 e5 hrow hb hv'
      generalize bv s (3 * q) = x0 at *
      generalize bv s (3 * q + 1) = x1 at *
      generalize bv s (3 * q + 2) = x2 at *
      go_wp2
      go_quiet (fail)
      obtain ⟨wq, hwq⟩ : ∃ wq, wq = wr.drewN nq := ⟨_, rfl⟩
      rw [← hwq]
      have HBQ : Hid (Below bd w wq) := by rw [hwq]; exact below_drewN HB.out _
      have HRQ : Hid (wq.rowIs bd 5 N (encRow al s (4 * q) f)) := by rw [hwq]; exact HROW.out
      have HEQ2 : Hid (wq.rowIs be 133 322 g) := by rw [hwq]; exact HE'.out
      clear hwq c0 c1 c2 HB HROW HE' hv
      have hz0 := sxv_lt _ 0 hq
      have hz1 := sxv_lt _ 1 hq
      have hz2 := sxv_lt _ 2 hq
      have hz3 := sxv_lt _ 3 hq
      have s0 := HX.out.1
      have s1 := HX.out.2.1
      have s2 := HX.out.2.2.1
      have s3 := HX.out.2.2.2
      have k0 : wq.cell? ⟨be, sxv (qv s q) 0, none⟩ = some (.int .u8 (bv al (sxv (qv s q) 0))) := by rw [HEQ2.out.cell (by omega), HG.out.enc _ hz0]
      have k1 : wq.cell? ⟨be, sxv (qv s q) 1, none⟩ = some (.int .u8 (bv al (sxv (qv s q) 1))) := by rw [HEQ2.out.cell (by omega), HG.out.enc _ hz1]
      have k2 : wq.cell? ⟨be, sxv (qv s q) 2, none⟩ = some (.int .u8 (bv al (sxv (qv s q) 2))) := by rw [HEQ2.out.cell (by omega), HG.out.enc _ hz2]
      have k3 : wq.cell? ⟨be, sxv (qv s q) 3, none⟩ = some (.int .u8 (bv al (sxv (qv s q) 3))) := by rw [HEQ2.out.cell (by omega), HG.out.enc _ hz3]
      have d0 : wq.cell? ⟨bd, da, none⟩ = some (encRow al s (4 * q) f da) := HRQ.out.cell (by rw [HAD.out]; have := HEQ.out.2.2; omega)
      have d1 : wq.cell? ⟨bd, da + 1, none⟩ = some (encRow al s (4 * q) f (da + 1)) := HRQ.out.cell (by rw [HAD.out]; have := HEQ.out.2.2; omega)
      have d2 : wq.cell? ⟨bd, da + 2, none⟩ = some (encRow al s (4 * q) f (da + 2)) := HRQ.out.cell (by rw [HAD.out]; have := HEQ.out.2.2; omega)
      have d3 : wq.cell? ⟨bd, da + 3, none⟩ = some (encRow al s (4 * q) f (da + 3)) := HRQ.out.cell (by rw [HAD.out]; have := HEQ.out.2.2; omega)
      have hfr : ∀ o, wq.frozen? ⟨bd, o, none⟩ = false := fun o => HRQ.out.frozen o
      clear HX
      generalize encRow al s (4 * q) f da = v0 at *
      generalize encRow al s (4 * q) f (da + 1) = v1 at *
      generalize encRow al s (4 * q) f (da + 2) = v2 at *
      generalize encRow al s (4 * q) f (da + 3) = v3 at *
      go_wp2
      refine ⟨⟨if d = 4 then da else da + 4, d - 4, if c = 3 then sa else sa + 3, m - 3, c - 3, slice_if _ _ _ _ _ _, slice_if _ _ _ _ _ _, by omega, by omega, by omega, by omega, hid ⟨q + 1, ?_, ?_, ?_, ?_, ?_, ?_, ?_⟩⟩, ?_⟩
      · have := HEQ.out.1; omega
      · have := HEQ.out.2.1; omega
      · have := HEQ.out.2.2; omega
      · intro h; rw [if_neg (by omega), HAS.out]; omega
      · intro h; rw [if_neg (by omega), HAD.out]; omega
      · refine ((((HRQ.out.set da _).set (da + 1) _).set (da + 2) _).set (da + 3) _).congr (fun i hi => ?_)
        rw [show 4 * (q + 1) = 4 * q + 4 by omega, HAD.out]
        have hs := HEQ.out.1
        exact encRow_four al s q f _ _ _ _ (encN_sig al s q 0 (by omega) (by omega)).symm (encN_sig al s q 1 (by omega) (by omega)).symm (encN_sig al s q 2 (by omega) (by omega)).symm (encN_sig al s q 3 (by omega) (by omega)).symm i
      · exact (((HBQ.out.setCell (Nat.le_refl _) _).setCell (Nat.le_refl _) _).setCell (Nat.le_refl _) _).setCell (Nat.le_refl _) _
      · show m - 3 < m; omega
    · have hm3 : m = 0 ∨ m = 1 ∨ m = 2 := by omega
      rcases hm3 with rfl | rfl | rfl
      · go_wp2
        refine bodyPost_ret (results_none rfl _ _ _) rfl ?_
        obtain ⟨q, e1, e2, e3, e4, e5, hrow, hb⟩ := HR.out
        have hN := HN.out
        exact ⟨rfl, hrow.congr (fun i hi => encRow_all al s (4 * q) f i (by omega)), hb⟩
      · skip
        obtain ⟨q, e1, e2, e3, e4, e5, hrow, hb⟩ := HR.out
        clear HR
        obtain rfl : d = 4 := by have := HN.out; omega
        have HAD := hid (e5 (by omega))
        have HAS := hid (e4 (by omega))
        have c0 : wr.cell? ⟨bs, sa, none⟩ = some (.int .u8 (bv s (3 * q))) := by rw [hb.cell (p := ⟨bs, sa, none⟩) hbs, HAS.out]; exact HS.out _ (by omega)
        have HEQ2 := hid (he_below HE.out hb hbe)
        have b0 := bv_lt s (3 * q)
        have b1 := bv_lt s (3 * q + 1)
        have hv : ((bv s (3 * q) : Nat) : Int) * 65536 = ((qv s q : Nat) : Int) := by
          unfold qv; rw [bv_end s (3 * q + 1) (by omega), bv_end s (3 * q + 2) (by omega)]; omega
        have hq := qv_lt s q
        have HRQ := hid hrow
        have HBQ := hid hb
        have HEQ := hid (And.intro e1 (And.intro e2 e3))
        clear e1 e2 e3 e4 e5 hrow hb
        have hz0 := sxv_lt _ 0 hq
        have s0 := sx0 _ hq
        have k0 : wr.cell? ⟨be, sxv (qv s q) 0, none⟩ = some (.int .u8 (bv al (sxv (qv s q) 0))) := by rw [HEQ2.out.cell (by omega), HG.out.enc _ hz0]
        have hz1 := sxv_lt _ 1 hq
        have s1 := sx1 _ hq
        have k1 : wr.cell? ⟨be, sxv (qv s q) 1, none⟩ = some (.int .u8 (bv al (sxv (qv s q) 1))) := by rw [HEQ2.out.cell (by omega), HG.out.enc _ hz1]
        have kp : wr.cell? ⟨be, 320, none⟩ = some (.int .i32 (61)) := by rw [HEQ2.out.cell (by omega), HG.out.padc]
        have d0 : wr.cell? ⟨bd, da, none⟩ = some (encRow al s (4 * q) f (da)) := HRQ.out.cell (by rw [HAD.out]; have := HEQ.out.2.2; omega)
        have d1 : wr.cell? ⟨bd, da + 1, none⟩ = some (encRow al s (4 * q) f (da + 1)) := HRQ.out.cell (by rw [HAD.out]; have := HEQ.out.2.2; omega)
        have d2 : wr.cell? ⟨bd, da + 2, none⟩ = some (encRow al s (4 * q) f (da + 2)) := HRQ.out.cell (by rw [HAD.out]; have := HEQ.out.2.2; omega)
        have d3 : wr.cell? ⟨bd, da + 3, none⟩ = some (encRow al s (4 * q) f (da + 3)) := HRQ.out.cell (by rw [HAD.out]; have := HEQ.out.2.2; omega)
        have hfr : ∀ o, wr.frozen? ⟨bd, o, none⟩ = false := fun o => HRQ.out.frozen o
        generalize encRow al s (4 * q) f da = v0 at *
        generalize encRow al s (4 * q) f (da + 1) = v1 at *
        generalize encRow al s (4 * q) f (da + 2) = v2 at *
        generalize encRow al s (4 * q) f (da + 3) = v3 at *
        generalize bv s (3 * q) = x0 at *
        go_wp2
        go_end0
        have hs := HEQ.out.1
        have hN := HEQ.out.2.2
        refine ⟨rfl, ((((HRQ.out.set da _).set (da + 1) _).set (da + 2) _).set (da + 3) _).congr (fun i hi => ?_), ((((HBQ.out.setCell (Nat.le_refl _) _).setCell (Nat.le_refl _) _).setCell (Nat.le_refl _) _).setCell (Nat.le_refl _) _)⟩
        rw [HAD.out, ← encRow_all al s (4 * q + 4) f i (by omega)]
        exact encRow_four al s q f _ _ _ _ (encN_sig al s q 0 (by omega) (by omega)).symm (encN_sig al s q 1 (by omega) (by omega)).symm (encN_pad al s q 2 (by omega) (by omega) (by omega)).symm (encN_pad al s q 3 (by omega) (by omega) (by omega)).symm i
      · skip
        obtain ⟨q, e1, e2, e3, e4, e5, hrow, hb⟩ := HR.out
        clear HR
        obtain rfl : d = 4 := by have := HN.out; omega
        have HAD := hid (e5 (by omega))
        have HAS := hid (e4 (by omega))
        have c0 : wr.cell? ⟨bs, sa, none⟩ = some (.int .u8 (bv s (3 * q))) := by rw [hb.cell (p := ⟨bs, sa, none⟩) hbs, HAS.out]; exact HS.out _ (by omega)
        have c1 : wr.cell? ⟨bs, sa + 1, none⟩ = some (.int .u8 (bv s (3 * q + 1))) := by rw [hb.cell (p := ⟨bs, sa + 1, none⟩) hbs, HAS.out]; exact HS.out _ (by omega)
        have HEQ2 := hid (he_below HE.out hb hbe)
        have b0 := bv_lt s (3 * q)
        have b1 := bv_lt s (3 * q + 1)
        have hv := or2 _ _ b0 b1
        have hv' : bv s (3 * q) * 65536 + bv s (3 * q + 1) * 256 = qv s q := by unfold qv; rw [bv_end s (3 * q + 2) (by omega)]; exact (Nat.add_zero _).symm
        rw [hv'] at hv
        clear hv'
        have hq := qv_lt s q
        have HRQ := hid hrow
        have HBQ := hid hb
        have HEQ := hid (And.intro e1 (And.intro e2 e3))
        clear e1 e2 e3 e4 e5 hrow hb
        generalize bv s (3 * q) = x0 at *
        generalize bv s (3 * q + 1) = x1 at *
        go_wp2
        go_quiet (fail)
        obtain ⟨wq, hwq⟩ : ∃ wq, wq = wr.drewN nq := ⟨_, rfl⟩
        rw [← hwq]
        replace HBQ : Hid (Below bd w wq) := by rw [hwq]; exact below_drewN HBQ.out _
        replace HRQ : Hid (wq.rowIs bd 5 N (encRow al s (4 * q) f)) := by rw [hwq]; exact HRQ.out
        replace HEQ2 : Hid (wq.rowIs be 133 322 g) := by rw [hwq]; exact HEQ2.out
        clear hwq c0 c1 hv
        have hz0 := sxv_lt _ 0 hq
        have s0 := sx0 _ hq
        have k0 : wq.cell? ⟨be, sxv (qv s q) 0, none⟩ = some (.int .u8 (bv al (sxv (qv s q) 0))) := by rw [HEQ2.out.cell (by omega), HG.out.enc _ hz0]
        have hz1 := sxv_lt _ 1 hq
        have s1 := sx1 _ hq
        have k1 : wq.cell? ⟨be, sxv (qv s q) 1, none⟩ = some (.int .u8 (bv al (sxv (qv s q) 1))) := by rw [HEQ2.out.cell (by omega), HG.out.enc _ hz1]
        have hz2 := sxv_lt _ 2 hq
        have s2 := sx2 _ hq
        have k2 : wq.cell? ⟨be, sxv (qv s q) 2, none⟩ = some (.int .u8 (bv al (sxv (qv s q) 2))) := by rw [HEQ2.out.cell (by omega), HG.out.enc _ hz2]
        have kp : wq.cell? ⟨be, 320, none⟩ = some (.int .i32 (61)) := by rw [HEQ2.out.cell (by omega), HG.out.padc]
        have d0 : wq.cell? ⟨bd, da, none⟩ = some (encRow al s (4 * q) f (da)) := HRQ.out.cell (by rw [HAD.out]; have := HEQ.out.2.2; omega)
        have d1 : wq.cell? ⟨bd, da + 1, none⟩ = some (encRow al s (4 * q) f (da + 1)) := HRQ.out.cell (by rw [HAD.out]; have := HEQ.out.2.2; omega)
        have d2 : wq.cell? ⟨bd, da + 2, none⟩ = some (encRow al s (4 * q) f (da + 2)) := HRQ.out.cell (by rw [HAD.out]; have := HEQ.out.2.2; omega)
        have d3 : wq.cell? ⟨bd, da + 3, none⟩ = some (encRow al s (4 * q) f (da + 3)) := HRQ.out.cell (by rw [HAD.out]; have := HEQ.out.2.2; omega)
        have hfr : ∀ o, wq.frozen? ⟨bd, o, none⟩ = false := fun o => HRQ.out.frozen o
        generalize encRow al s (4 * q) f da = v0 at *
        generalize encRow al s (4 * q) f (da + 1) = v1 at *
        generalize encRow al s (4 * q) f (da + 2) = v2 at *
        generalize encRow al s (4 * q) f (da + 3) = v3 at *
        go_wp2
        go_end0
        have hs := HEQ.out.1
        have hN := HEQ.out.2.2
        refine ⟨rfl, ((((HRQ.out.set da _).set (da + 1) _).set (da + 2) _).set (da + 3) _).congr (fun i hi => ?_), ((((HBQ.out.setCell (Nat.le_refl _) _).setCell (Nat.le_refl _) _).setCell (Nat.le_refl _) _).setCell (Nat.le_refl _) _)⟩
        rw [HAD.out, ← encRow_all al s (4 * q + 4) f i (by omega)]
        exact encRow_four al s q f _ _ _ _ (encN_sig al s q 0 (by omega) (by omega)).symm (encN_sig al s q 1 (by omega) (by omega)).symm (encN_sig al s q 2 (by omega) (by omega)).symm (encN_pad al s q 3 (by omega) (by omega) (by omega)).symm i
set_option maxRecDepth 100000 in
set_option maxHeartbeats 4000000 in
theorem encode_no (al s : ByteArray) (be bs bd cs N : Nat) (f g : Nat → Value) (w : World) (h0 : 0 < s.size) (hn : s.size ≤ 2147483647) (hN : N = s.size / 3 * 4 + (s.size % 3 * 8 + 5) / 6) (hcs : s.size ≤ cs)
    (hg : EncF al 64 (-1) g) (he : w.rowIs be 133 322 g) (hsrc : ∀ i, i < s.size → w.cell? ⟨bs, i, none⟩ = some (.int .u8 (bv s i))) (hd : w.rowIs bd 5 N f) (hbe : be < bd) (hbs : bs < bd) :
    Calls Tryz.prog 169 #[.pointer (some ⟨be, 0, none⟩), .slice (some ⟨bd, 0, none⟩) N N, .slice (some ⟨bs, 0, none⟩) s.size cs] w fun e w' =>
      e = .returned (.tuple #[]) ∧ w'.rowIs bd 5 N (fun i => .int .u8 (encN al s i)) ∧ Below bd w w' := by
  obtain ⟨CS, hr, hi⟩ := range_of he 0 64 (by omega) 130 (by kernel_rfl)
  have HS := hid hsrc
  have HG := hid hg
  have HE := hid he
  have HD := hid hd
  have HN := hid hN
  clear hsrc hg he hd hN
  go_enter Tryz.func169, Tryz.ntmps169
  go_wp2_with (with_reducible refine wpList_load_mid rfl 130 (.tmp 14) rfl be 0 rfl CS _ hr Tryz.underlying130 rfl hi ?_)
  go_frame
  clear hr hi
  go_loopw [1, 2] (fun vd vs wr => ∃ da d sa m c : Nat, vd = .slice (some ⟨bd, da, none⟩) d d ∧ vs = .slice (some ⟨bs, sa, none⟩) m c ∧ m ≤ s.size ∧ m ≤ c ∧ c ≤ cs ∧ d ≤ N ∧ Hid (∃ q, s.size = 3 * q + m ∧ cs = 3 * q + c ∧ N = 4 * q + d ∧ (0 < m → sa = 3 * q) ∧ (0 < d → da = 4 * q) ∧ wr.rowIs bd 5 N (encRow al s (4 * q) f) ∧ Below bd w wr)) (fun _ vs _ => match vs with | .slice _ m _ => m | _ => 0)
  case atStart => exact ⟨0, N, 0, s.size, cs, rfl, rfl, Nat.le_refl _, hcs, Nat.le_refl _, Nat.le_refl _, hid ⟨0, by omega, by omega, by omega, fun _ => rfl, fun _ => rfl, by rw [Nat.mul_zero, encRow_zero]; exact HD.out, Below.refl _ _⟩⟩
  case round =>
    obtain ⟨da, d, sa, m, c, rfl, rfl, hm, hc, hccs, hdN, HR⟩ := hrel
    by_cases h3 : 3 ≤ m
    · obtain ⟨q, e1, e2, e3, e4, e5, hrow, hb⟩ := HR.out
      clear HR
      have hd4 : 4 ≤ d := by have := HN.out; omega
      have HAD := hid (e5 (by omega))
      have HAS := hid (e4 (by omega))
      have c0 : wr.cell? ⟨bs, sa, none⟩ = some (.int .u8 (bv s (3 * q))) := by rw [hb.cell (p := ⟨bs, sa, none⟩) hbs, HAS.out]; exact HS.out _ (by omega)
      have c1 : wr.cell? ⟨bs, sa + 1, none⟩ = some (.int .u8 (bv s (3 * q + 1))) := by rw [hb.cell (p := ⟨bs, sa + 1, none⟩) hbs, HAS.out]; exact HS.out _ (by omega)
      have c2 : wr.cell? ⟨bs, sa + 2, none⟩ = some (.int .u8 (bv s (3 * q + 2))) := by rw [hb.cell (p := ⟨bs, sa + 2, none⟩) hbs, HAS.out]; exact HS.out _ (by omega)
      have HE' := hid (he_below HE.out hb hbe)
      have b0 := bv_lt s (3 * q)
      have b1 := bv_lt s (3 * q + 1)
      have b2 := bv_lt s (3 * q + 2)
      have hv := or3 _ _ _ b0 b1 b2
      have hv' : bv s (3 * q) * 65536 + bv s (3 * q + 1) * 256 + bv s (3 * q + 2) = qv s q := rfl
      rw [hv'] at hv
      have hq := qv_lt s q
      have HX := hid (And.intro (sx0 _ hq) (And.intro (sx1 _ hq) (And.intro (sx2 _ hq) (sx3 _ hq))))
      have HROW := hid hrow
      have HB := hid hb
      have HEQ := hid (And.intro e1 (And.intro e2 e3))
      clear e1 e2 e3 e4 e5 hrow hb hv'
      generalize bv s (3 * q) = x0 at *
      generalize bv s (3 * q + 1) = x1 at *
      generalize bv s (3 * q + 2) = x2 at *
      go_wp2
      go_quiet (fail)
      obtain ⟨wq, hwq⟩ : ∃ wq, wq = wr.drewN nq := ⟨_, rfl⟩
      rw [← hwq]
      have HBQ : Hid (Below bd w wq) := by rw [hwq]; exact below_drewN HB.out _
      have HRQ : Hid (wq.rowIs bd 5 N (encRow al s (4 * q) f)) := by rw [hwq]; exact HROW.out
      have HEQ2 : Hid (wq.rowIs be 133 322 g) := by rw [hwq]; exact HE'.out
      clear hwq c0 c1 c2 HB HROW HE' hv
      have hz0 := sxv_lt _ 0 hq
      have hz1 := sxv_lt _ 1 hq
      have hz2 := sxv_lt _ 2 hq
      have hz3 := sxv_lt _ 3 hq
      have s0 := HX.out.1
      have s1 := HX.out.2.1
      have s2 := HX.out.2.2.1
      have s3 := HX.out.2.2.2
      have k0 : wq.cell? ⟨be, sxv (qv s q) 0, none⟩ = some (.int .u8 (bv al (sxv (qv s q) 0))) := by rw [HEQ2.out.cell (by omega), HG.out.enc _ hz0]
      have k1 : wq.cell? ⟨be, sxv (qv s q) 1, none⟩ = some (.int .u8 (bv al (sxv (qv s q) 1))) := by rw [HEQ2.out.cell (by omega), HG.out.enc _ hz1]
      have k2 : wq.cell? ⟨be, sxv (qv s q) 2, none⟩ = some (.int .u8 (bv al (sxv (qv s q) 2))) := by rw [HEQ2.out.cell (by omega), HG.out.enc _ hz2]
      have k3 : wq.cell? ⟨be, sxv (qv s q) 3, none⟩ = some (.int .u8 (bv al (sxv (qv s q) 3))) := by rw [HEQ2.out.cell (by omega), HG.out.enc _ hz3]
      have d0 : wq.cell? ⟨bd, da, none⟩ = some (encRow al s (4 * q) f da) := HRQ.out.cell (by rw [HAD.out]; have := HEQ.out.2.2; omega)
      have d1 : wq.cell? ⟨bd, da + 1, none⟩ = some (encRow al s (4 * q) f (da + 1)) := HRQ.out.cell (by rw [HAD.out]; have := HEQ.out.2.2; omega)
      have d2 : wq.cell? ⟨bd, da + 2, none⟩ = some (encRow al s (4 * q) f (da + 2)) := HRQ.out.cell (by rw [HAD.out]; have := HEQ.out.2.2; omega)
      have d3 : wq.cell? ⟨bd, da + 3, none⟩ = some (encRow al s (4 * q) f (da + 3)) := HRQ.out.cell (by rw [HAD.out]; have := HEQ.out.2.2; omega)
      have hfr : ∀ o, wq.frozen? ⟨bd, o, none⟩ = false := fun o => HRQ.out.frozen o
      clear HX
      generalize encRow al s (4 * q) f da = v0 at *
      generalize encRow al s (4 * q) f (da + 1) = v1 at *
      generalize encRow al s (4 * q) f (da + 2) = v2 at *
      generalize encRow al s (4 * q) f (da + 3) = v3 at *
      go_wp2
      refine ⟨⟨if d = 4 then da else da + 4, d - 4, if c = 3 then sa else sa + 3, m - 3, c - 3, slice_if _ _ _ _ _ _, slice_if _ _ _ _ _ _, by omega, by omega, by omega, by omega, hid ⟨q + 1, ?_, ?_, ?_, ?_, ?_, ?_, ?_⟩⟩, ?_⟩
      · have := HEQ.out.1; omega
      · have := HEQ.out.2.1; omega
      · have := HEQ.out.2.2; omega
      · intro h; rw [if_neg (by omega), HAS.out]; omega
      · intro h; rw [if_neg (by omega), HAD.out]; omega
      · refine ((((HRQ.out.set da _).set (da + 1) _).set (da + 2) _).set (da + 3) _).congr (fun i hi => ?_)
        rw [show 4 * (q + 1) = 4 * q + 4 by omega, HAD.out]
        have hs := HEQ.out.1
        exact encRow_four al s q f _ _ _ _ (encN_sig al s q 0 (by omega) (by omega)).symm (encN_sig al s q 1 (by omega) (by omega)).symm (encN_sig al s q 2 (by omega) (by omega)).symm (encN_sig al s q 3 (by omega) (by omega)).symm i
      · exact (((HBQ.out.setCell (Nat.le_refl _) _).setCell (Nat.le_refl _) _).setCell (Nat.le_refl _) _).setCell (Nat.le_refl _) _
      · show m - 3 < m; omega
    · have hm3 : m = 0 ∨ m = 1 ∨ m = 2 := by omega
      rcases hm3 with rfl | rfl | rfl
      · go_wp2
        refine bodyPost_ret (results_none rfl _ _ _) rfl ?_
        obtain ⟨q, e1, e2, e3, e4, e5, hrow, hb⟩ := HR.out
        have hN := HN.out
        exact ⟨rfl, hrow.congr (fun i hi => encRow_all al s (4 * q) f i (by omega)), hb⟩
      · skip
        obtain ⟨q, e1, e2, e3, e4, e5, hrow, hb⟩ := HR.out
        clear HR
        obtain rfl : d = 2 := by have := HN.out; omega
        have HAD := hid (e5 (by omega))
        have HAS := hid (e4 (by omega))
        have c0 : wr.cell? ⟨bs, sa, none⟩ = some (.int .u8 (bv s (3 * q))) := by rw [hb.cell (p := ⟨bs, sa, none⟩) hbs, HAS.out]; exact HS.out _ (by omega)
        have HEQ2 := hid (he_below HE.out hb hbe)
        have b0 := bv_lt s (3 * q)
        have b1 := bv_lt s (3 * q + 1)
        have hv : ((bv s (3 * q) : Nat) : Int) * 65536 = ((qv s q : Nat) : Int) := by
          unfold qv; rw [bv_end s (3 * q + 1) (by omega), bv_end s (3 * q + 2) (by omega)]; omega
        have hq := qv_lt s q
        have HRQ := hid hrow
        have HBQ := hid hb
        have HEQ := hid (And.intro e1 (And.intro e2 e3))
        clear e1 e2 e3 e4 e5 hrow hb
        have hz0 := sxv_lt _ 0 hq
        have s0 := sx0 _ hq
        have k0 : wr.cell? ⟨be, sxv (qv s q) 0, none⟩ = some (.int .u8 (bv al (sxv (qv s q) 0))) := by rw [HEQ2.out.cell (by omega), HG.out.enc _ hz0]
        have hz1 := sxv_lt _ 1 hq
        have s1 := sx1 _ hq
        have k1 : wr.cell? ⟨be, sxv (qv s q) 1, none⟩ = some (.int .u8 (bv al (sxv (qv s q) 1))) := by rw [HEQ2.out.cell (by omega), HG.out.enc _ hz1]
        have kp : wr.cell? ⟨be, 320, none⟩ = some (.int .i32 (-1)) := by rw [HEQ2.out.cell (by omega), HG.out.padc]
        have d0 : wr.cell? ⟨bd, da, none⟩ = some (encRow al s (4 * q) f (da)) := HRQ.out.cell (by rw [HAD.out]; have := HEQ.out.2.2; omega)
        have d1 : wr.cell? ⟨bd, da + 1, none⟩ = some (encRow al s (4 * q) f (da + 1)) := HRQ.out.cell (by rw [HAD.out]; have := HEQ.out.2.2; omega)
        have hfr : ∀ o, wr.frozen? ⟨bd, o, none⟩ = false := fun o => HRQ.out.frozen o
        generalize encRow al s (4 * q) f da = v0 at *
        generalize encRow al s (4 * q) f (da + 1) = v1 at *
        generalize bv s (3 * q) = x0 at *
        go_wp2
        go_end0
        have hs := HEQ.out.1
        have hN := HEQ.out.2.2
        refine ⟨rfl, ((HRQ.out.set da _).set (da + 1) _).congr (fun i hi => ?_), ((HBQ.out.setCell (Nat.le_refl _) _).setCell (Nat.le_refl _) _)⟩
        rw [HAD.out, ← encRow_all al s (4 * q + 2) f i (by omega)]
        exact encRow_two al s q f _ _ (encN_sig al s q 0 (by omega) (by omega)).symm (encN_sig al s q 1 (by omega) (by omega)).symm i
      · skip
        obtain ⟨q, e1, e2, e3, e4, e5, hrow, hb⟩ := HR.out
        clear HR
        obtain rfl : d = 3 := by have := HN.out; omega
        have HAD := hid (e5 (by omega))
        have HAS := hid (e4 (by omega))
        have c0 : wr.cell? ⟨bs, sa, none⟩ = some (.int .u8 (bv s (3 * q))) := by rw [hb.cell (p := ⟨bs, sa, none⟩) hbs, HAS.out]; exact HS.out _ (by omega)
        have c1 : wr.cell? ⟨bs, sa + 1, none⟩ = some (.int .u8 (bv s (3 * q + 1))) := by rw [hb.cell (p := ⟨bs, sa + 1, none⟩) hbs, HAS.out]; exact HS.out _ (by omega)
        have HEQ2 := hid (he_below HE.out hb hbe)
        have b0 := bv_lt s (3 * q)
        have b1 := bv_lt s (3 * q + 1)
        have hv := or2 _ _ b0 b1
        have hv' : bv s (3 * q) * 65536 + bv s (3 * q + 1) * 256 = qv s q := by unfold qv; rw [bv_end s (3 * q + 2) (by omega)]; exact (Nat.add_zero _).symm
        rw [hv'] at hv
        clear hv'
        have hq := qv_lt s q
        have HRQ := hid hrow
        have HBQ := hid hb
        have HEQ := hid (And.intro e1 (And.intro e2 e3))
        clear e1 e2 e3 e4 e5 hrow hb
        generalize bv s (3 * q) = x0 at *
        generalize bv s (3 * q + 1) = x1 at *
        go_wp2
        go_quiet (fail)
        obtain ⟨wq, hwq⟩ : ∃ wq, wq = wr.drewN nq := ⟨_, rfl⟩
        rw [← hwq]
        replace HBQ : Hid (Below bd w wq) := by rw [hwq]; exact below_drewN HBQ.out _
        replace HRQ : Hid (wq.rowIs bd 5 N (encRow al s (4 * q) f)) := by rw [hwq]; exact HRQ.out
        replace HEQ2 : Hid (wq.rowIs be 133 322 g) := by rw [hwq]; exact HEQ2.out
        clear hwq c0 c1 hv
        have hz0 := sxv_lt _ 0 hq
        have s0 := sx0 _ hq
        have k0 : wq.cell? ⟨be, sxv (qv s q) 0, none⟩ = some (.int .u8 (bv al (sxv (qv s q) 0))) := by rw [HEQ2.out.cell (by omega), HG.out.enc _ hz0]
        have hz1 := sxv_lt _ 1 hq
        have s1 := sx1 _ hq
        have k1 : wq.cell? ⟨be, sxv (qv s q) 1, none⟩ = some (.int .u8 (bv al (sxv (qv s q) 1))) := by rw [HEQ2.out.cell (by omega), HG.out.enc _ hz1]
        have hz2 := sxv_lt _ 2 hq
        have s2 := sx2 _ hq
        have k2 : wq.cell? ⟨be, sxv (qv s q) 2, none⟩ = some (.int .u8 (bv al (sxv (qv s q) 2))) := by rw [HEQ2.out.cell (by omega), HG.out.enc _ hz2]
        have kp : wq.cell? ⟨be, 320, none⟩ = some (.int .i32 (-1)) := by rw [HEQ2.out.cell (by omega), HG.out.padc]
        have d0 : wq.cell? ⟨bd, da, none⟩ = some (encRow al s (4 * q) f (da)) := HRQ.out.cell (by rw [HAD.out]; have := HEQ.out.2.2; omega)
        have d1 : wq.cell? ⟨bd, da + 1, none⟩ = some (encRow al s (4 * q) f (da + 1)) := HRQ.out.cell (by rw [HAD.out]; have := HEQ.out.2.2; omega)
        have d2 : wq.cell? ⟨bd, da + 2, none⟩ = some (encRow al s (4 * q) f (da + 2)) := HRQ.out.cell (by rw [HAD.out]; have := HEQ.out.2.2; omega)
        have hfr : ∀ o, wq.frozen? ⟨bd, o, none⟩ = false := fun o => HRQ.out.frozen o
        generalize encRow al s (4 * q) f da = v0 at *
        generalize encRow al s (4 * q) f (da + 1) = v1 at *
        generalize encRow al s (4 * q) f (da + 2) = v2 at *
        go_wp2
        go_end0
        have hs := HEQ.out.1
        have hN := HEQ.out.2.2
        refine ⟨rfl, (((HRQ.out.set da _).set (da + 1) _).set (da + 2) _).congr (fun i hi => ?_), (((HBQ.out.setCell (Nat.le_refl _) _).setCell (Nat.le_refl _) _).setCell (Nat.le_refl _) _)⟩
        rw [HAD.out, ← encRow_all al s (4 * q + 3) f i (by omega)]
        exact encRow_three al s q f _ _ _ (encN_sig al s q 0 (by omega) (by omega)).symm (encN_sig al s q 1 (by omega) (by omega)).symm (encN_sig al s q 2 (by omega) (by omega)).symm i
end Go.Proofs.YtlallleahgfdkaaGreatDoor
