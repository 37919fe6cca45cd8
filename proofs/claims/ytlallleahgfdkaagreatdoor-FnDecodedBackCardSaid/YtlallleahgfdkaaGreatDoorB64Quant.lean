/- encoding/base64's Encoding.decodeQuantum at the last quantum of a padded text: its bytes, and where the text ends. Conditions: the Encoding's cells read so, the text is the padded encoding, dst has three places. -/
import Derived.Test.YtlallleahgfdkaaGreatDoorB64Asm
import Derived.LoopN
namespace Go.Proofs.YtlallleahgfdkaaGreatDoor
open Go.RowKit

theorem ret_q {k : IntKind} {a b : Int} {x y : Value} (h : a = b) : Ending.returned (.tuple #[.int k a, x, y]) = .returned (.tuple #[.int k b, x, y]) := by rw [h]
theorem below_row_drew {w : World} {b n : Nat} {t : TypeId} {f : Nat → Value} (h : w.rowIs b t n f) (k : Nat) : (w.drewN k).rowIs b t n f := h
/-- The decoding map at a sign of the text. -/
theorem dec_sig {al s : ByteArray} {g : Nat → Value} (hg : EncF al 64 61 g) (ha : Alpha al) (q r : Nat) (hr : r < 4) (h : r ≤ 1 ∨ 3 * q + r ≤ s.size) :
    encN al s (4 * q + r) < 128 ∧ g (64 + encN al s (4 * q + r)) = .int .u8 (sxv (qv s q) r : Nat) ∧ encN al s (4 * q + r) ≠ 10 ∧ encN al s (4 * q + r) ≠ 13 ∧ encN al s (4 * q + r) ≠ 61 := by
  rw [encN_sig al s q r hr h]
  have hl := sxv_lt (qv s q) r (qv_lt s q)
  obtain ⟨o1, o2, o3, o4⟩ := ha.ok _ hl
  exact ⟨o1, hg.hit _ hl, o2, o3, o4⟩
theorem dec_pad {al : ByteArray} {g : Nat → Value} (hg : EncF al 64 61 g) (ha : Alpha al) : g (64 + 61) = .int .u8 255 :=
  hg.miss 61 (by omega) (fun j hj => (ha.ok j hj).2.2.2)

set_option maxRecDepth 100000 in
set_option maxHeartbeats 4000000 in
theorem quant_3 (al s : ByteArray) (be bs bd cs cd q o d : Nat) (F g : Nat → Value) (w : World) (ha : Alpha al) (hn : s.size ≤ 2147483647) (hs : s.size = 3 * q + 3) (ho : o = 4 * q) (hd3 : d = 3 * q)
    (hg : EncF al 64 61 g) (he : w.rowIs be 133 322 g) (hsrc : ∀ i, i < o + 4 → w.cell? ⟨bs, i, none⟩ = some (.int .u8 (encN al s i))) (hd : w.rowIs bd 5 (d + 3) F) (hbe : be < bd) (hbs2 : bs < w.heap.size) :
    Calls Tryz.prog 188 #[.pointer (some ⟨be, 0, none⟩), .slice (some ⟨bd, d, none⟩) 3 cd, .slice (some ⟨bs, 0, none⟩) (o + 4) cs, .int .i64 (o : Int)] w fun e w' =>
      e = .returned (.tuple #[.int .i64 ((o : Int) + 4), .int .i64 3, .nilIface]) ∧ (∃ F', w'.rowIs bd 5 (d + 3) F' ∧ (∀ j, j < d → F' j = F j) ∧ F' (d + 0) = .int .u8 (bv s (d + 0) : Nat) ∧ F' (d + 1) = .int .u8 (bv s (d + 1) : Nat) ∧ F' (d + 2) = .int .u8 (bv s (d + 2) : Nat)) ∧ w.grownBy w' (some bd) := by
  obtain ⟨CS, hr, hi⟩ := range_of he 64 256 (by omega) 131 (by kernel_rfl)
  have hra := World.rangeAt_alloc hr (.cells #[.int .u8 0, .int .u8 0, .int .u8 0, .int .u8 0] 186)
  have hbd := hd.lt
  have hbe2 : be < w.heap.size := by omega
  obtain ⟨p0, m0, n0, r0, t0⟩ := dec_sig hg ha q 0 (by omega) (s := s) (by omega)
  rw [← ho] at p0 m0 n0 r0 t0
  have c0 : w.cell? ⟨bs, o, none⟩ = some (.int .u8 (encN al s (o + 0))) := hsrc (o + 0) (by omega)
  have e0 := he.cell (i := 64 + encN al s (o + 0)) (by omega)
  rw [m0] at e0
  have l0 := sxv_lt (qv s q) 0 (qv_lt s q)
  generalize encN al s (o + 0) = a0 at *
  obtain ⟨p1, m1, n1, r1, t1⟩ := dec_sig hg ha q 1 (by omega) (s := s) (by omega)
  rw [← ho] at p1 m1 n1 r1 t1
  have c1 : w.cell? ⟨bs, o + 1, none⟩ = some (.int .u8 (encN al s (o + 1))) := hsrc (o + 1) (by omega)
  have e1 := he.cell (i := 64 + encN al s (o + 1)) (by omega)
  rw [m1] at e1
  have l1 := sxv_lt (qv s q) 1 (qv_lt s q)
  generalize encN al s (o + 1) = a1 at *
  obtain ⟨p2, m2, n2, r2, t2⟩ := dec_sig hg ha q 2 (by omega) (s := s) (by omega)
  rw [← ho] at p2 m2 n2 r2 t2
  have c2 : w.cell? ⟨bs, o + 2, none⟩ = some (.int .u8 (encN al s (o + 2))) := hsrc (o + 2) (by omega)
  have e2 := he.cell (i := 64 + encN al s (o + 2)) (by omega)
  rw [m2] at e2
  have l2 := sxv_lt (qv s q) 2 (qv_lt s q)
  generalize encN al s (o + 2) = a2 at *
  obtain ⟨p3, m3, n3, r3, t3⟩ := dec_sig hg ha q 3 (by omega) (s := s) (by omega)
  rw [← ho] at p3 m3 n3 r3 t3
  have c3 : w.cell? ⟨bs, o + 3, none⟩ = some (.int .u8 (encN al s (o + 3))) := hsrc (o + 3) (by omega)
  have e3 := he.cell (i := 64 + encN al s (o + 3)) (by omega)
  rw [m3] at e3
  have l3 := sxv_lt (qv s q) 3 (qv_lt s q)
  generalize encN al s (o + 3) = a3 at *
  have ep := he.cell (i := 64 + 61) (by omega)
  rw [dec_pad hg ha] at ep
  have epc : w.cell? ⟨be, 320, none⟩ = some (.int .i32 61) := by rw [he.cell (by omega), hg.padc]
  have est : w.cell? ⟨be, 321, none⟩ = some (.bool false) := by rw [he.cell (by omega), hg.strict]
  have d0 : w.cell? ⟨bd, d, none⟩ = some (F (d + 0)) := hd.cell (by omega)
  have d1 : w.cell? ⟨bd, d + 1, none⟩ = some (F (d + 1)) := hd.cell (by omega)
  have d2 : w.cell? ⟨bd, d + 2, none⟩ = some (F (d + 2)) := hd.cell (by omega)
  have hfr : ∀ i, w.frozen? ⟨bd, i, none⟩ = false := fun i => hd.frozen i
  have hq := qv_lt s q
  have HQ := hid (And.intro hs (And.intro ho hd3))
  have HE := hid (And.intro hg (And.intro he (And.intro hsrc hd)))
  have ho2 : (o : Int) ≤ 4294967296 := by omega
  have hd2 : (d : Int) ≤ 4294967296 := by omega
  have tt0 : (((o : Int) + 4) == ((o : Int))) = false := beq_eq_false_iff_ne.2 (by omega)
  have tt1 : (((o : Int) + 4) == ((o : Int) + 1)) = false := beq_eq_false_iff_ne.2 (by omega)
  have tt2 : (((o : Int) + 4) == ((o : Int) + 2)) = false := beq_eq_false_iff_ne.2 (by omega)
  have tt3 : (((o : Int) + 4) == ((o : Int) + 3)) = false := beq_eq_false_iff_ne.2 (by omega)
  have rc0 : (((sxv (qv s q) 0 : Nat) : Int) != 255) = true := bne_iff_ne.2 (by omega)
  have rc1 : (((sxv (qv s q) 1 : Nat) : Int) != 255) = true := bne_iff_ne.2 (by omega)
  have rc2 : (((sxv (qv s q) 2 : Nat) : Int) != 255) = true := bne_iff_ne.2 (by omega)
  have rc3 : (((sxv (qv s q) 3 : Nat) : Int) != 255) = true := bne_iff_ne.2 (by omega)
  have tl3 : decide ((o : Int) + 1 + 1 + 1 < (o : Int) + 4) = true := by simp; omega
  have tl4 : decide ((o : Int) + 1 + 1 + 1 + 1 < (o : Int) + 4) = false := by simp; omega
  have te3 : ((o : Int) + 1 + 1 + 1 == (o : Int) + 4) = false := beq_eq_false_iff_ne.2 (by omega)
  have te3' : ((o : Int) + 4 == (o : Int) + 1 + 1 + 1) = false := beq_eq_false_iff_ne.2 (by omega)
  have hv := or4 _ _ _ _ l0 l1 l2 l3
  rw [sxv_sum] at hv
  clear hs ho hd3 hg he hsrc hd
  generalize F (d + 0) = v0 at *
  generalize F (d + 1) = v1 at *
  generalize F (d + 2) = v2 at *
  clear m0
  have ra0 : ((a0 : Int) == 10) = false := beq_eq_false_iff_ne.2 (by omega)
  have rb0 : ((a0 : Int) == 13) = false := beq_eq_false_iff_ne.2 (by omega)
  clear m1
  have ra1 : ((a1 : Int) == 10) = false := beq_eq_false_iff_ne.2 (by omega)
  have rb1 : ((a1 : Int) == 13) = false := beq_eq_false_iff_ne.2 (by omega)
  clear m2
  have ra2 : ((a2 : Int) == 10) = false := beq_eq_false_iff_ne.2 (by omega)
  have rb2 : ((a2 : Int) == 13) = false := beq_eq_false_iff_ne.2 (by omega)
  clear m3
  have ra3 : ((a3 : Int) == 10) = false := beq_eq_false_iff_ne.2 (by omega)
  have rb3 : ((a3 : Int) == 13) = false := beq_eq_false_iff_ne.2 (by omega)
  go_enter Tryz.func188, Tryz.ntmps188
  go_wp2_with (with_reducible refine wpList_load_mid rfl 131 (.tmp 19) rfl be 64 rfl CS _ hra Tryz.underlying131 rfl hi ?_)
  clear hr hra hi
  refine wp_loop_rounds 5 ?_
  rw [rounds_succ]
  go_wp2
  rw [rounds_succ]
  go_wp2
  rw [rounds_succ]
  go_wp2
  rw [rounds_succ]
  go_wp2
  rw [rounds_succ]
  go_wp2
  go_ret3
  have hset := (((HE.out.2.2.2.set (d + 2) (.int .u8 (((qv s q : Nat) : Int) % 256))).set (d + 1) (.int .u8 (((qv s q : Nat) : Int) / 256 % 256))).set (d) (.int .u8 (((qv s q : Nat) : Int) / 65536)))
  have hdq := HQ.out.2.2
  have y0 := qv_b0 s q
  have y1 := qv_b1 s q
  have y2 := qv_b2 s q
  rw [← hdq] at y0 y1 y2
  refine ⟨ret_q (show (o : Int) + 1 + 1 + 1 + 1 = (o : Int) + 4 by omega), ⟨_, hset.alloc _, fun j hj => ?_, ?_, ?_, ?_⟩, ?_⟩
  rotate_right
  · with_reducible refine grow_alloc ?_ _
    repeat (first | with_reducible exact grow_refl _ _ | with_reducible refine grow_set ?_ _ _)
  · try dsimp only
    repeat rw [if_neg (by omega)]
  all_goals
    try dsimp only
    repeat rw [if_neg (by omega)]
    rw [if_pos (by omega)]
    refine int_val ?_
    try rw [Nat.add_zero]
    omega
set_option maxRecDepth 100000 in
set_option maxHeartbeats 4000000 in
theorem quant_2 (al s : ByteArray) (be bs bd cs cd q o d : Nat) (F g : Nat → Value) (w : World) (ha : Alpha al) (hn : s.size ≤ 2147483647) (hs : s.size = 3 * q + 2) (ho : o = 4 * q) (hd3 : d = 3 * q)
    (hg : EncF al 64 61 g) (he : w.rowIs be 133 322 g) (hsrc : ∀ i, i < o + 4 → w.cell? ⟨bs, i, none⟩ = some (.int .u8 (encN al s i))) (hd : w.rowIs bd 5 (d + 3) F) (hbe : be < bd) (hbs2 : bs < w.heap.size) :
    Calls Tryz.prog 188 #[.pointer (some ⟨be, 0, none⟩), .slice (some ⟨bd, d, none⟩) 3 cd, .slice (some ⟨bs, 0, none⟩) (o + 4) cs, .int .i64 (o : Int)] w fun e w' =>
      e = .returned (.tuple #[.int .i64 ((o : Int) + 4), .int .i64 2, .nilIface]) ∧ (∃ F', w'.rowIs bd 5 (d + 3) F' ∧ (∀ j, j < d → F' j = F j) ∧ F' (d + 0) = .int .u8 (bv s (d + 0) : Nat) ∧ F' (d + 1) = .int .u8 (bv s (d + 1) : Nat)) ∧ w.grownBy w' (some bd) := by
  obtain ⟨CS, hr, hi⟩ := range_of he 64 256 (by omega) 131 (by kernel_rfl)
  have hra := World.rangeAt_alloc hr (.cells #[.int .u8 0, .int .u8 0, .int .u8 0, .int .u8 0] 186)
  have hbd := hd.lt
  have hbe2 : be < w.heap.size := by omega
  obtain ⟨p0, m0, n0, r0, t0⟩ := dec_sig hg ha q 0 (by omega) (s := s) (by omega)
  rw [← ho] at p0 m0 n0 r0 t0
  have c0 : w.cell? ⟨bs, o, none⟩ = some (.int .u8 (encN al s (o + 0))) := hsrc (o + 0) (by omega)
  have e0 := he.cell (i := 64 + encN al s (o + 0)) (by omega)
  rw [m0] at e0
  have l0 := sxv_lt (qv s q) 0 (qv_lt s q)
  generalize encN al s (o + 0) = a0 at *
  obtain ⟨p1, m1, n1, r1, t1⟩ := dec_sig hg ha q 1 (by omega) (s := s) (by omega)
  rw [← ho] at p1 m1 n1 r1 t1
  have c1 : w.cell? ⟨bs, o + 1, none⟩ = some (.int .u8 (encN al s (o + 1))) := hsrc (o + 1) (by omega)
  have e1 := he.cell (i := 64 + encN al s (o + 1)) (by omega)
  rw [m1] at e1
  have l1 := sxv_lt (qv s q) 1 (qv_lt s q)
  generalize encN al s (o + 1) = a1 at *
  obtain ⟨p2, m2, n2, r2, t2⟩ := dec_sig hg ha q 2 (by omega) (s := s) (by omega)
  rw [← ho] at p2 m2 n2 r2 t2
  have c2 : w.cell? ⟨bs, o + 2, none⟩ = some (.int .u8 (encN al s (o + 2))) := hsrc (o + 2) (by omega)
  have e2 := he.cell (i := 64 + encN al s (o + 2)) (by omega)
  rw [m2] at e2
  have l2 := sxv_lt (qv s q) 2 (qv_lt s q)
  generalize encN al s (o + 2) = a2 at *
  have p3 := encN_pad al s q 3 (by omega) (by omega) (by omega)
  rw [← ho] at p3
  have c3 : w.cell? ⟨bs, o + 3, none⟩ = some (.int .u8 (encN al s (o + 3))) := hsrc (o + 3) (by omega)
  rw [p3] at c3
  have ep := he.cell (i := 64 + 61) (by omega)
  rw [dec_pad hg ha] at ep
  have epc : w.cell? ⟨be, 320, none⟩ = some (.int .i32 61) := by rw [he.cell (by omega), hg.padc]
  have est : w.cell? ⟨be, 321, none⟩ = some (.bool false) := by rw [he.cell (by omega), hg.strict]
  have d0 : w.cell? ⟨bd, d, none⟩ = some (F (d + 0)) := hd.cell (by omega)
  have d1 : w.cell? ⟨bd, d + 1, none⟩ = some (F (d + 1)) := hd.cell (by omega)
  have d2 : w.cell? ⟨bd, d + 2, none⟩ = some (F (d + 2)) := hd.cell (by omega)
  have hfr : ∀ i, w.frozen? ⟨bd, i, none⟩ = false := fun i => hd.frozen i
  have hq := qv_lt s q
  have HQ := hid (And.intro hs (And.intro ho hd3))
  have HE := hid (And.intro hg (And.intro he (And.intro hsrc hd)))
  have ho2 : (o : Int) ≤ 4294967296 := by omega
  have hd2 : (d : Int) ≤ 4294967296 := by omega
  have tt0 : (((o : Int) + 4) == ((o : Int))) = false := beq_eq_false_iff_ne.2 (by omega)
  have tt1 : (((o : Int) + 4) == ((o : Int) + 1)) = false := beq_eq_false_iff_ne.2 (by omega)
  have tt2 : (((o : Int) + 4) == ((o : Int) + 2)) = false := beq_eq_false_iff_ne.2 (by omega)
  have tt3 : (((o : Int) + 4) == ((o : Int) + 3)) = false := beq_eq_false_iff_ne.2 (by omega)
  have rc0 : (((sxv (qv s q) 0 : Nat) : Int) != 255) = true := bne_iff_ne.2 (by omega)
  have rc1 : (((sxv (qv s q) 1 : Nat) : Int) != 255) = true := bne_iff_ne.2 (by omega)
  have rc2 : (((sxv (qv s q) 2 : Nat) : Int) != 255) = true := bne_iff_ne.2 (by omega)
  have tl3 : decide ((o : Int) + 1 + 1 + 1 < (o : Int) + 4) = true := by simp; omega
  have tl4 : decide ((o : Int) + 1 + 1 + 1 + 1 < (o : Int) + 4) = false := by simp; omega
  have te3 : ((o : Int) + 1 + 1 + 1 == (o : Int) + 4) = false := beq_eq_false_iff_ne.2 (by omega)
  have te3' : ((o : Int) + 4 == (o : Int) + 1 + 1 + 1) = false := beq_eq_false_iff_ne.2 (by omega)
  have hz3 : sxv (qv s q) 3 = 0 := by
    have h2 := qv_b2 s q
    rw [bv_end s (3 * q + 2) (by omega)] at h2
    show qv s q % 64 = 0
    omega
  have hsum := sxv_sum (qv s q)
  have hv := or4 _ _ _ 0 l0 l1 l2 (by omega)
  rw [hz3] at hsum
  rw [hsum, show ((0 : Nat) : Int) = 0 from rfl] at hv
  clear hz3 hsum
  clear hs ho hd3 hg he hsrc hd
  generalize F (d + 0) = v0 at *
  generalize F (d + 1) = v1 at *
  generalize F (d + 2) = v2 at *
  clear m0
  have ra0 : ((a0 : Int) == 10) = false := beq_eq_false_iff_ne.2 (by omega)
  have rb0 : ((a0 : Int) == 13) = false := beq_eq_false_iff_ne.2 (by omega)
  clear m1
  have ra1 : ((a1 : Int) == 10) = false := beq_eq_false_iff_ne.2 (by omega)
  have rb1 : ((a1 : Int) == 13) = false := beq_eq_false_iff_ne.2 (by omega)
  clear m2
  have ra2 : ((a2 : Int) == 10) = false := beq_eq_false_iff_ne.2 (by omega)
  have rb2 : ((a2 : Int) == 13) = false := beq_eq_false_iff_ne.2 (by omega)
  go_enter Tryz.func188, Tryz.ntmps188
  go_wp2_with (with_reducible refine wpList_load_mid rfl 131 (.tmp 19) rfl be 64 rfl CS _ hra Tryz.underlying131 rfl hi ?_)
  clear hr hra hi
  refine wp_loop_rounds 5 ?_
  rw [rounds_succ]
  go_wp2
  rw [rounds_succ]
  go_wp2
  rw [rounds_succ]
  go_wp2
  rw [rounds_succ]
  go_wp2
  refine wp_loop_rounds 1 ?_
  rw [rounds_succ]
  go_wp2
  go_ret3
  have hset := ((HE.out.2.2.2.set (d + 1) (.int .u8 (((qv s q : Nat) : Int) / 256 % 256))).set (d) (.int .u8 (((qv s q : Nat) : Int) / 65536)))
  have hdq := HQ.out.2.2
  have y0 := qv_b0 s q
  have y1 := qv_b1 s q
  have y2 := qv_b2 s q
  rw [← hdq] at y0 y1 y2
  refine ⟨ret_q (show (o : Int) + 1 + 1 + 1 + 1 = (o : Int) + 4 by omega), ⟨_, hset.alloc _, fun j hj => ?_, ?_, ?_⟩, ?_⟩
  rotate_right
  · with_reducible refine grow_alloc ?_ _
    repeat (first | with_reducible exact grow_refl _ _ | with_reducible refine grow_set ?_ _ _)
  · try dsimp only
    repeat rw [if_neg (by omega)]
  all_goals
    try dsimp only
    repeat rw [if_neg (by omega)]
    rw [if_pos (by omega)]
    refine int_val ?_
    try rw [Nat.add_zero]
    omega
set_option maxRecDepth 100000 in
set_option maxHeartbeats 4000000 in
theorem quant_1 (al s : ByteArray) (be bs bd cs cd q o d : Nat) (F g : Nat → Value) (w : World) (ha : Alpha al) (hn : s.size ≤ 2147483647) (hs : s.size = 3 * q + 1) (ho : o = 4 * q) (hd3 : d = 3 * q)
    (hg : EncF al 64 61 g) (he : w.rowIs be 133 322 g) (hsrc : ∀ i, i < o + 4 → w.cell? ⟨bs, i, none⟩ = some (.int .u8 (encN al s i))) (hd : w.rowIs bd 5 (d + 3) F) (hbe : be < bd) (hbs2 : bs < w.heap.size) :
    Calls Tryz.prog 188 #[.pointer (some ⟨be, 0, none⟩), .slice (some ⟨bd, d, none⟩) 3 cd, .slice (some ⟨bs, 0, none⟩) (o + 4) cs, .int .i64 (o : Int)] w fun e w' =>
      e = .returned (.tuple #[.int .i64 ((o : Int) + 4), .int .i64 1, .nilIface]) ∧ (∃ F', w'.rowIs bd 5 (d + 3) F' ∧ (∀ j, j < d → F' j = F j) ∧ F' (d + 0) = .int .u8 (bv s (d + 0) : Nat)) ∧ w.grownBy w' (some bd) := by
  obtain ⟨CS, hr, hi⟩ := range_of he 64 256 (by omega) 131 (by kernel_rfl)
  have hra := World.rangeAt_alloc hr (.cells #[.int .u8 0, .int .u8 0, .int .u8 0, .int .u8 0] 186)
  have hbd := hd.lt
  have hbe2 : be < w.heap.size := by omega
  obtain ⟨p0, m0, n0, r0, t0⟩ := dec_sig hg ha q 0 (by omega) (s := s) (by omega)
  rw [← ho] at p0 m0 n0 r0 t0
  have c0 : w.cell? ⟨bs, o, none⟩ = some (.int .u8 (encN al s (o + 0))) := hsrc (o + 0) (by omega)
  have e0 := he.cell (i := 64 + encN al s (o + 0)) (by omega)
  rw [m0] at e0
  have l0 := sxv_lt (qv s q) 0 (qv_lt s q)
  generalize encN al s (o + 0) = a0 at *
  obtain ⟨p1, m1, n1, r1, t1⟩ := dec_sig hg ha q 1 (by omega) (s := s) (by omega)
  rw [← ho] at p1 m1 n1 r1 t1
  have c1 : w.cell? ⟨bs, o + 1, none⟩ = some (.int .u8 (encN al s (o + 1))) := hsrc (o + 1) (by omega)
  have e1 := he.cell (i := 64 + encN al s (o + 1)) (by omega)
  rw [m1] at e1
  have l1 := sxv_lt (qv s q) 1 (qv_lt s q)
  generalize encN al s (o + 1) = a1 at *
  have p2 := encN_pad al s q 2 (by omega) (by omega) (by omega)
  rw [← ho] at p2
  have c2 : w.cell? ⟨bs, o + 2, none⟩ = some (.int .u8 (encN al s (o + 2))) := hsrc (o + 2) (by omega)
  rw [p2] at c2
  have p3 := encN_pad al s q 3 (by omega) (by omega) (by omega)
  rw [← ho] at p3
  have c3 : w.cell? ⟨bs, o + 3, none⟩ = some (.int .u8 (encN al s (o + 3))) := hsrc (o + 3) (by omega)
  rw [p3] at c3
  have ep := he.cell (i := 64 + 61) (by omega)
  rw [dec_pad hg ha] at ep
  have epc : w.cell? ⟨be, 320, none⟩ = some (.int .i32 61) := by rw [he.cell (by omega), hg.padc]
  have est : w.cell? ⟨be, 321, none⟩ = some (.bool false) := by rw [he.cell (by omega), hg.strict]
  have d0 : w.cell? ⟨bd, d, none⟩ = some (F (d + 0)) := hd.cell (by omega)
  have d1 : w.cell? ⟨bd, d + 1, none⟩ = some (F (d + 1)) := hd.cell (by omega)
  have d2 : w.cell? ⟨bd, d + 2, none⟩ = some (F (d + 2)) := hd.cell (by omega)
  have hfr : ∀ i, w.frozen? ⟨bd, i, none⟩ = false := fun i => hd.frozen i
  have hq := qv_lt s q
  have HQ := hid (And.intro hs (And.intro ho hd3))
  have HE := hid (And.intro hg (And.intro he (And.intro hsrc hd)))
  have ho2 : (o : Int) ≤ 4294967296 := by omega
  have hd2 : (d : Int) ≤ 4294967296 := by omega
  have tt0 : (((o : Int) + 4) == ((o : Int))) = false := beq_eq_false_iff_ne.2 (by omega)
  have tt1 : (((o : Int) + 4) == ((o : Int) + 1)) = false := beq_eq_false_iff_ne.2 (by omega)
  have tt2 : (((o : Int) + 4) == ((o : Int) + 2)) = false := beq_eq_false_iff_ne.2 (by omega)
  have tt3 : (((o : Int) + 4) == ((o : Int) + 3)) = false := beq_eq_false_iff_ne.2 (by omega)
  have rc0 : (((sxv (qv s q) 0 : Nat) : Int) != 255) = true := bne_iff_ne.2 (by omega)
  have rc1 : (((sxv (qv s q) 1 : Nat) : Int) != 255) = true := bne_iff_ne.2 (by omega)
  have tl3 : decide ((o : Int) + 1 + 1 + 1 < (o : Int) + 4) = true := by simp; omega
  have tl4 : decide ((o : Int) + 1 + 1 + 1 + 1 < (o : Int) + 4) = false := by simp; omega
  have te3 : ((o : Int) + 1 + 1 + 1 == (o : Int) + 4) = false := beq_eq_false_iff_ne.2 (by omega)
  have te3' : ((o : Int) + 4 == (o : Int) + 1 + 1 + 1) = false := beq_eq_false_iff_ne.2 (by omega)
  have h2 := qv_b2 s q
  have h1 := qv_b1 s q
  rw [bv_end s (3 * q + 2) (by omega)] at h2
  rw [bv_end s (3 * q + 1) (by omega)] at h1
  have hz3 : sxv (qv s q) 3 = 0 := by show qv s q % 64 = 0; omega
  have hz2 : sxv (qv s q) 2 = 0 := by show qv s q / 64 % 64 = 0; omega
  have hsum := sxv_sum (qv s q)
  have hv := or4 _ _ 0 0 l0 l1 (by omega) (by omega)
  rw [hz3, hz2] at hsum
  rw [hsum, show ((0 : Nat) : Int) = 0 from rfl, show (0 : Int) * 64 = 0 from rfl] at hv
  clear hz3 hz2 hsum h1 h2
  clear hs ho hd3 hg he hsrc hd
  generalize F (d + 0) = v0 at *
  generalize F (d + 1) = v1 at *
  generalize F (d + 2) = v2 at *
  clear m0
  have ra0 : ((a0 : Int) == 10) = false := beq_eq_false_iff_ne.2 (by omega)
  have rb0 : ((a0 : Int) == 13) = false := beq_eq_false_iff_ne.2 (by omega)
  clear m1
  have ra1 : ((a1 : Int) == 10) = false := beq_eq_false_iff_ne.2 (by omega)
  have rb1 : ((a1 : Int) == 13) = false := beq_eq_false_iff_ne.2 (by omega)
  go_enter Tryz.func188, Tryz.ntmps188
  go_wp2_with (with_reducible refine wpList_load_mid rfl 131 (.tmp 19) rfl be 64 rfl CS _ hra Tryz.underlying131 rfl hi ?_)
  clear hr hra hi
  refine wp_loop_rounds 5 ?_
  rw [rounds_succ]
  go_wp2
  rw [rounds_succ]
  go_wp2
  rw [rounds_succ]
  go_wp2
  refine wp_loop_rounds 1 ?_
  rw [rounds_succ]
  go_wp2
  go_quiet (fail)
  go_wp2
  refine wp_loop_rounds 1 ?_
  rw [rounds_succ]
  go_wp2
  go_ret3
  have hset := ((((((below_row_drew (HE.out.2.2.2.alloc (.cells #[.int .u8 (sxv (qv s q) 0 : Nat), .int .u8 (sxv (qv s q) 1 : Nat), .int .u8 0, .int .u8 0] 186)) nq).setOther (a := ⟨w.heap.size, 2, none⟩) (by show bd ≠ w.heap.size; omega) (.int .u8 (((qv s q : Nat) : Int) % 256))).setOther (a := ⟨w.heap.size, 1, none⟩) (by show bd ≠ w.heap.size; omega) (.int .u8 (((qv s q : Nat) : Int) / 256 % 256))).setOther (a := ⟨w.heap.size, 0, none⟩) (by show bd ≠ w.heap.size; omega) (.int .u8 (((qv s q : Nat) : Int) / 65536)))).set (d) (.int .u8 (((qv s q : Nat) : Int) / 65536)))
  have hdq := HQ.out.2.2
  have y0 := qv_b0 s q
  have y1 := qv_b1 s q
  have y2 := qv_b2 s q
  rw [← hdq] at y0 y1 y2
  refine ⟨ret_q (show (o : Int) + 1 + 1 + 1 + 1 = (o : Int) + 4 by omega), ⟨_, hset, fun j hj => ?_, ?_⟩, ?_⟩
  rotate_right
  · with_reducible refine grow_set ?_ _ _
    with_reducible refine grow_new ?_ (Nat.le_refl _) _ _
    with_reducible refine grow_new ?_ (Nat.le_refl _) _ _
    with_reducible refine grow_new ?_ (Nat.le_refl _) _ _
    exact grow_drewN (grow_alloc (grow_refl w bd) _) nq
  · try dsimp only
    repeat rw [if_neg (by omega)]
  all_goals
    try dsimp only
    repeat rw [if_neg (by omega)]
    rw [if_pos (by omega)]
    refine int_val ?_
    try rw [Nat.add_zero]
    omega
end Go.Proofs.YtlallleahgfdkaaGreatDoor
