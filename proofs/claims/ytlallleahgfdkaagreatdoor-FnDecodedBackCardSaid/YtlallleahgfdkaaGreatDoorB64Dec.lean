/- encoding/base64's Encoding.Decode of a padded text: the bytes that were encoded. Conditions: the Encoding's cells read so, the text is the padded encoding, dst has three places for four signs. -/
import Derived.Test.YtlallleahgfdkaaGreatDoorB64Quant
namespace Go.Proofs.YtlallleahgfdkaaGreatDoor
open Go.RowKit

theorem asm32_quiet (x0 x1 x2 x3 D : Nat) (w : World) (h0 : x0 < 64) (h1 : x1 < 64) (h2 : x2 < 64) (h3 : x3 < 64) (hD : D = (x0 * 262144 + x1 * 4096 + x2 * 64 + x3) * 256) :
    Calls Tryz.prog 189 #[.int .u8 x0, .int .u8 x1, .int .u8 x2, .int .u8 x3] w fun e w' => e = .returned (.tuple #[.int .u32 (D : Nat), .bool true]) ∧ w' = w :=
  (asm32_any x0 x1 x2 x3 D w h0 h1 h2 h3 hD).mono fun _ _ ⟨he, hw⟩ => ⟨he, hw.symm⟩

/-- What holds behind q quanta. -/
def DecAt (s : ByteArray) (w wr : World) (bd m n si : Nat) : Prop :=
  ∃ q F, n = 3 * q ∧ si = 4 * q ∧ q < m ∧ wr.rowIs bd 5 (3 * m) F ∧ (∀ j, j < n → F j = .int .u8 (bv s j : Nat)) ∧ w.grownBy wr (some bd)

theorem ret_d {k : IntKind} {a b : Int} {x : Value} (h : a = b) : Ending.returned (.tuple #[.int k a, x]) = .returned (.tuple #[.int k b, x]) := by rw [h]
theorem dec_three {s : ByteArray} {F F2 : Nat → Value} {n q : Nat} (hn : n = 3 * q) (hF : ∀ j, j < n → F j = .int .u8 (bv s j : Nat)) (hlow : ∀ j, j < n → F2 j = F j) (f0 : F2 (n + 0) = .int .u8 (qv s q / 65536 : Nat)) (f1 : F2 (n + 1) = .int .u8 (qv s q / 256 % 256 : Nat)) (f2 : F2 (n + 2) = .int .u8 (qv s q % 256 : Nat)) :
    ∀ j, j < n + 3 → F2 j = .int .u8 (bv s j : Nat) := fun j hj => by
  rw [qv_b0, ← hn] at f0
  rw [qv_b1, ← hn] at f1
  rw [qv_b2, ← hn] at f2
  by_cases h : j < n
  · rw [hlow j h, hF j h]
  · have h3 : j = n + 0 ∨ j = n + 1 ∨ j = n + 2 := by omega
    rcases h3 with rfl | rfl | rfl
    · exact f0
    · exact f1
    · exact f2
theorem dec_six {s : ByteArray} {F F2 : Nat → Value} {n q : Nat} (hn : n = 3 * q) (hF : ∀ j, j < n → F j = .int .u8 (bv s j : Nat)) (hlow : ∀ j, j < n → F2 j = F j) (f0 : F2 (n + 0) = .int .u8 (qv s q / 65536 : Nat)) (f1 : F2 (n + 1) = .int .u8 (qv s q / 256 % 256 : Nat)) (f2 : F2 (n + 2) = .int .u8 (qv s q % 256 : Nat))
    (f3 : F2 (n + 3) = .int .u8 (qv s (q + 1) / 65536 : Nat)) (f4 : F2 (n + 4) = .int .u8 (qv s (q + 1) / 256 % 256 : Nat)) (f5 : F2 (n + 5) = .int .u8 (qv s (q + 1) % 256 : Nat)) :
    ∀ j, j < n + 6 → F2 j = .int .u8 (bv s j : Nat) :=
  dec_three (F := F2) (F2 := F2) (n := n + 3) (q := q + 1) (by omega) (dec_three hn hF hlow f0 f1 f2) (fun _ _ => rfl) f3 f4 f5

theorem quant_any (al s : ByteArray) (be bs bd cs cd q o d K N3 N4 R : Nat) (F g : Nat → Value) (w : World) (ha : Alpha al) (hn : s.size ≤ 2147483647) (h1 : 3 * q < s.size) (h2 : s.size ≤ 3 * q + 3) (ho : o = 4 * q) (hd3 : d = 3 * q) (hK : K = 3) (hN3 : N3 = d + 3) (hN4 : N4 = o + 4) (hR : d + R = s.size)
    (hg : EncF al 64 61 g) (he : w.rowIs be 133 322 g) (hsrc : ∀ i, i < o + 4 → w.cell? ⟨bs, i, none⟩ = some (.int .u8 (encN al s i))) (hd : w.rowIs bd 5 N3 F) (hbe : be < bd) (hbs2 : bs < w.heap.size) :
    Calls Tryz.prog 188 #[.pointer (some ⟨be, 0, none⟩), .slice (some ⟨bd, d, none⟩) K cd, .slice (some ⟨bs, 0, none⟩) N4 cs, .int .i64 (o : Int)] w fun e w' =>
      e = .returned (.tuple #[.int .i64 (N4 : Int), .int .i64 (R : Int), .nilIface]) ∧ (∃ F', w'.rowIs bd 5 N3 F' ∧ (∀ j, j < d → F' j = F j) ∧ ∀ j, d ≤ j → j < s.size → F' j = .int .u8 (bv s j : Nat)) ∧ w.grownBy w' (some bd) := by
  subst hK hN3 hN4
  have h3 : R = 1 ∨ R = 2 ∨ R = 3 := by omega
  rcases h3 with rfl | rfl | rfl
  · refine (quant_1 al s be bs bd cs cd q o d F g w ha hn (by omega) ho hd3 hg he hsrc hd hbe hbs2).mono ?_
    rintro e w' ⟨rfl, ⟨F', hr, hl, f0⟩, hg'⟩
    refine ⟨rfl, ⟨F', hr, hl, fun j hj1 hj2 => ?_⟩, hg'⟩
    obtain rfl : j = d + 0 := by omega
    exact f0
  · refine (quant_2 al s be bs bd cs cd q o d F g w ha hn (by omega) ho hd3 hg he hsrc hd hbe hbs2).mono ?_
    rintro e w' ⟨rfl, ⟨F', hr, hl, f0, f1⟩, hg'⟩
    refine ⟨rfl, ⟨F', hr, hl, fun j hj1 hj2 => ?_⟩, hg'⟩
    have h3 : j = d + 0 ∨ j = d + 1 := by omega
    rcases h3 with rfl | rfl
    · exact f0
    · exact f1
  · refine (quant_3 al s be bs bd cs cd q o d F g w ha hn (by omega) ho hd3 hg he hsrc hd hbe hbs2).mono ?_
    rintro e w' ⟨rfl, ⟨F', hr, hl, f0, f1, f2⟩, hg'⟩
    refine ⟨rfl, ⟨F', hr, hl, fun j hj1 hj2 => ?_⟩, hg'⟩
    have h3 : j = d + 0 ∨ j = d + 1 ∨ j = d + 2 := by omega
    rcases h3 with rfl | rfl | rfl
    · exact f0
    · exact f1
    · exact f2

set_option maxRecDepth 100000 in
set_option maxHeartbeats 4000000 in
theorem decode_any (al s : ByteArray) (be bs bd cs m N3 N4 : Nat) (F g : Nat → Value) (w : World) (ha : Alpha al) (h0 : 0 < s.size) (hn : s.size ≤ 2147483647) (hm : m = (s.size + 2) / 3) (h3 : N3 = 3 * m) (h4 : N4 = 4 * m) (hcs : N4 ≤ cs)
    (hg : EncF al 64 61 g) (he : w.rowIs be 133 322 g) (hsrc : ∀ i, i < 4 * m → w.cell? ⟨bs, i, none⟩ = some (.int .u8 (encN al s i))) (hd : w.rowIs bd 5 N3 F) (hbe : be < bd) (hbs2 : bs < w.heap.size) (hbsd : bs ≠ bd) :
    Calls Tryz.prog 171 #[.pointer (some ⟨be, 0, none⟩), .slice (some ⟨bd, 0, none⟩) N3 N3, .slice (some ⟨bs, 0, none⟩) N4 cs] w fun e w' =>
      e = .returned (.tuple #[.int .i64 (s.size : Nat), .nilIface]) ∧ (∃ F', w'.rowIs bd 5 N3 F' ∧ ∀ j, j < s.size → F' j = .int .u8 (bv s j : Nat)) ∧ w.grownBy w' (some bd) := by
  obtain ⟨CS, hr, hi⟩ := range_of he 64 256 (by omega) 131 (by kernel_rfl)
  have hbd := hd.lt
  have HE := hid (And.intro hg (And.intro he hsrc))
  have HA := hid ha
  have hstart : Hid (DecAt s w w bd m 0 0) := ⟨0, F, rfl, rfl, by omega, by rw [← h3]; exact hd, fun j hj => by omega, grow_refl w bd⟩
  have hN4 : 0 < N4 := by omega
  have hN4b : N4 ≤ 4294967296 := by omega
  have hN3b : N3 ≤ 4294967296 := by omega
  have t0 : ((N4 : Int) == 0) = false := beq_eq_false_iff_ne.2 (by omega)
  have HM := hid (And.intro hm (And.intro h3 h4))
  clear hg he hsrc hd ha hm h3 h4
  go_enter Tryz.func171, Tryz.ntmps171
  go_wp2_with (with_reducible refine wpList_load_mid rfl 131 (.tmp 23) rfl be 64 rfl CS _ hr Tryz.underlying131 rfl hi ?_)
  clear hr hi
  go_loopw [6, 7, 8] (fun vn ve vi wr => ∃ n si : Nat, vn = .int .i64 n ∧ ve = .nilIface ∧ vi = .int .i64 si ∧ si + 4 ≤ N4 ∧ n + 3 ≤ N3 ∧ Hid (DecAt s w wr bd m n si)) (fun _ _ vi _ => N4 - (intOf vi).toNat)
  case atStart => exact ⟨0, 0, rfl, rfl, rfl, by have := HM.out; omega, by have := HM.out; omega, hstart⟩
  case round =>
    obtain ⟨n, si, rfl, rfl, rfl, hsi, hnn, HD⟩ := hrel
    clear hstart
    by_cases hbig : n + 9 ≤ N3
    · have hbig4 : si + 12 ≤ N4 := by
        obtain ⟨q, F', e1, e2, e3, _⟩ := HD.out
        have := HM.out
        omega
      obtain ⟨q, F', z1, z2, z3, hrow, hF, hg⟩ := HD.out
      have hM := HM.out
      have hew := grow_row hg HE.out.2.1 (by omega)
      rw [← hM.2.1] at hrow
      have hge := hg.size
      obtain ⟨p0, m0, n0, r0, t0⟩ := dec_sig HE.out.1 HA.out q 0 (by omega) (s := s) (by omega)
      have c0 := HE.out.2.2 (4 * q + 0) (by omega)
      replace c0 := grow_cell hg c0 hbsd
      rw [show 4 * q + 0 = si by omega] at p0 m0 c0
      have e0 := hew.cell (i := 64 + encN al s (si)) (by omega)
      rw [m0] at e0
      have l0 := sxv_lt (qv s q) 0 (qv_lt s q)
      generalize encN al s (si) = a0 at *
      clear m0 n0 r0 t0
      obtain ⟨p1, m1, n1, r1, t1⟩ := dec_sig HE.out.1 HA.out q 1 (by omega) (s := s) (by omega)
      have c1 := HE.out.2.2 (4 * q + 1) (by omega)
      replace c1 := grow_cell hg c1 hbsd
      rw [show 4 * q + 1 = si + 1 by omega] at p1 m1 c1
      have e1 := hew.cell (i := 64 + encN al s (si + 1)) (by omega)
      rw [m1] at e1
      have l1 := sxv_lt (qv s q) 1 (qv_lt s q)
      generalize encN al s (si + 1) = a1 at *
      clear m1 n1 r1 t1
      obtain ⟨p2, m2, n2, r2, t2⟩ := dec_sig HE.out.1 HA.out q 2 (by omega) (s := s) (by omega)
      have c2 := HE.out.2.2 (4 * q + 2) (by omega)
      replace c2 := grow_cell hg c2 hbsd
      rw [show 4 * q + 2 = si + 2 by omega] at p2 m2 c2
      have e2 := hew.cell (i := 64 + encN al s (si + 2)) (by omega)
      rw [m2] at e2
      have l2 := sxv_lt (qv s q) 2 (qv_lt s q)
      generalize encN al s (si + 2) = a2 at *
      clear m2 n2 r2 t2
      obtain ⟨p3, m3, n3, r3, t3⟩ := dec_sig HE.out.1 HA.out q 3 (by omega) (s := s) (by omega)
      have c3 := HE.out.2.2 (4 * q + 3) (by omega)
      replace c3 := grow_cell hg c3 hbsd
      rw [show 4 * q + 3 = si + 3 by omega] at p3 m3 c3
      have e3 := hew.cell (i := 64 + encN al s (si + 3)) (by omega)
      rw [m3] at e3
      have l3 := sxv_lt (qv s q) 3 (qv_lt s q)
      generalize encN al s (si + 3) = a3 at *
      clear m3 n3 r3 t3
      obtain ⟨p4, m4, n4, r4, t4⟩ := dec_sig HE.out.1 HA.out (q + 1) 0 (by omega) (s := s) (by omega)
      have c4 := HE.out.2.2 (4 * (q + 1) + 0) (by omega)
      replace c4 := grow_cell hg c4 hbsd
      rw [show 4 * (q + 1) + 0 = si + 4 by omega] at p4 m4 c4
      have e4 := hew.cell (i := 64 + encN al s (si + 4)) (by omega)
      rw [m4] at e4
      have l4 := sxv_lt (qv s (q + 1)) 0 (qv_lt s (q + 1))
      generalize encN al s (si + 4) = a4 at *
      clear m4 n4 r4 t4
      obtain ⟨p5, m5, n5, r5, t5⟩ := dec_sig HE.out.1 HA.out (q + 1) 1 (by omega) (s := s) (by omega)
      have c5 := HE.out.2.2 (4 * (q + 1) + 1) (by omega)
      replace c5 := grow_cell hg c5 hbsd
      rw [show 4 * (q + 1) + 1 = si + 5 by omega] at p5 m5 c5
      have e5 := hew.cell (i := 64 + encN al s (si + 5)) (by omega)
      rw [m5] at e5
      have l5 := sxv_lt (qv s (q + 1)) 1 (qv_lt s (q + 1))
      generalize encN al s (si + 5) = a5 at *
      clear m5 n5 r5 t5
      obtain ⟨p6, m6, n6, r6, t6⟩ := dec_sig HE.out.1 HA.out (q + 1) 2 (by omega) (s := s) (by omega)
      have c6 := HE.out.2.2 (4 * (q + 1) + 2) (by omega)
      replace c6 := grow_cell hg c6 hbsd
      rw [show 4 * (q + 1) + 2 = si + 6 by omega] at p6 m6 c6
      have e6 := hew.cell (i := 64 + encN al s (si + 6)) (by omega)
      rw [m6] at e6
      have l6 := sxv_lt (qv s (q + 1)) 2 (qv_lt s (q + 1))
      generalize encN al s (si + 6) = a6 at *
      clear m6 n6 r6 t6
      obtain ⟨p7, m7, n7, r7, t7⟩ := dec_sig HE.out.1 HA.out (q + 1) 3 (by omega) (s := s) (by omega)
      have c7 := HE.out.2.2 (4 * (q + 1) + 3) (by omega)
      replace c7 := grow_cell hg c7 hbsd
      rw [show 4 * (q + 1) + 3 = si + 7 by omega] at p7 m7 c7
      have e7 := hew.cell (i := 64 + encN al s (si + 7)) (by omega)
      rw [m7] at e7
      have l7 := sxv_lt (qv s (q + 1)) 3 (qv_lt s (q + 1))
      generalize encN al s (si + 7) = a7 at *
      clear m7 n7 r7 t7
      obtain ⟨D, hD⟩ : ∃ D, D = qv s q * 1099511627776 + qv s (q + 1) * 65536 := ⟨_, rfl⟩
      have hD2 : D = (sxv (qv s q) 0 * 262144 + sxv (qv s q) 1 * 4096 + sxv (qv s q) 2 * 64 + sxv (qv s q) 3) * 1099511627776 + (sxv (qv s (q + 1)) 0 * 262144 + sxv (qv s (q + 1)) 1 * 4096 + sxv (qv s (q + 1)) 2 * 64 + sxv (qv s (q + 1)) 3) * 65536 := by rw [sxv_sum, sxv_sum]; exact hD
      have HAS := hid (fun W => asm64_any _ _ _ _ _ _ _ _ D W l0 l1 l2 l3 l4 l5 l6 l7 hD2)
      have HPU := hid (fun W (hW : W.rowIs bd 5 N3 F') => put64_any bd n N3 (N3 - n) (N3 - n) (qv s q) (qv s (q + 1)) D F' W (qv_lt _ _) (qv_lt _ _) hD hW (by omega) (by omega))
      have hq1 : cs ≠ si := by omega
      have hq2 : N3 ≠ n := by omega
      have HW := hid (And.intro z1 (And.intro z2 (And.intro z3 (And.intro hF (And.intro hrow hg)))))
      have q1 : si + 8 ≤ N4 := by omega
      clear z1 z2 z3 hrow hF hg hM hD hD2 hew
      go_wp2_with fail
      refine wp_region_quiet_lit (by kernel_rfl) (by kernel_rfl) ?_
      simp only [List.append_eq, List.cons_append, List.nil_append]
      repeat (go_big_quiet_step ((go_at_call 186; exact Calls.quiet_of_same ((HAS.out _).mono fun _ _ ⟨he, hw⟩ => ⟨he, hw.symm⟩))))
      refine wpQuiet_nil ?_
      intro _ hw'
      obtain ⟨nq, hw''⟩ := hw'
      subst hw''
      obtain ⟨wq, hwq⟩ : ∃ wq, wq = wr.drewN nq := ⟨_, rfl⟩
      rw [← hwq]
      have hrq : Hid (wq.rowIs bd 5 N3 F') := by rw [hwq]; exact below_row_drew HW.out.2.2.2.2.1 nq
      have hgq : Hid (w.grownBy wq (some bd)) := by rw [hwq]; exact grow_drewN HW.out.2.2.2.2.2 nq
      clear hwq HAS c0 c1 c2 c3 c4 c5 c6 c7 e0 e1 e2 e3 e4 e5 e6 e7 l0 l1 l2 l3 l4 l5 l6 l7 p0 p1 p2 p3 p4 p5 p6 p7
      go_wp2_with fail
      refine (HPU.out _ hrq.out).mono ?_
      rintro e w2 ⟨rfl, hx, hg2⟩
      have HX := hid (And.intro hx hg2)
      clear hx hg2 HPU
      go_wp2_with fail
      refine ⟨⟨n + 6, si + 8, by go_num, rfl, by go_num, by omega, by omega, hid ?_⟩, by simp [intOf]; omega⟩
      obtain ⟨⟨F2, hrow2, hlow, f0, f1, f2, f3, f4, f5⟩, hg2⟩ := HX.out
      obtain ⟨z1, z2, z3, hF, _, _⟩ := HW.out
      have hM := HM.out.2.1
      exact ⟨q + 2, F2, by omega, by omega, by omega, by rw [← hM]; exact hrow2, dec_six z1 hF hlow f0 f1 f2 f3 f4 f5, grow_trans hgq.out hg2⟩
    · skip
      have hsmall : N3 ≤ n + 6 := by
        obtain ⟨q, F', e1, e2, e3, _⟩ := HD.out
        have := HM.out
        omega
      clear hbig
      by_cases h8 : si + 8 ≤ N4
      all_goals
        go_wp2
        go_loopw [6, 7, 8] (fun vn ve vi wr => ∃ n si : Nat, vn = .int .i64 n ∧ ve = .nilIface ∧ vi = .int .i64 si ∧ si + 4 ≤ N4 ∧ n + 3 ≤ N3 ∧ Hid (DecAt s w wr bd m n si)) (fun _ _ vi _ => N4 - (intOf vi).toNat)
        case atStart => exact ⟨n, si, rfl, rfl, rfl, hsi, hnn, HD⟩
        case round =>
          clear hsi hnn HD hsmall h8
          obtain ⟨n, si, rfl, rfl, rfl, hsi, hnn, HD⟩ := hrel
          by_cases hbig : n + 6 ≤ N3
          · obtain ⟨q, F', z1, z2, z3, hrow, hF, hg⟩ := HD.out
            have hM := HM.out
            have hew := grow_row hg HE.out.2.1 (by omega)
            rw [← hM.2.1] at hrow
            have hge := hg.size
            obtain ⟨p0, m0, n0, r0, t0⟩ := dec_sig HE.out.1 HA.out q 0 (by omega) (s := s) (by omega)
            have c0 := HE.out.2.2 (4 * q + 0) (by omega)
            replace c0 := grow_cell hg c0 hbsd
            rw [show 4 * q + 0 = si by omega] at p0 m0 c0
            have e0 := hew.cell (i := 64 + encN al s (si)) (by omega)
            rw [m0] at e0
            have l0 := sxv_lt (qv s q) 0 (qv_lt s q)
            generalize encN al s (si) = a0 at *
            clear m0 n0 r0 t0
            obtain ⟨p1, m1, n1, r1, t1⟩ := dec_sig HE.out.1 HA.out q 1 (by omega) (s := s) (by omega)
            have c1 := HE.out.2.2 (4 * q + 1) (by omega)
            replace c1 := grow_cell hg c1 hbsd
            rw [show 4 * q + 1 = si + 1 by omega] at p1 m1 c1
            have e1 := hew.cell (i := 64 + encN al s (si + 1)) (by omega)
            rw [m1] at e1
            have l1 := sxv_lt (qv s q) 1 (qv_lt s q)
            generalize encN al s (si + 1) = a1 at *
            clear m1 n1 r1 t1
            obtain ⟨p2, m2, n2, r2, t2⟩ := dec_sig HE.out.1 HA.out q 2 (by omega) (s := s) (by omega)
            have c2 := HE.out.2.2 (4 * q + 2) (by omega)
            replace c2 := grow_cell hg c2 hbsd
            rw [show 4 * q + 2 = si + 2 by omega] at p2 m2 c2
            have e2 := hew.cell (i := 64 + encN al s (si + 2)) (by omega)
            rw [m2] at e2
            have l2 := sxv_lt (qv s q) 2 (qv_lt s q)
            generalize encN al s (si + 2) = a2 at *
            clear m2 n2 r2 t2
            obtain ⟨p3, m3, n3, r3, t3⟩ := dec_sig HE.out.1 HA.out q 3 (by omega) (s := s) (by omega)
            have c3 := HE.out.2.2 (4 * q + 3) (by omega)
            replace c3 := grow_cell hg c3 hbsd
            rw [show 4 * q + 3 = si + 3 by omega] at p3 m3 c3
            have e3 := hew.cell (i := 64 + encN al s (si + 3)) (by omega)
            rw [m3] at e3
            have l3 := sxv_lt (qv s q) 3 (qv_lt s q)
            generalize encN al s (si + 3) = a3 at *
            clear m3 n3 r3 t3
            obtain ⟨D, hD⟩ : ∃ D, D = qv s q * 256 := ⟨_, rfl⟩
            have hD2 : D = (sxv (qv s q) 0 * 262144 + sxv (qv s q) 1 * 4096 + sxv (qv s q) 2 * 64 + sxv (qv s q) 3) * 256 := by rw [sxv_sum]; exact hD
            have HAS := hid (fun W => asm32_quiet _ _ _ _ D W l0 l1 l2 l3 hD2)
            have HPU := hid (fun W (hW : W.rowIs bd 5 N3 F') => put32_any bd n N3 (N3 - n) (N3 - n) (qv s q) D F' W (qv_lt _ _) hD hW (by omega) (by omega))
            have hq1 : cs ≠ si := by omega
            have hq2 : N3 ≠ n := by omega
            have q1 : si + 8 ≤ N4 := by omega
            have HW := hid (And.intro z1 (And.intro z2 (And.intro z3 (And.intro hF (And.intro hrow hg)))))
            clear z1 z2 z3 hrow hF hg hM hD hD2 hew
            go_wp2_with fail
            refine wp_region_quiet_lit (by kernel_rfl) (by kernel_rfl) ?_
            repeat (go_big_quiet_step ((go_at_call 189; exact Calls.quiet_of_same (HAS.out _))))
            refine wpQuiet_nil ?_
            intro _ hw'
            obtain ⟨nq, hw''⟩ := hw'
            subst hw''
            obtain ⟨wq, hwq⟩ : ∃ wq, wq = wr.drewN nq := ⟨_, rfl⟩
            rw [← hwq]
            have hrq : Hid (wq.rowIs bd 5 N3 F') := by rw [hwq]; exact below_row_drew HW.out.2.2.2.2.1 nq
            have hgq : Hid (w.grownBy wq (some bd)) := by rw [hwq]; exact grow_drewN HW.out.2.2.2.2.2 nq
            clear hwq HAS c0 c1 c2 c3 e0 e1 e2 e3 l0 l1 l2 l3 p0 p1 p2 p3
            go_wp2_with fail
            refine (HPU.out _ hrq.out).mono ?_
            rintro e w2 ⟨rfl, hx, hg2⟩
            have HX := hid (And.intro hx hg2)
            clear hx hg2 HPU
            go_wp2_with fail
            refine ⟨⟨n + 3, si + 4, by go_num, rfl, by go_num, by omega, by omega, hid ?_⟩, by simp [intOf]; omega⟩
            obtain ⟨⟨F2, hrow2, hlow, f0, f1, f2⟩, hg2⟩ := HX.out
            obtain ⟨z1, z2, z3, hF, _, _⟩ := HW.out
            have hM := HM.out.2.1
            exact ⟨q + 1, F2, by omega, by omega, by omega, by rw [← hM]; exact hrow2, dec_three z1 hF hlow f0 f1 f2, grow_trans hgq.out hg2⟩
          · obtain ⟨q, F', z1, z2, z3, hrow, hF, hg⟩ := HD.out
            have hM := HM.out
            have hew := grow_row hg HE.out.2.1 (by omega)
            rw [← hM.2.1] at hrow
            have hge := hg.size
            obtain ⟨R, hR⟩ : ∃ R, n + R = s.size := ⟨s.size - n, by omega⟩
            have HQ := hid (quant_any al s be bs bd cs (N3 - n) q si n (N3 - n) N3 N4 R F' g wr HA.out hn (by omega) (by omega) z2 z1 (by omega) (by omega) (by omega) hR HE.out.1 hew (fun i hi => grow_cell hg (HE.out.2.2 i (by omega)) hbsd) hrow hbe (by omega))
            have hq2 : N3 ≠ n := by omega
            have q1 : N3 ≤ n + 3 := by omega
            have hRl : R ≤ 3 := by omega
            have HW := hid (And.intro hR (And.intro hF hg))
            clear z1 z2 z3 hrow hF hg hM hew hR hbig
            go_wp2
            refine wp_loop_rounds 2 ?_
            rw [rounds_succ]
            go_wp2_with fail
            refine HQ.out.mono ?_
            rintro e w2 ⟨rfl, hx, hg2⟩
            have HX := hid (And.intro hx hg2)
            clear hx hg2 HQ
            go_wp2_with fail
            rw [rounds_succ]
            go_wp2_with fail
            go_ret2
            obtain ⟨⟨F2, hrow2, hlow, hhi⟩, hg2⟩ := HX.out
            obtain ⟨hR, hF, hg⟩ := HW.out
            refine ⟨ret_d (show (n : Int) + R = (s.size : Nat) by omega), ⟨F2, hrow2, fun j hj => ?_⟩, grow_trans hg hg2⟩
            by_cases hjn : j < n
            · rw [hlow j hjn, hF j hjn]
            · exact hhi j (by omega) hj

end Go.Proofs.YtlallleahgfdkaaGreatDoor
