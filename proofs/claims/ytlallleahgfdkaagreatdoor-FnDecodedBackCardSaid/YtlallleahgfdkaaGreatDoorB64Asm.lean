/- encoding/base64's assemble64, assemble32, decodedLen, DecodedLen; internal/byteorder's BEPutUint64, BEPutUint32 at such sums. Conditions: each digit is below 64; the row has room. -/
import Derived.Test.YtlallleahgfdkaaGreatDoorB64Str
import Derived.Lib.BufferOwn
namespace Go.Proofs.YtlallleahgfdkaaGreatDoor
open Go.RowKit

theorem below_set {B : Nat} {a w : World} (h : Below B a w) (i : Nat) (v : Value) : Below B a (w.setCell ⟨B, i, none⟩ v) := h.setCell (Nat.le_refl _) v
theorem grow_refl (w : World) (b : Nat) : w.grownBy w (some b) := Lib.Hx.grownBy_refl w _
theorem grow_set {a w : World} {b : Nat} (h : a.grownBy w (some b)) (i : Nat) (v : Value) : a.grownBy (w.setCell ⟨b, i, none⟩ v) (some b) := Lib.Hx.grownBy_set h _ rfl v
theorem grow_new {a w : World} {b c : Nat} (h : a.grownBy w (some b)) (hc : a.heap.size ≤ c) (i : Nat) (v : Value) : a.grownBy (w.setCell ⟨c, i, none⟩ v) (some b) :=
  ⟨h.os, h.tape, h.output, by simpa [World.setCell] using h.size, fun k hk hne => (RowKit.Below.heap_setCell _ _ _ _ (by intro e; simp only at e; omega)).trans (h.block k hk hne)⟩
theorem grow_alloc {a w : World} {b : Nat} (h : a.grownBy w (some b)) (o : Obj) : a.grownBy (w.alloc o) (some b) := Lib.grownBy_allocR h o
theorem grow_drewN {a w : World} {b : Nat} (h : a.grownBy w (some b)) (n : Nat) : a.grownBy (w.drewN n) (some b) := ⟨h.os, h.tape, h.output, h.size, h.block⟩
theorem grow_trans {a w w' : World} {b : Nat} (h : a.grownBy w (some b)) (k : w.grownBy w' (some b)) : a.grownBy w' (some b) := Lib.grownBy_trans h k
theorem grow_row {a w : World} {b c n : Nat} {t : TypeId} {f : Nat → Value} (h : a.grownBy w (some b)) (hr : a.rowIs c t n f) (hne : c ≠ b) : w.rowIs c t n f := hr.of_block (h.block c hr.lt (by intro e; cases e; exact hne rfl))
theorem grow_cell {a w : World} {b : Nat} (h : a.grownBy w (some b)) {c i : Nat} {v : Value} (hr : a.cell? ⟨c, i, none⟩ = some v) (hne : c ≠ b) : w.cell? ⟨c, i, none⟩ = some v := h.cell hr (by intro e; cases e; exact hne rfl)
theorem int_val {k : IntKind} {a b : Int} (h : a = b) : Value.int k a = Value.int k b := by rw [h]
set_option maxRecDepth 100000 in
set_option maxHeartbeats 4000000 in
theorem asm32_any (x0 x1 x2 x3 D : Nat) (w : World) (h0 : x0 < 64) (h1 : x1 < 64) (h2 : x2 < 64) (h3 : x3 < 64) (hD : D = (x0 * 262144 + x1 * 4096 + x2 * 64 + x3) * 256) :
    Calls Tryz.prog 189 #[.int .u8 x0, .int .u8 x1, .int .u8 x2, .int .u8 x3] w fun e w' => e = .returned (.tuple #[.int .u32 (D : Nat), .bool true]) ∧ w = w' := by
  have hv := asm32 x0 x1 x2 x3 h0 h1 h2 h3
  rw [← hD] at hv
  clear hD
  obtain ⟨c1, hc1, e1⟩ := or8 x0 x1 h0 h1
  obtain ⟨c2, hc2, e2⟩ := or8 c1 x2 hc1 h2
  obtain ⟨c3, hc3, e3⟩ := or8 c2 x3 hc2 h3
  have ht : ((c3 : Int) == 255) = false := beq_eq_false_iff_ne.2 (by omega)
  go_enter Tryz.func189, Tryz.ntmps189
  go_wp2
  go_ret2
  exact ⟨rfl, rfl⟩
set_option maxRecDepth 100000 in
set_option maxHeartbeats 4000000 in
theorem asm64_any (x0 x1 x2 x3 x4 x5 x6 x7 D : Nat) (w : World) (h0 : x0 < 64) (h1 : x1 < 64) (h2 : x2 < 64) (h3 : x3 < 64) (h4 : x4 < 64) (h5 : x5 < 64) (h6 : x6 < 64) (h7 : x7 < 64) (hD : D = (x0 * 262144 + x1 * 4096 + x2 * 64 + x3) * 1099511627776 + (x4 * 262144 + x5 * 4096 + x6 * 64 + x7) * 65536) :
    Calls Tryz.prog 186 #[.int .u8 x0, .int .u8 x1, .int .u8 x2, .int .u8 x3, .int .u8 x4, .int .u8 x5, .int .u8 x6, .int .u8 x7] w fun e w' => e = .returned (.tuple #[.int .u64 (D : Nat), .bool true]) ∧ w = w' := by
  have hv := asm64 x0 x1 x2 x3 x4 x5 x6 x7 h0 h1 h2 h3 h4 h5 h6 h7
  rw [← hD] at hv
  clear hD
  obtain ⟨c1, hc1, e1⟩ := or8 x0 x1 h0 h1
  obtain ⟨c2, hc2, e2⟩ := or8 c1 x2 hc1 h2
  obtain ⟨c3, hc3, e3⟩ := or8 c2 x3 hc2 h3
  obtain ⟨c4, hc4, e4⟩ := or8 c3 x4 hc3 h4
  obtain ⟨c5, hc5, e5⟩ := or8 c4 x5 hc4 h5
  obtain ⟨c6, hc6, e6⟩ := or8 c5 x6 hc5 h6
  obtain ⟨c7, hc7, e7⟩ := or8 c6 x7 hc6 h7
  have ht : ((c7 : Int) == 255) = false := beq_eq_false_iff_ne.2 (by omega)
  go_enter Tryz.func186, Tryz.ntmps186
  go_wp2
  go_ret2
  exact ⟨rfl, rfl⟩
set_option maxRecDepth 100000 in
set_option maxHeartbeats 4000000 in
theorem put32_any (bd o N k cap V0 D : Nat) (F : Nat → Value) (w : World) (h0 : V0 < 16777216) (hD : D = (V0 * 256)) (hrow : w.rowIs bd 5 N F) (ho : o + 4 ≤ N) (hk : 4 ≤ k) :
    Calls Tryz.prog 190 #[.slice (some ⟨bd, o, none⟩) k cap, .int .u32 (D : Nat)] w fun e w' => e = .returned (.tuple #[]) ∧ (∃ F', w'.rowIs bd 5 N F' ∧ (∀ j, j < o → F' j = F j) ∧ F' (o + 0) = .int .u8 ((V0 / 65536 : Nat) : Int) ∧ F' (o + 1) = .int .u8 ((V0 / 256 % 256 : Nat) : Int) ∧ F' (o + 2) = .int .u8 ((V0 % 256 : Nat) : Int)) ∧ w.grownBy w' (some bd) := by
  have HR := hid hrow
  have hlt : D < 4294967296 := by omega
  have d0 : w.cell? ⟨bd, o, none⟩ = some (F (o)) := hrow.cell (by omega)
  have d1 : w.cell? ⟨bd, o + 1, none⟩ = some (F (o + 1)) := hrow.cell (by omega)
  have d2 : w.cell? ⟨bd, o + 2, none⟩ = some (F (o + 2)) := hrow.cell (by omega)
  have d3 : w.cell? ⟨bd, o + 3, none⟩ = some (F (o + 3)) := hrow.cell (by omega)
  have hfr : ∀ i, w.frozen? ⟨bd, i, none⟩ = false := fun i => hrow.frozen i
  generalize F o = v0 at d0
  generalize F (o + 1) = v1 at d1
  generalize F (o + 2) = v2 at d2
  generalize F (o + 3) = v3 at d3
  have HD := hid hD
  clear hrow hD
  go_enter Tryz.func190, Tryz.ntmps190
  go_wp2
  go_end0
  have hset := ((((HR.out.set o (.int .u8 ((D : Int) / 16777216))).set (o + 1) (.int .u8 ((D : Int) / 65536 % 256))).set (o + 2) (.int .u8 ((D : Int) / 256 % 256))).set (o + 3) (.int .u8 ((D : Int) % 256)))
  refine ⟨rfl, ⟨_, hset, fun j hj => ?_, ?_, ?_, ?_⟩, ?_⟩
  · try dsimp only
    repeat rw [if_neg (by omega)]
  rotate_right
  · repeat (first | with_reducible exact grow_refl _ _ | with_reducible refine grow_set ?_ _ _)
  all_goals
    try dsimp only
    repeat rw [if_neg (by omega)]
    rw [if_pos (by omega)]
    refine int_val ?_
    have := HD.out
    omega
set_option maxRecDepth 100000 in
set_option maxHeartbeats 4000000 in
theorem put64_any (bd o N k cap V0 V1 D : Nat) (F : Nat → Value) (w : World) (h0 : V0 < 16777216) (h1 : V1 < 16777216) (hD : D = (V0 * 1099511627776 + V1 * 65536)) (hrow : w.rowIs bd 5 N F) (ho : o + 8 ≤ N) (hk : 8 ≤ k) :
    Calls Tryz.prog 187 #[.slice (some ⟨bd, o, none⟩) k cap, .int .u64 (D : Nat)] w fun e w' => e = .returned (.tuple #[]) ∧ (∃ F', w'.rowIs bd 5 N F' ∧ (∀ j, j < o → F' j = F j) ∧ F' (o + 0) = .int .u8 ((V0 / 65536 : Nat) : Int) ∧ F' (o + 1) = .int .u8 ((V0 / 256 % 256 : Nat) : Int) ∧ F' (o + 2) = .int .u8 ((V0 % 256 : Nat) : Int) ∧ F' (o + 3) = .int .u8 ((V1 / 65536 : Nat) : Int) ∧ F' (o + 4) = .int .u8 ((V1 / 256 % 256 : Nat) : Int) ∧ F' (o + 5) = .int .u8 ((V1 % 256 : Nat) : Int)) ∧ w.grownBy w' (some bd) := by
  have HR := hid hrow
  have hlt : D < 18446744073709551616 := by omega
  have d0 : w.cell? ⟨bd, o, none⟩ = some (F (o)) := hrow.cell (by omega)
  have d1 : w.cell? ⟨bd, o + 1, none⟩ = some (F (o + 1)) := hrow.cell (by omega)
  have d2 : w.cell? ⟨bd, o + 2, none⟩ = some (F (o + 2)) := hrow.cell (by omega)
  have d3 : w.cell? ⟨bd, o + 3, none⟩ = some (F (o + 3)) := hrow.cell (by omega)
  have d4 : w.cell? ⟨bd, o + 4, none⟩ = some (F (o + 4)) := hrow.cell (by omega)
  have d5 : w.cell? ⟨bd, o + 5, none⟩ = some (F (o + 5)) := hrow.cell (by omega)
  have d6 : w.cell? ⟨bd, o + 6, none⟩ = some (F (o + 6)) := hrow.cell (by omega)
  have d7 : w.cell? ⟨bd, o + 7, none⟩ = some (F (o + 7)) := hrow.cell (by omega)
  have hfr : ∀ i, w.frozen? ⟨bd, i, none⟩ = false := fun i => hrow.frozen i
  generalize F o = v0 at d0
  generalize F (o + 1) = v1 at d1
  generalize F (o + 2) = v2 at d2
  generalize F (o + 3) = v3 at d3
  generalize F (o + 4) = v4 at d4
  generalize F (o + 5) = v5 at d5
  generalize F (o + 6) = v6 at d6
  generalize F (o + 7) = v7 at d7
  have HD := hid hD
  clear hrow hD
  go_enter Tryz.func187, Tryz.ntmps187
  go_wp2
  go_end0
  have hset := ((((((((HR.out.set o (.int .u8 ((D : Int) / 72057594037927936))).set (o + 1) (.int .u8 ((D : Int) / 281474976710656 % 256))).set (o + 2) (.int .u8 ((D : Int) / 1099511627776 % 256))).set (o + 3) (.int .u8 ((D : Int) / 4294967296 % 256))).set (o + 4) (.int .u8 ((D : Int) / 16777216 % 256))).set (o + 5) (.int .u8 ((D : Int) / 65536 % 256))).set (o + 6) (.int .u8 ((D : Int) / 256 % 256))).set (o + 7) (.int .u8 ((D : Int) % 256)))
  refine ⟨rfl, ⟨_, hset, fun j hj => ?_, ?_, ?_, ?_, ?_, ?_, ?_⟩, ?_⟩
  · try dsimp only
    repeat rw [if_neg (by omega)]
  rotate_right
  · repeat (first | with_reducible exact grow_refl _ _ | with_reducible refine grow_set ?_ _ _)
  all_goals
    try dsimp only
    repeat rw [if_neg (by omega)]
    rw [if_pos (by omega)]
    refine int_val ?_
    have := HD.out
    omega
set_option maxRecDepth 100000 in
set_option maxHeartbeats 4000000 in
theorem decLen_any (be n : Nat) (w : World) (hn : n ≤ 2147483647) (hp : w.cell? ⟨be, 320, none⟩ = some (.int .i32 61)) :
    Calls Tryz.prog 170 #[.pointer (some ⟨be, 0, none⟩), .int .i64 n] w fun e w' => e = .returned (.int .i64 ((n / 4 * 3 : Nat) : Int)) ∧ w = w' := by
  go_enter Tryz.func170, Tryz.ntmps170
  go_wp2
  go_ret
  exact ⟨ret_int (by omega), rfl⟩
end Go.Proofs.YtlallleahgfdkaaGreatDoor
