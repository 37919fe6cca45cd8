/- impl.DecodeHex: what it returns, where encoding/hex.ErrLength holds an error that is not nil; the law FnDecodeHex. -/
import Derived.Test.YtlallleahgfdkaaGreatDoorHex
namespace Go.Proofs.YtlallleahgfdkaaGreatDoor
open Go.RowKit

theorem hexDec_ok (s : ByteArray) (x : List UInt8) (W : World) (ev : Value) (hE : W.cell? ⟨0, 0, none⟩ = some ev) (hs : s.size ≤ 2147483647) (hd : Lib.Hx.decode s.data.toList = (x, .ok)) :
    Calls Tryz.prog 118 #[.string s] W fun e w' => e = .returned (.tuple #[.slice (some ⟨W.heap.size, 0, none⟩) x.length (s.size / 2), .nilIface]) ∧
      (convert 58 9 (.slice (some ⟨W.heap.size, 0, none⟩) x.length (s.size / 2))).run Tryz.prog w' = .ok (.string ⟨x.toArray⟩) w' ∧ Below W.heap.size W w' := by
  have hlen := Lib.Hx.decode_len s.data.toList
  refine (Tryz.hex_DecodeString s W ev hE (by omega)).mono ?_
  rintro e w' ⟨rfl, hrow, hb⟩
  rw [hd] at hrow hlen ⊢
  refine ⟨rfl, ?_, hb⟩
  rw [← Lib.size_eq] at hlen
  replace hrow : w'.rowIs W.heap.size 5 (s.size / 2) (Lib.Hx.rowP (fun _ => .int .u8 0) 0 x) := hrow
  have hlen' : x.length ≤ s.size / 2 := hlen
  rw [run_convert_bytes_arg (P := Tryz.prog) w' 58 5 Tryz.underlying58 Tryz.underlying5 W.heap.size 0 x.length (s.size / 2) (x.map fun b => (b.toNat : Int)) (by simp) (fun i hi => by
    rw [Nat.zero_add, hrow.cell (i := i) (by omega)]
    unfold Lib.Hx.rowP
    rw [if_pos ⟨Nat.zero_le _, by omega⟩, Nat.sub_zero, List.getD, List.getElem?_map, List.getElem?_eq_getElem hi]
    rfl) 9 Tryz.underlying9]
  unfold strOfNums
  rw [List.map_map]
  have : ((fun n : Int => UInt8.ofNat n.toNat) ∘ fun b : UInt8 => (b.toNat : Int)) = id := by funext b; simp
  rw [this, List.map_id]
theorem hexDec_bad (s : ByteArray) (W : World) (u0 : TypeId) (y0 : Value) (hE : W.cell? ⟨0, 0, none⟩ = some (.iface u0 y0)) (hs : s.size ≤ 2147483647) (hd : ∀ x, Lib.Hx.decode s.data.toList ≠ (x, .ok)) :
    Calls Tryz.prog 118 #[.string s] W fun e w' => ∃ n c u y, e = .returned (.tuple #[.slice (some ⟨W.heap.size, 0, none⟩) n c, .iface u y]) ∧ Below W.heap.size W w' := by
  refine (Tryz.hex_DecodeString s W _ hE (by omega)).mono ?_
  rintro e w' ⟨rfl, hrow, hb⟩
  cases hout : Lib.Hx.decode s.data.toList with
  | mk x out =>
    cases out with
    | ok => exact absurd hout (hd x)
    | bad c => exact ⟨_, _, _, _, rfl, hb⟩
    | odd => exact ⟨_, _, _, _, rfl, hb⟩

theorem alloc4_cell (w : World) (o0 o1 o2 o3 : Obj) (v : Value) (h0 : 0 < w.heap.size) (h : w.cell? ⟨0, 0, none⟩ = some v) : ((((w.alloc o0).alloc o1).alloc o2).alloc o3).cell? ⟨0, 0, none⟩ = some v := by
  rw [World.cell?_alloc_past _ _ _ (by simp), World.cell?_alloc_past _ _ _ (by simp), World.cell?_alloc_past _ _ _ (by simp), World.cell?_alloc_past _ _ _ h0, h]
set_option maxRecDepth 100000 in
set_option maxHeartbeats 4000000 in
theorem decodeHex_ok (s x : ByteArray) (w : World) (u0 : TypeId) (y0 : Value) (h0 : 0 < w.heap.size) (hE : w.cell? ⟨0, 0, none⟩ = some (.iface u0 y0)) (hs : s.size ≤ 2147483647) (hd : Lib.Hx.decode s.data.toList = (x.data.toList, .ok)) :
    Calls Tryz.prog 29 #[.string s] w fun e w' => e = .returned (.tuple #[.string x, .bool true]) ∧ Below w.heap.size w w' := by
  have HC := hid (fun W hE' => hexDec_ok s x.data.toList W (.iface u0 y0) hE' hs hd)
  rw [Lib.mk_data] at HC
  have HE := hid (fun o0 o1 o2 o3 => alloc4_cell w o0 o1 o2 o3 _ h0 hE)
  clear hd hE
  go_enter Tryz.func29, Tryz.ntmps29
  go_wp2_with (first | (go_at_call 118; refine (HC.out _ (HE.out _ _ _ _)).mono ?_; rintro e w1 ⟨rfl, hcv, hb1⟩; simp at hcv; obtain ⟨hc1, hf1⟩ := bcell hb1; obtain ⟨hr1, hs1, hz1, hr2, hs2⟩ := after1 hb1) | go_in)
  go_ret2
  refine ⟨rfl, ?_⟩
  repeat (first | exact Below.refl _ _ | (refine Below.drew ?_) | (refine Below.alloc ?_ (by first | omega | (simp; done) | (simp; omega)) _) | (refine Below.setCell ?_ (by first | omega | (simp; done) | (simp; omega)) _) | (refine Below.trans ?_ (hb1.mono (by first | omega | (simp; done) | (simp; omega)))))

set_option maxRecDepth 100000 in
set_option maxHeartbeats 4000000 in
theorem decodeHex_bad (s : ByteArray) (w : World) (u0 : TypeId) (y0 : Value) (h0 : 0 < w.heap.size) (hE : w.cell? ⟨0, 0, none⟩ = some (.iface u0 y0)) (hs : s.size ≤ 2147483647) (hd : ∀ x, Lib.Hx.decode s.data.toList ≠ (x, .ok)) :
    Calls Tryz.prog 29 #[.string s] w fun e w' => e = .returned (.tuple #[.string ⟨#[]⟩, .bool false]) ∧ Below w.heap.size w w' := by
  have HC := hid (fun W hE' => hexDec_bad s W u0 y0 hE' hs hd)
  have HE := hid (fun o0 o1 o2 o3 => alloc4_cell w o0 o1 o2 o3 _ h0 hE)
  clear hd hE
  go_enter Tryz.func29, Tryz.ntmps29
  go_wp2_with (first | (go_at_call 118; refine (HC.out _ (HE.out _ _ _ _)).mono ?_; rintro e w1 ⟨n, c, u, y, rfl, hb1⟩; obtain ⟨hc1, hf1⟩ := bcell hb1; obtain ⟨hr1, hs1, hz1, hr2, hs2⟩ := after1 hb1) | go_in)
  go_ret2
  refine ⟨rfl, ?_⟩
  repeat (first | exact Below.refl _ _ | (refine Below.drew ?_) | (refine Below.alloc ?_ (by first | omega | (simp; done) | (simp; omega)) _) | (refine Below.setCell ?_ (by first | omega | (simp; done) | (simp; omega)) _) | (refine Below.trans ?_ (hb1.mono (by first | omega | (simp; done) | (simp; omega)))))

end Go.Proofs.YtlallleahgfdkaaGreatDoor
