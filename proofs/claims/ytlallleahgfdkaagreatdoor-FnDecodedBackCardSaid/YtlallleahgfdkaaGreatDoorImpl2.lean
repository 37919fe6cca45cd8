/- impl.Lower, impl.Upper on ASCII text of at most 2^31 - 1 bytes; laws.alive: what they return: new memory alone is made. -/
import Derived.Test.YtlallleahgfdkaaGreatDoorBase
import Derived.Test.YtlallleahgfdkaaGreatDoorShelf
namespace Go.Proofs.YtlallleahgfdkaaGreatDoor
open Go.RowKit

/-- Behind a contract met inside a built-in function of one operand: what was laid reads as it did; the variable r may still be written. -/
theorem after1 {w w1 : World} {o0 o1 o3 : Obj} (hb : Below ((((w.alloc o0).alloc o1).alloc (.cells #[.pointer none] 49)).alloc o3).heap.size ((((w.alloc o0).alloc o1).alloc (.cells #[.pointer none] 49)).alloc o3) w1) :
    (∀ o, (w1.alloc o).cell? ⟨w.heap.size + 1 + 1, 0, none⟩ = some (.pointer none)) ∧ (∀ o, (w1.alloc o).frozen? ⟨w.heap.size + 1 + 1, 0, none⟩ = false) ∧ w.heap.size + 3 < w1.heap.size ∧
      w1.cell? ⟨w.heap.size + 1 + 1, 0, none⟩ = some (.pointer none) ∧ w1.frozen? ⟨w.heap.size + 1 + 1, 0, none⟩ = false := by
  have hs := hb.size
  simp at hs
  have h1 : w1.cell? ⟨w.heap.size + 1 + 1, 0, none⟩ = some (.pointer none) := by
    rw [(bcell hb).1 _ _ (by simp), World.cell?_alloc_past _ _ _ (by simp), World.cell?_alloc_at _ _ _ _ (by simp)]; rfl
  have h2 : w1.frozen? ⟨w.heap.size + 1 + 1, 0, none⟩ = false := by
    rw [(bcell hb).2 _ _ (by simp), World.frozen?_alloc_past _ _ _ (by simp)]; exact World.frozen?_alloc_at _ _ _ _ (by simp)
  exact ⟨fun o => by rw [World.cell?_alloc_past _ _ _ (by omega), h1], fun o => by rw [World.frozen?_alloc_past _ _ _ (by omega), h2], by omega, h1, h2⟩
theorem ascii_list {s : ByteArray} (h : AllAscii s) : ∀ (j : Nat) (b : UInt8), s.data.toList[j]? = some b → b.toNat < 128 := by
  intro j b hj
  obtain ⟨hlt, e⟩ := List.getElem?_eq_some_iff.1 hj
  have := h j (by rw [Lib.size_eq]; exact hlt)
  rw [← e]
  exact this

set_option maxRecDepth 100000 in
set_option maxHeartbeats 4000000 in
theorem lower_same (s : ByteArray) (w : World) (HC : Hid (∀ W, Calls Tryz.prog 119 #[.string s] W fun e w' => e = .returned (.string s) ∧ Below W.heap.size W w')) :
    Calls Tryz.prog 33 #[.string s] w fun e w' => e = .returned (.tuple #[.string s, .bool true]) ∧ Below w.heap.size w w' := by
  go_enter Tryz.func33, Tryz.ntmps33
  go_wp2_with (first | (go_at_call 119; refine (HC.out _).mono ?_; rintro e w1 ⟨rfl, hb1⟩; obtain ⟨hc1, hf1⟩ := bcell hb1; obtain ⟨hr1, hs1, hz1, hr2, hs2⟩ := after1 hb1) | go_in)
  go_ret2
  refine ⟨rfl, ?_⟩
  repeat (first | exact Below.refl _ _ | (refine Below.drew ?_) | (refine Below.alloc ?_ (by first | omega | (simp; done) | (simp; omega)) _) | (refine Below.setCell ?_ (by first | omega | (simp; done) | (simp; omega)) _) | (refine Below.trans ?_ (hb1.mono (by first | omega | (simp; done) | (simp; omega)))))

set_option maxRecDepth 100000 in
set_option maxHeartbeats 4000000 in
theorem lower_other (s x : ByteArray) (w : World) (he : (s.toList == x.toList) = false) (HC : Hid (∀ W, Calls Tryz.prog 119 #[.string s] W fun e w' => e = .returned (.string x) ∧ Below W.heap.size W w')) :
    Calls Tryz.prog 33 #[.string s] w fun e w' => e = .returned (.tuple #[.string x, .bool true]) ∧ Below w.heap.size w w' := by
  go_enter Tryz.func33, Tryz.ntmps33
  go_wp2_with (first | (go_at_call 119; refine (HC.out _).mono ?_; rintro e w1 ⟨rfl, hb1⟩; obtain ⟨hc1, hf1⟩ := bcell hb1; obtain ⟨hr1, hs1, hz1, hr2, hs2⟩ := after1 hb1) | go_in)
  go_ret2
  refine ⟨rfl, ?_⟩
  repeat (first | exact Below.refl _ _ | (refine Below.drew ?_) | (refine Below.alloc ?_ (by first | omega | (simp; done) | (simp; omega)) _) | (refine Below.setCell ?_ (by first | omega | (simp; done) | (simp; omega)) _) | (refine Below.trans ?_ (hb1.mono (by first | omega | (simp; done) | (simp; omega)))))

theorem lower_any (s : ByteArray) (w : World) (hs : s.size ≤ 2147483647) (ha : AllAscii s) :
    Calls Tryz.prog 33 #[.string s] w fun e w' => e = .returned (.tuple #[.string ⟨(Lib.toLowerA s.data.toList).toArray⟩, .bool true]) ∧ Below w.heap.size w w' := by
  have HC := hid (fun W => Tryz.strings_ToLower_ascii s W (by omega) (ascii_list ha))
  obtain ⟨x, hx⟩ : ∃ x : ByteArray, x = ⟨(Lib.toLowerA s.data.toList).toArray⟩ := ⟨_, rfl⟩
  rw [← hx] at HC ⊢
  cases he : (s.toList == x.toList) with
  | true =>
    have hxs : s = x := by
      rw [beq_iff_eq, Lib.toList_data, Lib.toList_data] at he
      rw [← Lib.mk_data x, ← he, Lib.mk_data]
    rw [← hxs] at HC ⊢
    exact lower_same s w HC
  | false => exact lower_other s x w he HC

set_option maxRecDepth 100000 in
set_option maxHeartbeats 4000000 in
theorem upper_same (s : ByteArray) (w : World) (HC : Hid (∀ W, Calls Tryz.prog 120 #[.string s] W fun e w' => e = .returned (.string s) ∧ Below W.heap.size W w')) :
    Calls Tryz.prog 34 #[.string s] w fun e w' => e = .returned (.tuple #[.string s, .bool true]) ∧ Below w.heap.size w w' := by
  go_enter Tryz.func34, Tryz.ntmps34
  go_wp2_with (first | (go_at_call 120; refine (HC.out _).mono ?_; rintro e w1 ⟨rfl, hb1⟩; obtain ⟨hc1, hf1⟩ := bcell hb1; obtain ⟨hr1, hs1, hz1, hr2, hs2⟩ := after1 hb1) | go_in)
  go_ret2
  refine ⟨rfl, ?_⟩
  repeat (first | exact Below.refl _ _ | (refine Below.drew ?_) | (refine Below.alloc ?_ (by first | omega | (simp; done) | (simp; omega)) _) | (refine Below.setCell ?_ (by first | omega | (simp; done) | (simp; omega)) _) | (refine Below.trans ?_ (hb1.mono (by first | omega | (simp; done) | (simp; omega)))))

set_option maxRecDepth 100000 in
set_option maxHeartbeats 4000000 in
theorem upper_other (s x : ByteArray) (w : World) (he : (s.toList == x.toList) = false) (HC : Hid (∀ W, Calls Tryz.prog 120 #[.string s] W fun e w' => e = .returned (.string x) ∧ Below W.heap.size W w')) :
    Calls Tryz.prog 34 #[.string s] w fun e w' => e = .returned (.tuple #[.string x, .bool true]) ∧ Below w.heap.size w w' := by
  go_enter Tryz.func34, Tryz.ntmps34
  go_wp2_with (first | (go_at_call 120; refine (HC.out _).mono ?_; rintro e w1 ⟨rfl, hb1⟩; obtain ⟨hc1, hf1⟩ := bcell hb1; obtain ⟨hr1, hs1, hz1, hr2, hs2⟩ := after1 hb1) | go_in)
  go_ret2
  refine ⟨rfl, ?_⟩
  repeat (first | exact Below.refl _ _ | (refine Below.drew ?_) | (refine Below.alloc ?_ (by first | omega | (simp; done) | (simp; omega)) _) | (refine Below.setCell ?_ (by first | omega | (simp; done) | (simp; omega)) _) | (refine Below.trans ?_ (hb1.mono (by first | omega | (simp; done) | (simp; omega)))))

theorem upper_any (s : ByteArray) (w : World) (hs : s.size ≤ 2147483647) (ha : AllAscii s) :
    Calls Tryz.prog 34 #[.string s] w fun e w' => e = .returned (.tuple #[.string ⟨(Lib.toUpperA s.data.toList).toArray⟩, .bool true]) ∧ Below w.heap.size w w' := by
  have HC := hid (fun W => Tryz.strings_ToUpper_ascii s W (by omega) (ascii_list ha))
  obtain ⟨x, hx⟩ : ∃ x : ByteArray, x = ⟨(Lib.toUpperA s.data.toList).toArray⟩ := ⟨_, rfl⟩
  rw [← hx] at HC ⊢
  cases he : (s.toList == x.toList) with
  | true =>
    have hxs : s = x := by
      rw [beq_iff_eq, Lib.toList_data, Lib.toList_data] at he
      rw [← Lib.mk_data x, ← he, Lib.mk_data]
    rw [← hxs] at HC ⊢
    exact upper_same s w HC
  | false => exact upper_other s x w he HC

theorem ascii_a : AllAscii ⟨#[97]⟩ := by
  intro i h
  match i, h with
  | 0, _ => exact (by decide : (97 : UInt8).toNat < 128)

/-- laws.alive: the upper case of "a" is "A". -/
theorem alive_any (w : World) : Calls Tryz.prog 28 #[] w fun e w' => e = .returned (.bool true) ∧ Below w.heap.size w w' := by
  have HU := hid (fun W => upper_any ⟨#[97]⟩ W (by decide) ascii_a)
  rw [show (Lib.toUpperA (⟨#[97]⟩ : ByteArray).data.toList).toArray = #[65] from by decide] at HU
  go_enter Tryz.func28, Tryz.ntmps28
  go_wp2_with fail
  refine (HU.out _).mono ?_
  rintro e w1 ⟨rfl, hb1⟩
  go_wp2_with fail
  go_ret
  exact ⟨rfl, hb1⟩
end Go.Proofs.YtlallleahgfdkaaGreatDoor
