/- impl.TrimLeft, TrimRight, Trim at a cutset of ASCII, for strings of at most 2^31 - 1 bytes: what they return; new memory alone is made. -/
import Derived.Test.YtlallleahgfdkaaGreatDoorTrim
namespace Go.Proofs.YtlallleahgfdkaaGreatDoor
open Go.RowKit

/-- Behind a contract met inside a built-in function of two operands: what was laid reads as it did; the variable r may still be written. -/
theorem after2 {w w1 : World} {o0 o1 o2 o3 : Obj} (hb : Below (((((w.alloc o0).alloc o1).alloc o2).alloc (.cells #[.pointer none] 49)).alloc o3).heap.size (((((w.alloc o0).alloc o1).alloc o2).alloc (.cells #[.pointer none] 49)).alloc o3) w1) :
    (∀ o, (w1.alloc o).cell? ⟨w.heap.size + 1 + 1 + 1, 0, none⟩ = some (.pointer none)) ∧ (∀ o, (w1.alloc o).frozen? ⟨w.heap.size + 1 + 1 + 1, 0, none⟩ = false) ∧ w.heap.size + 4 < w1.heap.size ∧
      w1.cell? ⟨w.heap.size + 1 + 1 + 1, 0, none⟩ = some (.pointer none) ∧ w1.frozen? ⟨w.heap.size + 1 + 1 + 1, 0, none⟩ = false := by
  have hs := hb.size
  simp at hs
  have h1 : w1.cell? ⟨w.heap.size + 1 + 1 + 1, 0, none⟩ = some (.pointer none) := by
    rw [(bcell hb).1 _ _ (by simp), World.cell?_alloc_past _ _ _ (by simp), World.cell?_alloc_at _ _ _ _ (by simp)]; rfl
  have h2 : w1.frozen? ⟨w.heap.size + 1 + 1 + 1, 0, none⟩ = false := by
    rw [(bcell hb).2 _ _ (by simp), World.frozen?_alloc_past _ _ _ (by simp)]; exact World.frozen?_alloc_at _ _ _ _ (by simp)
  exact ⟨fun o => by rw [World.cell?_alloc_past _ _ _ (by omega), h1], fun o => by rw [World.frozen?_alloc_past _ _ _ (by omega), h2], by omega, h1, h2⟩

set_option maxRecDepth 100000 in
set_option maxHeartbeats 4000000 in
theorem trimLeft_same (s t : ByteArray) (w : World) (HC : Hid (∀ W, Calls Tryz.prog 122 #[.string s, .string t] W fun e w' => e = .returned (.string s) ∧ Below W.heap.size W w')) :
    Calls Tryz.prog 38 #[.string s, .string t] w fun e w' => e = .returned (.tuple #[.string s, .bool true]) ∧ Below w.heap.size w w' := by
  go_enter Tryz.func38, Tryz.ntmps38
  go_wp2_with (first | (go_at_call 122; refine (HC.out _).mono ?_; rintro e w1 ⟨rfl, hb1⟩; obtain ⟨hc1, hf1⟩ := bcell hb1; obtain ⟨hr1, hs1, hz1, hr2, hs2⟩ := after2 hb1) | go_in)
  go_ret2
  refine ⟨rfl, ?_⟩
  repeat (first | exact Below.refl _ _ | (refine Below.drew ?_) | (refine Below.alloc ?_ (by first | omega | (simp; done) | (simp; omega)) _) | (refine Below.setCell ?_ (by first | omega | (simp; done) | (simp; omega)) _) | (refine Below.trans ?_ (hb1.mono (by first | omega | (simp; done) | (simp; omega)))))

set_option maxRecDepth 100000 in
set_option maxHeartbeats 4000000 in
theorem trimLeft_other (s t x : ByteArray) (w : World) (he : (x.toList == s.toList) = false) (HC : Hid (∀ W, Calls Tryz.prog 122 #[.string s, .string t] W fun e w' => e = .returned (.string x) ∧ Below W.heap.size W w')) :
    Calls Tryz.prog 38 #[.string s, .string t] w fun e w' => e = .returned (.tuple #[.string x, .bool true]) ∧ Below w.heap.size w w' := by
  go_enter Tryz.func38, Tryz.ntmps38
  go_wp2_with (first | (go_at_call 122; refine (HC.out _).mono ?_; rintro e w1 ⟨rfl, hb1⟩; obtain ⟨hc1, hf1⟩ := bcell hb1; obtain ⟨hr1, hs1, hz1, hr2, hs2⟩ := after2 hb1) | go_in)
  go_ret2
  refine ⟨rfl, ?_⟩
  repeat (first | exact Below.refl _ _ | (refine Below.drew ?_) | (refine Below.alloc ?_ (by first | omega | (simp; done) | (simp; omega)) _) | (refine Below.setCell ?_ (by first | omega | (simp; done) | (simp; omega)) _) | (refine Below.trans ?_ (hb1.mono (by first | omega | (simp; done) | (simp; omega)))))

theorem trimLeft_any (s t : ByteArray) (w : World) (hs : s.size ≤ 2147483647) (ht : t.size ≤ 2147483647) (ha : AllAscii t) :
    Calls Tryz.prog 38 #[.string s, .string t] w fun e w' => e = .returned (.tuple #[.string ⟨(Pl.trimL s.data.toList t.data.toList).toArray⟩, .bool true]) ∧ Below w.heap.size w w' := by
  have HC := hid (fun W => zzTrimLeft_any s t W hs ht ha)
  obtain ⟨x, hx⟩ : ∃ x : ByteArray, x = ⟨(Pl.trimL s.data.toList t.data.toList).toArray⟩ := ⟨_, rfl⟩
  rw [← hx] at HC ⊢
  cases he : (x.toList == s.toList) with
  | true =>
    have hxs : x = s := by
      rw [beq_iff_eq, Lib.toList_data, Lib.toList_data] at he
      rw [← Lib.mk_data x, he, Lib.mk_data]
    rw [hxs] at HC ⊢
    exact trimLeft_same s t w HC
  | false => exact trimLeft_other s t x w he HC

set_option maxRecDepth 100000 in
set_option maxHeartbeats 4000000 in
theorem trimRight_same (s t : ByteArray) (w : World) (HC : Hid (∀ W, Calls Tryz.prog 123 #[.string s, .string t] W fun e w' => e = .returned (.string s) ∧ Below W.heap.size W w')) :
    Calls Tryz.prog 39 #[.string s, .string t] w fun e w' => e = .returned (.tuple #[.string s, .bool true]) ∧ Below w.heap.size w w' := by
  go_enter Tryz.func39, Tryz.ntmps39
  go_wp2_with (first | (go_at_call 123; refine (HC.out _).mono ?_; rintro e w1 ⟨rfl, hb1⟩; obtain ⟨hc1, hf1⟩ := bcell hb1; obtain ⟨hr1, hs1, hz1, hr2, hs2⟩ := after2 hb1) | go_in)
  go_ret2
  refine ⟨rfl, ?_⟩
  repeat (first | exact Below.refl _ _ | (refine Below.drew ?_) | (refine Below.alloc ?_ (by first | omega | (simp; done) | (simp; omega)) _) | (refine Below.setCell ?_ (by first | omega | (simp; done) | (simp; omega)) _) | (refine Below.trans ?_ (hb1.mono (by first | omega | (simp; done) | (simp; omega)))))

set_option maxRecDepth 100000 in
set_option maxHeartbeats 4000000 in
theorem trimRight_other (s t x : ByteArray) (w : World) (he : (x.toList == s.toList) = false) (HC : Hid (∀ W, Calls Tryz.prog 123 #[.string s, .string t] W fun e w' => e = .returned (.string x) ∧ Below W.heap.size W w')) :
    Calls Tryz.prog 39 #[.string s, .string t] w fun e w' => e = .returned (.tuple #[.string x, .bool true]) ∧ Below w.heap.size w w' := by
  go_enter Tryz.func39, Tryz.ntmps39
  go_wp2_with (first | (go_at_call 123; refine (HC.out _).mono ?_; rintro e w1 ⟨rfl, hb1⟩; obtain ⟨hc1, hf1⟩ := bcell hb1; obtain ⟨hr1, hs1, hz1, hr2, hs2⟩ := after2 hb1) | go_in)
  go_ret2
  refine ⟨rfl, ?_⟩
  repeat (first | exact Below.refl _ _ | (refine Below.drew ?_) | (refine Below.alloc ?_ (by first | omega | (simp; done) | (simp; omega)) _) | (refine Below.setCell ?_ (by first | omega | (simp; done) | (simp; omega)) _) | (refine Below.trans ?_ (hb1.mono (by first | omega | (simp; done) | (simp; omega)))))

theorem trimRight_any (s t : ByteArray) (w : World) (hs : s.size ≤ 2147483647) (ht : t.size ≤ 2147483647) :
    Calls Tryz.prog 39 #[.string s, .string t] w fun e w' => e = .returned (.tuple #[.string ⟨(Pl.trimR s.data.toList t.data.toList).toArray⟩, .bool true]) ∧ Below w.heap.size w w' := by
  have HC := hid (fun W => zzTrimRight_any s t W hs ht)
  obtain ⟨x, hx⟩ : ∃ x : ByteArray, x = ⟨(Pl.trimR s.data.toList t.data.toList).toArray⟩ := ⟨_, rfl⟩
  rw [← hx] at HC ⊢
  cases he : (x.toList == s.toList) with
  | true =>
    have hxs : x = s := by
      rw [beq_iff_eq, Lib.toList_data, Lib.toList_data] at he
      rw [← Lib.mk_data x, he, Lib.mk_data]
    rw [hxs] at HC ⊢
    exact trimRight_same s t w HC
  | false => exact trimRight_other s t x w he HC

set_option maxRecDepth 100000 in
set_option maxHeartbeats 4000000 in
theorem trim_same (s t : ByteArray) (w : World) (HC : Hid (∀ W, Calls Tryz.prog 124 #[.string s, .string t] W fun e w' => e = .returned (.string s) ∧ Below W.heap.size W w')) :
    Calls Tryz.prog 40 #[.string s, .string t] w fun e w' => e = .returned (.tuple #[.string s, .bool true]) ∧ Below w.heap.size w w' := by
  go_enter Tryz.func40, Tryz.ntmps40
  go_wp2_with (first | (go_at_call 124; refine (HC.out _).mono ?_; rintro e w1 ⟨rfl, hb1⟩; obtain ⟨hc1, hf1⟩ := bcell hb1; obtain ⟨hr1, hs1, hz1, hr2, hs2⟩ := after2 hb1) | go_in)
  go_ret2
  refine ⟨rfl, ?_⟩
  repeat (first | exact Below.refl _ _ | (refine Below.drew ?_) | (refine Below.alloc ?_ (by first | omega | (simp; done) | (simp; omega)) _) | (refine Below.setCell ?_ (by first | omega | (simp; done) | (simp; omega)) _) | (refine Below.trans ?_ (hb1.mono (by first | omega | (simp; done) | (simp; omega)))))

set_option maxRecDepth 100000 in
set_option maxHeartbeats 4000000 in
theorem trim_other (s t x : ByteArray) (w : World) (he : (x.toList == s.toList) = false) (HC : Hid (∀ W, Calls Tryz.prog 124 #[.string s, .string t] W fun e w' => e = .returned (.string x) ∧ Below W.heap.size W w')) :
    Calls Tryz.prog 40 #[.string s, .string t] w fun e w' => e = .returned (.tuple #[.string x, .bool true]) ∧ Below w.heap.size w w' := by
  go_enter Tryz.func40, Tryz.ntmps40
  go_wp2_with (first | (go_at_call 124; refine (HC.out _).mono ?_; rintro e w1 ⟨rfl, hb1⟩; obtain ⟨hc1, hf1⟩ := bcell hb1; obtain ⟨hr1, hs1, hz1, hr2, hs2⟩ := after2 hb1) | go_in)
  go_ret2
  refine ⟨rfl, ?_⟩
  repeat (first | exact Below.refl _ _ | (refine Below.drew ?_) | (refine Below.alloc ?_ (by first | omega | (simp; done) | (simp; omega)) _) | (refine Below.setCell ?_ (by first | omega | (simp; done) | (simp; omega)) _) | (refine Below.trans ?_ (hb1.mono (by first | omega | (simp; done) | (simp; omega)))))

theorem trim_any (s t : ByteArray) (w : World) (hs : s.size ≤ 2147483647) (ht : t.size ≤ 2147483647) (ha : AllAscii t) :
    Calls Tryz.prog 40 #[.string s, .string t] w fun e w' => e = .returned (.tuple #[.string ⟨(Pl.trimR (Pl.trimL s.data.toList t.data.toList) t.data.toList).toArray⟩, .bool true]) ∧ Below w.heap.size w w' := by
  have HC := hid (fun W => zzTrim_any s t W hs ht ha)
  obtain ⟨x, hx⟩ : ∃ x : ByteArray, x = ⟨(Pl.trimR (Pl.trimL s.data.toList t.data.toList) t.data.toList).toArray⟩ := ⟨_, rfl⟩
  rw [← hx] at HC ⊢
  cases he : (x.toList == s.toList) with
  | true =>
    have hxs : x = s := by
      rw [beq_iff_eq, Lib.toList_data, Lib.toList_data] at he
      rw [← Lib.mk_data x, he, Lib.mk_data]
    rw [hxs] at HC ⊢
    exact trim_same s t w HC
  | false => exact trim_other s t x w he HC
end Go.Proofs.YtlallleahgfdkaaGreatDoor
