/- The law FnTrimEnds: called with any two strings it returns true, and makes new memory alone. -/
import Derived.Test.YtlallleahgfdkaaGreatDoorImpl1
import Derived.Test.YtlallleahgfdkaaGreatDoorImpl2
import Derived.Test.YtlallleahgfdkaaGreatDoorContains
namespace Go.Proofs.YtlallleahgfdkaaGreatDoor
open Go.RowKit

/-- What the law asks of the four answers. -/
def EndsOk (s t x y : ByteArray) (a b : Bool) : Prop :=
  (a = true → t.size ≤ s.size ∧ x = s.extract t.size s.size) ∧ (a = false → s = x) ∧ (b = true → t.size ≤ s.size ∧ y = s.extract 0 (s.size - t.size)) ∧ (b = false → s = y)
theorem ends_ok (s t : ByteArray) : EndsOk s t ⟨(Lib.trimPrefix s.data.toList t.data.toList).toArray⟩ ⟨(Lib.trimSuffix s.data.toList t.data.toList).toArray⟩ (Lib.hasPrefix s.data.toList t.data.toList) (Lib.hasSuffix s.data.toList t.data.toList) := by
  refine ⟨fun h => ?_, fun h => ?_, fun h => ?_, fun h => ?_⟩
  · rw [← Lib.hasPrefix_raw, Bool.and_eq_true, decide_eq_true_eq] at h
    exact ⟨h.1, Lib.trimPrefix_hit s t h.1 h.2⟩
  · rw [← Lib.hasPrefix_raw] at h
    exact (Lib.trimPrefix_miss s t h).symm
  · rw [← Lib.hasSuffix_raw, Bool.and_eq_true, decide_eq_true_eq] at h
    exact ⟨h.1, Lib.trimSuffix_hit s t h.1 h.2⟩
  · rw [← Lib.hasSuffix_raw] at h
    exact (Lib.trimSuffix_miss s t h).symm
set_option maxRecDepth 100000 in
set_option maxHeartbeats 4000000 in
theorem cut_tt (s t x y : ByteArray) (w : World) (h1 : s.size ≤ 2147483647) (h2 : t.size ≤ 2147483647) (hok : EndsOk s t x y true true)
    (HP : Hid (∀ W, Calls Tryz.prog 22 #[.string s, .string t] W fun e w' => e = .returned (.bool true) ∧ W = w'))
    (HS : Hid (∀ W, Calls Tryz.prog 23 #[.string s, .string t] W fun e w' => e = .returned (.bool true) ∧ W = w'))
    (HX : Hid (∀ W, Calls Tryz.prog 25 #[.string s, .string t] W fun e w' => e = .returned (.tuple #[.string x, .bool true]) ∧ Below W.heap.size W w'))
    (HY : Hid (∀ W, Calls Tryz.prog 26 #[.string s, .string t] W fun e w' => e = .returned (.tuple #[.string y, .bool true]) ∧ Below W.heap.size W w')) :
    Calls Tryz.prog 8 #[.string s, .string t] w fun e w' => e = .returned (.bool true) ∧ Below w.heap.size w w' := by
  obtain ⟨hle, rfl⟩ := hok.1 rfl
  obtain ⟨hle2, rfl⟩ := hok.2.2.1 rfl
  clear hok
  go_enter Tryz.func8, Tryz.ntmps8
  go_wp2_with fail
  refine (ready_any [s, t] _ _ (by simp) (fun i hi => ?_) (by simp) (fun i hi => ?_)).mono ?_
  · match i, hi with
    | 0, _ => show s.size ≤ _; omega
    | 1, _ => show t.size ≤ _; omega
  · match i, hi with
    | 0, _ => simp
    | 1, _ => simp
  rintro e w1 ⟨rd, rfl, hx, hb1⟩
  have hbel : Below w.heap.size w w1 := ((Below.refl _ _).alloc (Nat.le_refl _) _).trans (hb1.mono (by simp))
  have HB := hid hbel
  clear hbel hb1
  cases rd with
  | false =>
    go_wp2
    go_ret
    exact ⟨rfl, HB.out⟩
  | true =>
  clear hx
  go_wp2_with fail
  refine (HX.out _).mono ?_
  rintro e w2 ⟨rfl, hb2⟩
  have HB2 := hid (HB.out.trans (hb2.mono HB.out.size))
  clear HB hb2
  go_wp2_with fail
  refine (HY.out _).mono ?_
  rintro e w3 ⟨rfl, hb3⟩
  have HB3 := hid (HB2.out.trans (hb3.mono HB2.out.size))
  clear HB2 hb3
  go_wp2_with fail
  refine (HP.out _).mono ?_
  rintro e w4 ⟨rfl, rfl⟩
  go_wp2_with fail
  refine (HS.out _).mono ?_
  rintro e w5 ⟨rfl, rfl⟩
  go_wp2_with fail
  refine (is_yes _ _).mono ?_
  rintro e w6 ⟨rfl, rfl⟩
  go_wp2_with fail
  refine (is_yes _ _).mono ?_
  rintro e w7 ⟨rfl, rfl⟩
  go_wp2_with fail
  refine (alive_any _).mono ?_
  rintro e w8 ⟨rfl, hb8⟩
  have HB8 := hid (HB3.out.trans (hb8.mono HB3.out.size))
  clear HB3 hb8
  go_wp2_with fail
  go_ret
  exact ⟨rfl, HB8.out⟩

set_option maxRecDepth 100000 in
set_option maxHeartbeats 4000000 in
theorem cut_tf (s t x y : ByteArray) (w : World) (h1 : s.size ≤ 2147483647) (h2 : t.size ≤ 2147483647) (hok : EndsOk s t x y true false)
    (HP : Hid (∀ W, Calls Tryz.prog 22 #[.string s, .string t] W fun e w' => e = .returned (.bool true) ∧ W = w'))
    (HS : Hid (∀ W, Calls Tryz.prog 23 #[.string s, .string t] W fun e w' => e = .returned (.bool false) ∧ W = w'))
    (HX : Hid (∀ W, Calls Tryz.prog 25 #[.string s, .string t] W fun e w' => e = .returned (.tuple #[.string x, .bool true]) ∧ Below W.heap.size W w'))
    (HY : Hid (∀ W, Calls Tryz.prog 26 #[.string s, .string t] W fun e w' => e = .returned (.tuple #[.string y, .bool true]) ∧ Below W.heap.size W w')) :
    Calls Tryz.prog 8 #[.string s, .string t] w fun e w' => e = .returned (.bool true) ∧ Below w.heap.size w w' := by
  obtain ⟨hle, rfl⟩ := hok.1 rfl
  obtain rfl := hok.2.2.2 rfl
  clear hok
  go_enter Tryz.func8, Tryz.ntmps8
  go_wp2_with fail
  refine (ready_any [s, t] _ _ (by simp) (fun i hi => ?_) (by simp) (fun i hi => ?_)).mono ?_
  · match i, hi with
    | 0, _ => show s.size ≤ _; omega
    | 1, _ => show t.size ≤ _; omega
  · match i, hi with
    | 0, _ => simp
    | 1, _ => simp
  rintro e w1 ⟨rd, rfl, hx, hb1⟩
  have hbel : Below w.heap.size w w1 := ((Below.refl _ _).alloc (Nat.le_refl _) _).trans (hb1.mono (by simp))
  have HB := hid hbel
  clear hbel hb1
  cases rd with
  | false =>
    go_wp2
    go_ret
    exact ⟨rfl, HB.out⟩
  | true =>
  clear hx
  go_wp2_with fail
  refine (HX.out _).mono ?_
  rintro e w2 ⟨rfl, hb2⟩
  have HB2 := hid (HB.out.trans (hb2.mono HB.out.size))
  clear HB hb2
  go_wp2_with fail
  refine (HY.out _).mono ?_
  rintro e w3 ⟨rfl, hb3⟩
  have HB3 := hid (HB2.out.trans (hb3.mono HB2.out.size))
  clear HB2 hb3
  go_wp2_with fail
  refine (HP.out _).mono ?_
  rintro e w4 ⟨rfl, rfl⟩
  go_wp2_with fail
  refine (HS.out _).mono ?_
  rintro e w5 ⟨rfl, rfl⟩
  go_wp2_with fail
  refine (is_yes _ _).mono ?_
  rintro e w6 ⟨rfl, rfl⟩
  go_wp2_with fail
  refine (is_yes _ _).mono ?_
  rintro e w7 ⟨rfl, rfl⟩
  go_wp2_with fail
  refine (alive_any _).mono ?_
  rintro e w8 ⟨rfl, hb8⟩
  have HB8 := hid (HB3.out.trans (hb8.mono HB3.out.size))
  clear HB3 hb8
  go_wp2_with fail
  go_ret
  exact ⟨rfl, HB8.out⟩

set_option maxRecDepth 100000 in
set_option maxHeartbeats 4000000 in
theorem cut_ft (s t x y : ByteArray) (w : World) (h1 : s.size ≤ 2147483647) (h2 : t.size ≤ 2147483647) (hok : EndsOk s t x y false true)
    (HP : Hid (∀ W, Calls Tryz.prog 22 #[.string s, .string t] W fun e w' => e = .returned (.bool false) ∧ W = w'))
    (HS : Hid (∀ W, Calls Tryz.prog 23 #[.string s, .string t] W fun e w' => e = .returned (.bool true) ∧ W = w'))
    (HX : Hid (∀ W, Calls Tryz.prog 25 #[.string s, .string t] W fun e w' => e = .returned (.tuple #[.string x, .bool true]) ∧ Below W.heap.size W w'))
    (HY : Hid (∀ W, Calls Tryz.prog 26 #[.string s, .string t] W fun e w' => e = .returned (.tuple #[.string y, .bool true]) ∧ Below W.heap.size W w')) :
    Calls Tryz.prog 8 #[.string s, .string t] w fun e w' => e = .returned (.bool true) ∧ Below w.heap.size w w' := by
  obtain rfl := hok.2.1 rfl
  obtain ⟨hle2, rfl⟩ := hok.2.2.1 rfl
  clear hok
  go_enter Tryz.func8, Tryz.ntmps8
  go_wp2_with fail
  refine (ready_any [s, t] _ _ (by simp) (fun i hi => ?_) (by simp) (fun i hi => ?_)).mono ?_
  · match i, hi with
    | 0, _ => show s.size ≤ _; omega
    | 1, _ => show t.size ≤ _; omega
  · match i, hi with
    | 0, _ => simp
    | 1, _ => simp
  rintro e w1 ⟨rd, rfl, hx, hb1⟩
  have hbel : Below w.heap.size w w1 := ((Below.refl _ _).alloc (Nat.le_refl _) _).trans (hb1.mono (by simp))
  have HB := hid hbel
  clear hbel hb1
  cases rd with
  | false =>
    go_wp2
    go_ret
    exact ⟨rfl, HB.out⟩
  | true =>
  clear hx
  go_wp2_with fail
  refine (HX.out _).mono ?_
  rintro e w2 ⟨rfl, hb2⟩
  have HB2 := hid (HB.out.trans (hb2.mono HB.out.size))
  clear HB hb2
  go_wp2_with fail
  refine (HY.out _).mono ?_
  rintro e w3 ⟨rfl, hb3⟩
  have HB3 := hid (HB2.out.trans (hb3.mono HB2.out.size))
  clear HB2 hb3
  go_wp2_with fail
  refine (HP.out _).mono ?_
  rintro e w4 ⟨rfl, rfl⟩
  go_wp2_with fail
  refine (HS.out _).mono ?_
  rintro e w5 ⟨rfl, rfl⟩
  go_wp2_with fail
  refine (is_yes _ _).mono ?_
  rintro e w6 ⟨rfl, rfl⟩
  go_wp2_with fail
  refine (is_yes _ _).mono ?_
  rintro e w7 ⟨rfl, rfl⟩
  go_wp2_with fail
  refine (alive_any _).mono ?_
  rintro e w8 ⟨rfl, hb8⟩
  have HB8 := hid (HB3.out.trans (hb8.mono HB3.out.size))
  clear HB3 hb8
  go_wp2_with fail
  go_ret
  exact ⟨rfl, HB8.out⟩

set_option maxRecDepth 100000 in
set_option maxHeartbeats 4000000 in
theorem cut_ff (s t x y : ByteArray) (w : World) (h1 : s.size ≤ 2147483647) (h2 : t.size ≤ 2147483647) (hok : EndsOk s t x y false false)
    (HP : Hid (∀ W, Calls Tryz.prog 22 #[.string s, .string t] W fun e w' => e = .returned (.bool false) ∧ W = w'))
    (HS : Hid (∀ W, Calls Tryz.prog 23 #[.string s, .string t] W fun e w' => e = .returned (.bool false) ∧ W = w'))
    (HX : Hid (∀ W, Calls Tryz.prog 25 #[.string s, .string t] W fun e w' => e = .returned (.tuple #[.string x, .bool true]) ∧ Below W.heap.size W w'))
    (HY : Hid (∀ W, Calls Tryz.prog 26 #[.string s, .string t] W fun e w' => e = .returned (.tuple #[.string y, .bool true]) ∧ Below W.heap.size W w')) :
    Calls Tryz.prog 8 #[.string s, .string t] w fun e w' => e = .returned (.bool true) ∧ Below w.heap.size w w' := by
  obtain rfl := hok.2.1 rfl
  have hyy := hok.2.2.2 rfl
  subst hyy
  clear hok
  go_enter Tryz.func8, Tryz.ntmps8
  go_wp2_with fail
  refine (ready_any [s, t] _ _ (by simp) (fun i hi => ?_) (by simp) (fun i hi => ?_)).mono ?_
  · match i, hi with
    | 0, _ => show s.size ≤ _; omega
    | 1, _ => show t.size ≤ _; omega
  · match i, hi with
    | 0, _ => simp
    | 1, _ => simp
  rintro e w1 ⟨rd, rfl, hx, hb1⟩
  have hbel : Below w.heap.size w w1 := ((Below.refl _ _).alloc (Nat.le_refl _) _).trans (hb1.mono (by simp))
  have HB := hid hbel
  clear hbel hb1
  cases rd with
  | false =>
    go_wp2
    go_ret
    exact ⟨rfl, HB.out⟩
  | true =>
  clear hx
  go_wp2_with fail
  refine (HX.out _).mono ?_
  rintro e w2 ⟨rfl, hb2⟩
  have HB2 := hid (HB.out.trans (hb2.mono HB.out.size))
  clear HB hb2
  go_wp2_with fail
  refine (HY.out _).mono ?_
  rintro e w3 ⟨rfl, hb3⟩
  have HB3 := hid (HB2.out.trans (hb3.mono HB2.out.size))
  clear HB2 hb3
  go_wp2_with fail
  refine (HP.out _).mono ?_
  rintro e w4 ⟨rfl, rfl⟩
  go_wp2_with fail
  refine (HS.out _).mono ?_
  rintro e w5 ⟨rfl, rfl⟩
  go_wp2_with fail
  refine (is_yes _ _).mono ?_
  rintro e w6 ⟨rfl, rfl⟩
  go_wp2_with fail
  refine (is_yes _ _).mono ?_
  rintro e w7 ⟨rfl, rfl⟩
  go_wp2_with fail
  refine (alive_any _).mono ?_
  rintro e w8 ⟨rfl, hb8⟩
  have HB8 := hid (HB3.out.trans (hb8.mono HB3.out.size))
  clear HB3 hb8
  go_wp2_with fail
  go_ret
  exact ⟨rfl, HB8.out⟩

set_option maxRecDepth 100000 in
set_option maxHeartbeats 4000000 in
theorem fnTrimEnds_any (s t : ByteArray) (w : World) :
    Calls Tryz.prog 8 #[.string s, .string t] w fun e w' => e = .returned (.bool true) ∧ Below w.heap.size w w' := by
  by_cases h1 : 2147483647 < s.size
  · go_enter Tryz.func8, Tryz.ntmps8
    go_wp2
    go_ret
    exact ⟨rfl, Below.refl _ _⟩
  by_cases h2 : 2147483647 < t.size
  · go_enter Tryz.func8, Tryz.ntmps8
    go_wp2
    go_ret
    exact ⟨rfl, Below.refl _ _⟩
  have HP := hid (fun W => starts2_any s t W)
  have HS := hid (fun W => ends_any s t W (by omega) (by omega))
  have HX := hid (fun W => trimPrefix_any s t W (by omega) (by omega))
  have HY := hid (fun W => trimSuffix_any s t W (by omega) (by omega))
  have hok := ends_ok s t
  cases ha : Lib.hasPrefix s.data.toList t.data.toList <;> cases hb : Lib.hasSuffix s.data.toList t.data.toList <;> rw [ha] at HP hok <;> rw [hb] at HS hok
  · exact cut_ff s t _ _ w (by omega) (by omega) hok HP HS HX HY
  · exact cut_ft s t _ _ w (by omega) (by omega) hok HP HS HX HY
  · exact cut_tf s t _ _ w (by omega) (by omega) hok HP HS HX HY
  · exact cut_tt s t _ _ w (by omega) (by omega) hok HP HS HX HY
end Go.Proofs.YtlallleahgfdkaaGreatDoor
