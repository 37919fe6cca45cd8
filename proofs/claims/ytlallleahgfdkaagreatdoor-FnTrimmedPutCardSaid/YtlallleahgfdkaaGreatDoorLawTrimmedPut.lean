/- The law FnTrimmedPut: called with any two strings it returns true, and makes new memory alone. -/
import Derived.Test.YtlallleahgfdkaaGreatDoorImpl1
namespace Go.Proofs.YtlallleahgfdkaaGreatDoor
open Go.RowKit

theorem put_prefix (s t x : ByteArray) (h : x = ⟨(Lib.trimPrefix s.data.toList t.data.toList).toArray⟩) (hp : Lib.hasPrefix s.data.toList t.data.toList = true) : ((t ++ x).toList == s.toList) = true := by
  subst h
  rw [beq_iff_eq, Lib.toList_data, Lib.toList_data, ByteArray.data_append, Array.toList_append]
  unfold Lib.trimPrefix
  rw [if_pos hp]
  obtain ⟨r, hr⟩ := List.isPrefixOf_iff_prefix.1 hp
  rw [← hr]; simp
theorem put_prefix_no (s t x : ByteArray) (h : x = ⟨(Lib.trimPrefix s.data.toList t.data.toList).toArray⟩) (hp : Lib.hasPrefix s.data.toList t.data.toList = false) : s = x := by
  subst h
  unfold Lib.trimPrefix
  rw [if_neg (by rw [hp]; simp), Lib.mk_data]
theorem put_suffix (s t x : ByteArray) (h : x = ⟨(Lib.trimSuffix s.data.toList t.data.toList).toArray⟩) (hp : Lib.hasSuffix s.data.toList t.data.toList = true) : ((x ++ t).toList == s.toList) = true := by
  subst h
  rw [beq_iff_eq, Lib.toList_data, Lib.toList_data, ByteArray.data_append, Array.toList_append]
  unfold Lib.trimSuffix
  rw [if_pos hp]
  obtain ⟨r, hr⟩ := List.isSuffixOf_iff_suffix.1 hp
  rw [← hr]; simp
theorem put_suffix_no (s t x : ByteArray) (h : x = ⟨(Lib.trimSuffix s.data.toList t.data.toList).toArray⟩) (hp : Lib.hasSuffix s.data.toList t.data.toList = false) : s = x := by
  subst h
  unfold Lib.trimSuffix
  rw [if_neg (by rw [hp]; simp), Lib.mk_data]

/-- What the law asks of the four answers. -/
def PutOk (s t x y : ByteArray) (a b : Bool) : Prop :=
  (a = true → ((t ++ x).toList == s.toList) = true) ∧ (a = false → s = x) ∧ (b = true → ((y ++ t).toList == s.toList) = true) ∧ (b = false → s = y)

set_option maxRecDepth 100000 in
set_option maxHeartbeats 4000000 in
theorem put_tt (s t x y : ByteArray) (w : World) (h1 : s.size ≤ 2147483647) (h2 : t.size ≤ 2147483647) (hxs : x.size ≤ 2147483647) (hys : y.size ≤ 2147483647) (hok : PutOk s t x y true true)
    (HP : Hid (∀ W, Calls Tryz.prog 19 #[.string s, .string t] W fun e w' => e = .returned (.tuple #[.bool true, .bool true]) ∧ Below W.heap.size W w'))
    (HS : Hid (∀ W, Calls Tryz.prog 20 #[.string s, .string t] W fun e w' => e = .returned (.tuple #[.bool true, .bool true]) ∧ Below W.heap.size W w'))
    (HX : Hid (∀ W, Calls Tryz.prog 25 #[.string s, .string t] W fun e w' => e = .returned (.tuple #[.string x, .bool true]) ∧ Below W.heap.size W w'))
    (HY : Hid (∀ W, Calls Tryz.prog 26 #[.string s, .string t] W fun e w' => e = .returned (.tuple #[.string y, .bool true]) ∧ Below W.heap.size W w')) :
    Calls Tryz.prog 4 #[.string s, .string t] w fun e w' => e = .returned (.bool true) ∧ Below w.heap.size w w' := by
  have hyx := hok.1 rfl
  have hyy := hok.2.2.1 rfl
  clear hok
  go_enter Tryz.func4, Tryz.ntmps4
  go_wp2_with fail
  refine (ready_any [s, t] _ _ (by simp) (fun i hi => ?_) (by simp) (fun i hi => ?_)).mono ?_
  · match i, hi with
    | 0, _ => show s.size ≤ _; omega
    | 1, _ => show t.size ≤ _; omega
  · match i, hi with
    | 0, _ => simp
    | 1, _ => simp
  rintro e w1 ⟨rd, rfl, hx, hb1⟩
  have hbel : Below w.heap.size w w1 := ((Below.refl _ _).alloc (Nat.le_refl _) _).trans (hb1.mono (by simp))
  have HB := hid hbel
  clear hbel hb1
  cases rd with
  | false =>
    go_wp2
    go_ret
    exact ⟨rfl, HB.out⟩
  | true =>
  clear hx
  go_wp2_with fail
  refine (HP.out _).mono ?_
  rintro e w2 ⟨rfl, hb2⟩
  have HB2 := hid (HB.out.trans (hb2.mono HB.out.size))
  clear HB hb2
  go_wp2_with fail
  refine (HS.out _).mono ?_
  rintro e w3 ⟨rfl, hb3⟩
  have HB3 := hid (HB2.out.trans (hb3.mono HB2.out.size))
  clear HB2 hb3
  go_wp2_with fail
  refine (HX.out _).mono ?_
  rintro e w4 ⟨rfl, hb4⟩
  have HB4 := hid (HB3.out.trans (hb4.mono HB3.out.size))
  clear HB3 hb4
  go_wp2_with fail
  refine (of_any _ _).mono ?_
  rintro e w5 ⟨rfl, rfl⟩
  go_wp2_with fail
  refine (HY.out _).mono ?_
  rintro e w6 ⟨rfl, hb6⟩
  have HB6 := hid (HB4.out.trans (hb6.mono HB4.out.size))
  clear HB4 hb6
  go_wp2_with fail
  refine (of_any _ _).mono ?_
  rintro e w7 ⟨rfl, rfl⟩
  go_wp2_with fail
  go_ret
  exact ⟨rfl, HB6.out⟩

set_option maxRecDepth 100000 in
set_option maxHeartbeats 4000000 in
theorem put_tf (s t x y : ByteArray) (w : World) (h1 : s.size ≤ 2147483647) (h2 : t.size ≤ 2147483647) (hxs : x.size ≤ 2147483647) (hys : y.size ≤ 2147483647) (hok : PutOk s t x y true false)
    (HP : Hid (∀ W, Calls Tryz.prog 19 #[.string s, .string t] W fun e w' => e = .returned (.tuple #[.bool true, .bool true]) ∧ Below W.heap.size W w'))
    (HS : Hid (∀ W, Calls Tryz.prog 20 #[.string s, .string t] W fun e w' => e = .returned (.tuple #[.bool false, .bool true]) ∧ Below W.heap.size W w'))
    (HX : Hid (∀ W, Calls Tryz.prog 25 #[.string s, .string t] W fun e w' => e = .returned (.tuple #[.string x, .bool true]) ∧ Below W.heap.size W w'))
    (HY : Hid (∀ W, Calls Tryz.prog 26 #[.string s, .string t] W fun e w' => e = .returned (.tuple #[.string y, .bool true]) ∧ Below W.heap.size W w')) :
    Calls Tryz.prog 4 #[.string s, .string t] w fun e w' => e = .returned (.bool true) ∧ Below w.heap.size w w' := by
  have hyx := hok.1 rfl
  obtain rfl := hok.2.2.2 rfl
  clear hok
  go_enter Tryz.func4, Tryz.ntmps4
  go_wp2_with fail
  refine (ready_any [s, t] _ _ (by simp) (fun i hi => ?_) (by simp) (fun i hi => ?_)).mono ?_
  · match i, hi with
    | 0, _ => show s.size ≤ _; omega
    | 1, _ => show t.size ≤ _; omega
  · match i, hi with
    | 0, _ => simp
    | 1, _ => simp
  rintro e w1 ⟨rd, rfl, hx, hb1⟩
  have hbel : Below w.heap.size w w1 := ((Below.refl _ _).alloc (Nat.le_refl _) _).trans (hb1.mono (by simp))
  have HB := hid hbel
  clear hbel hb1
  cases rd with
  | false =>
    go_wp2
    go_ret
    exact ⟨rfl, HB.out⟩
  | true =>
  clear hx
  go_wp2_with fail
  refine (HP.out _).mono ?_
  rintro e w2 ⟨rfl, hb2⟩
  have HB2 := hid (HB.out.trans (hb2.mono HB.out.size))
  clear HB hb2
  go_wp2_with fail
  refine (HS.out _).mono ?_
  rintro e w3 ⟨rfl, hb3⟩
  have HB3 := hid (HB2.out.trans (hb3.mono HB2.out.size))
  clear HB2 hb3
  go_wp2_with fail
  refine (HX.out _).mono ?_
  rintro e w4 ⟨rfl, hb4⟩
  have HB4 := hid (HB3.out.trans (hb4.mono HB3.out.size))
  clear HB3 hb4
  go_wp2_with fail
  refine (of_any _ _).mono ?_
  rintro e w5 ⟨rfl, rfl⟩
  go_wp2_with fail
  refine (HY.out _).mono ?_
  rintro e w6 ⟨rfl, hb6⟩
  have HB6 := hid (HB4.out.trans (hb6.mono HB4.out.size))
  clear HB4 hb6
  go_wp2_with fail
  refine (of_any _ _).mono ?_
  rintro e w7 ⟨rfl, rfl⟩
  go_wp2_with fail
  go_ret
  exact ⟨rfl, HB6.out⟩

set_option maxRecDepth 100000 in
set_option maxHeartbeats 4000000 in
theorem put_ft (s t x y : ByteArray) (w : World) (h1 : s.size ≤ 2147483647) (h2 : t.size ≤ 2147483647) (hxs : x.size ≤ 2147483647) (hys : y.size ≤ 2147483647) (hok : PutOk s t x y false true)
    (HP : Hid (∀ W, Calls Tryz.prog 19 #[.string s, .string t] W fun e w' => e = .returned (.tuple #[.bool false, .bool true]) ∧ Below W.heap.size W w'))
    (HS : Hid (∀ W, Calls Tryz.prog 20 #[.string s, .string t] W fun e w' => e = .returned (.tuple #[.bool true, .bool true]) ∧ Below W.heap.size W w'))
    (HX : Hid (∀ W, Calls Tryz.prog 25 #[.string s, .string t] W fun e w' => e = .returned (.tuple #[.string x, .bool true]) ∧ Below W.heap.size W w'))
    (HY : Hid (∀ W, Calls Tryz.prog 26 #[.string s, .string t] W fun e w' => e = .returned (.tuple #[.string y, .bool true]) ∧ Below W.heap.size W w')) :
    Calls Tryz.prog 4 #[.string s, .string t] w fun e w' => e = .returned (.bool true) ∧ Below w.heap.size w w' := by
  obtain rfl := hok.2.1 rfl
  have hyy := hok.2.2.1 rfl
  clear hok
  go_enter Tryz.func4, Tryz.ntmps4
  go_wp2_with fail
  refine (ready_any [s, t] _ _ (by simp) (fun i hi => ?_) (by simp) (fun i hi => ?_)).mono ?_
  · match i, hi with
    | 0, _ => show s.size ≤ _; omega
    | 1, _ => show t.size ≤ _; omega
  · match i, hi with
    | 0, _ => simp
    | 1, _ => simp
  rintro e w1 ⟨rd, rfl, hx, hb1⟩
  have hbel : Below w.heap.size w w1 := ((Below.refl _ _).alloc (Nat.le_refl _) _).trans (hb1.mono (by simp))
  have HB := hid hbel
  clear hbel hb1
  cases rd with
  | false =>
    go_wp2
    go_ret
    exact ⟨rfl, HB.out⟩
  | true =>
  clear hx
  go_wp2_with fail
  refine (HP.out _).mono ?_
  rintro e w2 ⟨rfl, hb2⟩
  have HB2 := hid (HB.out.trans (hb2.mono HB.out.size))
  clear HB hb2
  go_wp2_with fail
  refine (HS.out _).mono ?_
  rintro e w3 ⟨rfl, hb3⟩
  have HB3 := hid (HB2.out.trans (hb3.mono HB2.out.size))
  clear HB2 hb3
  go_wp2_with fail
  refine (HX.out _).mono ?_
  rintro e w4 ⟨rfl, hb4⟩
  have HB4 := hid (HB3.out.trans (hb4.mono HB3.out.size))
  clear HB3 hb4
  go_wp2_with fail
  refine (of_any _ _).mono ?_
  rintro e w5 ⟨rfl, rfl⟩
  go_wp2_with fail
  refine (HY.out _).mono ?_
  rintro e w6 ⟨rfl, hb6⟩
  have HB6 := hid (HB4.out.trans (hb6.mono HB4.out.size))
  clear HB4 hb6
  go_wp2_with fail
  refine (of_any _ _).mono ?_
  rintro e w7 ⟨rfl, rfl⟩
  go_wp2_with fail
  go_ret
  exact ⟨rfl, HB6.out⟩

set_option maxRecDepth 100000 in
set_option maxHeartbeats 4000000 in
theorem put_ff (s t x y : ByteArray) (w : World) (h1 : s.size ≤ 2147483647) (h2 : t.size ≤ 2147483647) (hxs : x.size ≤ 2147483647) (hys : y.size ≤ 2147483647) (hok : PutOk s t x y false false)
    (HP : Hid (∀ W, Calls Tryz.prog 19 #[.string s, .string t] W fun e w' => e = .returned (.tuple #[.bool false, .bool true]) ∧ Below W.heap.size W w'))
    (HS : Hid (∀ W, Calls Tryz.prog 20 #[.string s, .string t] W fun e w' => e = .returned (.tuple #[.bool false, .bool true]) ∧ Below W.heap.size W w'))
    (HX : Hid (∀ W, Calls Tryz.prog 25 #[.string s, .string t] W fun e w' => e = .returned (.tuple #[.string x, .bool true]) ∧ Below W.heap.size W w'))
    (HY : Hid (∀ W, Calls Tryz.prog 26 #[.string s, .string t] W fun e w' => e = .returned (.tuple #[.string y, .bool true]) ∧ Below W.heap.size W w')) :
    Calls Tryz.prog 4 #[.string s, .string t] w fun e w' => e = .returned (.bool true) ∧ Below w.heap.size w w' := by
  obtain rfl := hok.2.1 rfl
  have hyy := hok.2.2.2 rfl
  subst hyy
  clear hok
  go_enter Tryz.func4, Tryz.ntmps4
  go_wp2_with fail
  refine (ready_any [s, t] _ _ (by simp) (fun i hi => ?_) (by simp) (fun i hi => ?_)).mono ?_
  · match i, hi with
    | 0, _ => show s.size ≤ _; omega
    | 1, _ => show t.size ≤ _; omega
  · match i, hi with
    | 0, _ => simp
    | 1, _ => simp
  rintro e w1 ⟨rd, rfl, hx, hb1⟩
  have hbel : Below w.heap.size w w1 := ((Below.refl _ _).alloc (Nat.le_refl _) _).trans (hb1.mono (by simp))
  have HB := hid hbel
  clear hbel hb1
  cases rd with
  | false =>
    go_wp2
    go_ret
    exact ⟨rfl, HB.out⟩
  | true =>
  clear hx
  go_wp2_with fail
  refine (HP.out _).mono ?_
  rintro e w2 ⟨rfl, hb2⟩
  have HB2 := hid (HB.out.trans (hb2.mono HB.out.size))
  clear HB hb2
  go_wp2_with fail
  refine (HS.out _).mono ?_
  rintro e w3 ⟨rfl, hb3⟩
  have HB3 := hid (HB2.out.trans (hb3.mono HB2.out.size))
  clear HB2 hb3
  go_wp2_with fail
  refine (HX.out _).mono ?_
  rintro e w4 ⟨rfl, hb4⟩
  have HB4 := hid (HB3.out.trans (hb4.mono HB3.out.size))
  clear HB3 hb4
  go_wp2_with fail
  refine (of_any _ _).mono ?_
  rintro e w5 ⟨rfl, rfl⟩
  go_wp2_with fail
  refine (HY.out _).mono ?_
  rintro e w6 ⟨rfl, hb6⟩
  have HB6 := hid (HB4.out.trans (hb6.mono HB4.out.size))
  clear HB4 hb6
  go_wp2_with fail
  refine (of_any _ _).mono ?_
  rintro e w7 ⟨rfl, rfl⟩
  go_wp2_with fail
  go_ret
  exact ⟨rfl, HB6.out⟩

set_option maxRecDepth 100000 in
set_option maxHeartbeats 4000000 in
theorem fnTrimmedPut_any (s t : ByteArray) (w : World) :
    Calls Tryz.prog 4 #[.string s, .string t] w fun e w' => e = .returned (.bool true) ∧ Below w.heap.size w w' := by
  by_cases h1 : 2147483647 < s.size
  · go_enter Tryz.func4, Tryz.ntmps4
    go_wp2
    go_ret
    exact ⟨rfl, Below.refl _ _⟩
  by_cases h2 : 2147483647 < t.size
  · go_enter Tryz.func4, Tryz.ntmps4
    go_wp2
    go_ret
    exact ⟨rfl, Below.refl _ _⟩
  have HP := hid (fun W => startsWith_any s t W (by omega) (by omega))
  have HS := hid (fun W => endsWith_any s t W (by omega) (by omega))
  have HX := hid (fun W => trimPrefix_any s t W (by omega) (by omega))
  have HY := hid (fun W => trimSuffix_any s t W (by omega) (by omega))
  obtain ⟨x, hx⟩ : ∃ x : ByteArray, x = ⟨(Lib.trimPrefix s.data.toList t.data.toList).toArray⟩ := ⟨_, rfl⟩
  obtain ⟨y, hy⟩ : ∃ y : ByteArray, y = ⟨(Lib.trimSuffix s.data.toList t.data.toList).toArray⟩ := ⟨_, rfl⟩
  have hxs : x.size ≤ 2147483647 := by
    have := Lib.trimPrefix_le s.data.toList t.data.toList
    rw [← Lib.size_eq] at this
    rw [hx, Lib.size_eq]
    simpa using Nat.le_trans this (by omega)
  have hys : y.size ≤ 2147483647 := by
    have := Lib.trimSuffix_le s.data.toList t.data.toList
    rw [← Lib.size_eq] at this
    rw [hy, Lib.size_eq]
    simpa using Nat.le_trans this (by omega)
  rw [← hx] at HX
  rw [← hy] at HY
  have hok : PutOk s t x y (Lib.hasPrefix s.data.toList t.data.toList) (Lib.hasSuffix s.data.toList t.data.toList) :=
    ⟨put_prefix s t x hx, put_prefix_no s t x hx, put_suffix s t y hy, put_suffix_no s t y hy⟩
  cases ha : Lib.hasPrefix s.data.toList t.data.toList <;> cases hb : Lib.hasSuffix s.data.toList t.data.toList <;> rw [ha] at HP hok <;> rw [hb] at HS hok
  · exact put_ff s t x y w (by omega) (by omega) hxs hys hok HP HS HX HY
  · exact put_ft s t x y w (by omega) (by omega) hxs hys hok HP HS HX HY
  · exact put_tf s t x y w (by omega) (by omega) hxs hys hok HP HS HX HY
  · exact put_tt s t x y w (by omega) (by omega) hxs hys hok HP HS HX HY
end Go.Proofs.YtlallleahgfdkaaGreatDoor
