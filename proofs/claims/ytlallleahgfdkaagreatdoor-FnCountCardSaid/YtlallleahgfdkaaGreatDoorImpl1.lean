/- The thin package's functions over a text and another one: what impl.Contains, StartsWith, EndsWith, TrimPrefix, TrimSuffix return, for strings of at most 2^31 - 1 bytes: new memory alone is made. -/
import Derived.Test.YtlallleahgfdkaaGreatDoorBase
import Derived.Test.YtlallleahgfdkaaGreatDoorPlain
import Derived.Test.YtlallleahgfdkaaGreatDoorShelf
namespace Go.Proofs.YtlallleahgfdkaaGreatDoor
open Go.RowKit

/-! ### zzIndex, zzContains -/
theorem mt_raw (s t : ByteArray) (k : Nat) : Pl.mt s.data.toList t.data.toList k = ((s.extract k (k + t.size)).toList == t.toList) := by
  rw [Lib.extract_toList, Lib.toList_data, Lib.size_eq, show k + t.data.toList.length - k = t.data.toList.length by omega]
  unfold Pl.mt
  rw [Bool.eq_iff_iff, List.isPrefixOf_iff_prefix, beq_iff_eq, List.prefix_iff_eq_take]
  exact eq_comm

def IdxPost (s t : ByteArray) (w : World) (e : Ending) (w' : World) : Prop :=
  ∃ r : Int, e = .returned (.int .i64 r) ∧ decide (0 ≤ r) = Pl.hasIn s.data.toList t.data.toList ∧ w = w'

set_option maxRecDepth 100000 in
set_option maxHeartbeats 1000000 in
theorem zzIndex_any (s t : ByteArray) (w : World) (hs : s.size ≤ 2147483647) (ht : t.size ≤ 2147483647) :
    Calls Tryz.prog 144 #[.string s, .string t] w (IdxPost s t w) := by
  go_enter Tryz.func144, Tryz.ntmps144
  go_wp2
  go_loop [5] (fun j => ∃ k : Nat, k ≤ s.size + 1 ∧ j = .int .i64 k ∧ Hid (∀ i, i < k → Pl.mt s.data.toList t.data.toList i = false)) (fun j => s.size + 1 - (intOf j).toNat)
  case atStart => exact ⟨0, by omega, rfl, hid fun i hi => by omega⟩
  case round =>
    obtain ⟨k, hk, rfl, HN⟩ := hrel
    by_cases hlt : k + t.size ≤ s.size
    · cases hm : ((s.extract k (k + t.size)).toList == t.toList) with
      | true =>
        have HM := hid (show Pl.mt s.data.toList t.data.toList k = true by rw [mt_raw]; exact hm)
        go_wp2
        go_ret
        exact ⟨k, rfl, by rw [Pl.hasIn_of_mt HM.out (by rw [← Lib.size_eq]; omega)]; simp, rfl⟩
      | false =>
        have HM := hid (show Pl.mt s.data.toList t.data.toList k = false by rw [mt_raw]; exact hm)
        go_wp2
        go_round
        case rel => exact ⟨k + 1, by omega, by go_num, hid fun i hi => by
          by_cases hik : i = k
          · subst hik; exact HM.out
          · exact HN.out i (by omega)⟩
        case measure => simp [intOf]; omega
    · have HF := hid (show Pl.hasIn s.data.toList t.data.toList = false by
        refine Pl.hasIn_false HN.out (by rw [← Lib.size_eq, ← Lib.size_eq]; omega) ?_
        by_cases h0 : t.data.toList = []
        · right
          rw [← Lib.size_eq]; have e : t.size = 0 := by rw [Lib.size_eq, h0]; rfl
          omega
        · exact .inl h0)
      go_wp2
      go_ret
      exact ⟨-1, rfl, by rw [HF.out]; rfl, rfl⟩

set_option maxRecDepth 100000 in
set_option maxHeartbeats 1000000 in
theorem zzContains_any (s t : ByteArray) (w : World) (hs : s.size ≤ 2147483647) (ht : t.size ≤ 2147483647) :
    Calls Tryz.prog 112 #[.string s, .string t] w fun e w' => e = .returned (.bool (Pl.hasIn s.data.toList t.data.toList)) ∧ w = w' := by
  go_enter Tryz.func112, Tryz.ntmps112
  go_wp2_with fail
  refine (zzIndex_any _ _ _ hs ht).mono ?_
  rintro e w' ⟨r, rfl, hr, rfl⟩
  have HR := hid hr
  clear hr
  go_wp2
  go_ret
  exact ⟨ret_bool HR.out, rfl⟩

set_option maxRecDepth 100000 in
set_option maxHeartbeats 2000000 in
theorem contains_any (s t : ByteArray) (w : World) (_hs : s.size ≤ 2147483647) (_ht : t.size ≤ 2147483647) :
    Calls Tryz.prog 18 #[.string s, .string t] w fun e w' => e = .returned (.tuple #[.bool (Pl.hasIn s.data.toList t.data.toList), .bool true]) ∧ Below w.heap.size w w' := by
  go_enter Tryz.func18, Tryz.ntmps18
  go_wp2_with (first | (go_at_call 112; refine (zzContains_any s t _ _hs _ht).mono ?_; rintro e w' ⟨rfl, rfl⟩) | go_in)
  go_ret2
  refine ⟨rfl, ?_⟩
  repeat (first | exact Below.refl _ _ | (refine Below.drew ?_) | (refine Below.alloc ?_ (by simp; try omega) _) | (refine Below.setCell ?_ (by simp) _))

set_option maxRecDepth 100000 in
set_option maxHeartbeats 2000000 in
theorem startsWith_any (s t : ByteArray) (w : World) (_hs : s.size ≤ 2147483647) (_ht : t.size ≤ 2147483647) :
    Calls Tryz.prog 19 #[.string s, .string t] w fun e w' => e = .returned (.tuple #[.bool (Lib.hasPrefix s.data.toList t.data.toList), .bool true]) ∧ Below w.heap.size w w' := by
  go_enter Tryz.func19, Tryz.ntmps19
  go_wp2_with (first | (go_at_call 113; refine (Tryz.strings_HasPrefix s t _).mono ?_; rintro e w' ⟨rfl, rfl⟩) | go_in)
  go_ret2
  refine ⟨rfl, ?_⟩
  repeat (first | exact Below.refl _ _ | (refine Below.drew ?_) | (refine Below.alloc ?_ (by simp; try omega) _) | (refine Below.setCell ?_ (by simp) _))

set_option maxRecDepth 100000 in
set_option maxHeartbeats 2000000 in
theorem endsWith_any (s t : ByteArray) (w : World) (_hs : s.size ≤ 2147483647) (_ht : t.size ≤ 2147483647) :
    Calls Tryz.prog 20 #[.string s, .string t] w fun e w' => e = .returned (.tuple #[.bool (Lib.hasSuffix s.data.toList t.data.toList), .bool true]) ∧ Below w.heap.size w w' := by
  go_enter Tryz.func20, Tryz.ntmps20
  go_wp2_with (first | (go_at_call 114; refine (Tryz.strings_HasSuffix s t _ (by omega)).mono ?_; rintro e w' ⟨rfl, rfl⟩) | go_in)
  go_ret2
  refine ⟨rfl, ?_⟩
  repeat (first | exact Below.refl _ _ | (refine Below.drew ?_) | (refine Below.alloc ?_ (by simp; try omega) _) | (refine Below.setCell ?_ (by simp) _))

set_option maxRecDepth 100000 in
set_option maxHeartbeats 4000000 in
theorem trimPrefix_any (s t : ByteArray) (w : World) (_hs : s.size ≤ 2147483647) (_ht : t.size ≤ 2147483647) :
    Calls Tryz.prog 25 #[.string s, .string t] w fun e w' => e = .returned (.tuple #[.string ⟨(Lib.trimPrefix s.data.toList t.data.toList).toArray⟩, .bool true]) ∧ Below w.heap.size w w' := by
  have hc : ∀ W, Calls Tryz.prog 115 #[.string s, .string t] W fun e w' => e = .returned (.string ⟨(Lib.trimPrefix s.data.toList t.data.toList).toArray⟩) ∧ w' = W := fun W => Tryz.strings_TrimPrefix s t W
  obtain ⟨x, hx⟩ : ∃ x : ByteArray, x = ⟨(Lib.trimPrefix s.data.toList t.data.toList).toArray⟩ := ⟨_, rfl⟩
  rw [← hx] at hc ⊢
  clear hx
  have HC := hid hc
  clear hc
  cases he : (x.toList == s.toList) with
  | true =>
    have hxs : x = s := by
      rw [beq_iff_eq, Lib.toList_data, Lib.toList_data] at he
      rw [← Lib.mk_data x, he, Lib.mk_data]
    subst hxs
    clear he
    go_enter Tryz.func25, Tryz.ntmps25
    go_wp2_with (first | (go_at_call 115; refine (HC.out _).mono ?_; rintro e w' ⟨rfl, rfl⟩) | go_in)
    go_ret2
    refine ⟨rfl, ?_⟩
    repeat (first | exact Below.refl _ _ | (refine Below.drew ?_) | (refine Below.alloc ?_ (by simp; try omega) _) | (refine Below.setCell ?_ (by simp) _))
  | false =>
    go_enter Tryz.func25, Tryz.ntmps25
    go_wp2_with (first | (go_at_call 115; refine (HC.out _).mono ?_; rintro e w' ⟨rfl, rfl⟩) | go_in)
    go_ret2
    refine ⟨rfl, ?_⟩
    repeat (first | exact Below.refl _ _ | (refine Below.drew ?_) | (refine Below.alloc ?_ (by simp; try omega) _) | (refine Below.setCell ?_ (by simp) _))

set_option maxRecDepth 100000 in
set_option maxHeartbeats 4000000 in
theorem trimSuffix_any (s t : ByteArray) (w : World) (_hs : s.size ≤ 2147483647) (_ht : t.size ≤ 2147483647) :
    Calls Tryz.prog 26 #[.string s, .string t] w fun e w' => e = .returned (.tuple #[.string ⟨(Lib.trimSuffix s.data.toList t.data.toList).toArray⟩, .bool true]) ∧ Below w.heap.size w w' := by
  have hc : ∀ W, Calls Tryz.prog 117 #[.string s, .string t] W fun e w' => e = .returned (.string ⟨(Lib.trimSuffix s.data.toList t.data.toList).toArray⟩) ∧ w' = W := fun W => Tryz.strings_TrimSuffix s t W (by omega)
  obtain ⟨x, hx⟩ : ∃ x : ByteArray, x = ⟨(Lib.trimSuffix s.data.toList t.data.toList).toArray⟩ := ⟨_, rfl⟩
  rw [← hx] at hc ⊢
  clear hx
  have HC := hid hc
  clear hc
  cases he : (x.toList == s.toList) with
  | true =>
    have hxs : x = s := by
      rw [beq_iff_eq, Lib.toList_data, Lib.toList_data] at he
      rw [← Lib.mk_data x, he, Lib.mk_data]
    subst hxs
    clear he
    go_enter Tryz.func26, Tryz.ntmps26
    go_wp2_with (first | (go_at_call 117; refine (HC.out _).mono ?_; rintro e w' ⟨rfl, rfl⟩) | go_in)
    go_ret2
    refine ⟨rfl, ?_⟩
    repeat (first | exact Below.refl _ _ | (refine Below.drew ?_) | (refine Below.alloc ?_ (by simp; try omega) _) | (refine Below.setCell ?_ (by simp) _))
  | false =>
    go_enter Tryz.func26, Tryz.ntmps26
    go_wp2_with (first | (go_at_call 117; refine (HC.out _).mono ?_; rintro e w' ⟨rfl, rfl⟩) | go_in)
    go_ret2
    refine ⟨rfl, ?_⟩
    repeat (first | exact Below.refl _ _ | (refine Below.drew ?_) | (refine Below.alloc ?_ (by simp; try omega) _) | (refine Below.setCell ?_ (by simp) _))
end Go.Proofs.YtlallleahgfdkaaGreatDoor
