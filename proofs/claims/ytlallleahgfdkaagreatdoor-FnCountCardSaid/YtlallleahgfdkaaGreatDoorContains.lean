/- spec.Places, Starts, Ends: what the reference returns; and the law FnContains: called with any two strings of the form's reach it returns true, and makes new memory alone. -/
import Derived.Test.YtlallleahgfdkaaGreatDoorImpl1
import Derived.OwnWalk
namespace Go.Proofs.YtlallleahgfdkaaGreatDoor
open Go.RowKit

theorem Tryz.info3 : (Tryz.prog.info? 3).map (fun i => (i.zero, i.size, i.bytes)) = some (some (.int .i64 0), 1, 8) := by kernel_rfl

theorem mt_hp (s t : ByteArray) (k : Nat) : Lib.hasPrefix (s.extract k s.size).data.toList t.data.toList = Pl.mt s.data.toList t.data.toList k := by
  rw [Lib.extract_data, Lib.size_eq]
  unfold Lib.hasPrefix Pl.mt
  rw [List.take_of_length_le (by simp)]

set_option maxRecDepth 100000 in
set_option maxHeartbeats 1000000 in
theorem starts_any (s p : ByteArray) (w : World) :
    Calls Tryz.prog 59 #[.string s, .string p] w fun e w' => e = .returned (.bool (Lib.hasPrefix s.data.toList p.data.toList)) ∧ w = w' := by
  have H := hid (Lib.hasPrefix_raw s p)
  go_enter Tryz.func59, Tryz.ntmps59
  go_wp2
  all_goals go_ret
  all_goals (refine ⟨ret_bool ?_, rfl⟩; rw [← H.out]; simp [*])

set_option maxRecDepth 100000 in
set_option maxHeartbeats 1000000 in
theorem starts2_any (s p : ByteArray) (w : World) :
    Calls Tryz.prog 22 #[.string s, .string p] w fun e w' => e = .returned (.bool (Lib.hasPrefix s.data.toList p.data.toList)) ∧ w = w' := by
  go_enter Tryz.func22, Tryz.ntmps22
  go_wp2_with fail
  refine (starts_any _ _ _).mono ?_
  rintro e w' ⟨rfl, rfl⟩
  go_wp2
  go_ret
  exact ⟨rfl, rfl⟩

set_option maxRecDepth 100000 in
set_option maxHeartbeats 1000000 in
theorem ends_any (s p : ByteArray) (w : World) (hs : s.size ≤ 2147483647) (hp : p.size ≤ 2147483647) :
    Calls Tryz.prog 23 #[.string s, .string p] w fun e w' => e = .returned (.bool (Lib.hasSuffix s.data.toList p.data.toList)) ∧ w = w' := by
  have H := hid (Lib.hasSuffix_raw s p)
  by_cases h : p.size ≤ s.size
  · go_enter Tryz.func23, Tryz.ntmps23
    go_wp2
    go_ret
    refine ⟨ret_bool ?_, rfl⟩
    rw [← H.out]
    simp [h]
  · go_enter Tryz.func23, Tryz.ntmps23
    go_wp2
    go_ret
    refine ⟨ret_bool ?_, rfl⟩
    rw [← H.out]
    simp [h]

def PlacesPost (s t : ByteArray) (w : World) (e : Ending) (w' : World) : Prop :=
  ∃ a c, e = .returned (.slice a (Pl.nAt s.data.toList t.data.toList s.size) c) ∧ Below w.heap.size w w'

theorem slice_of_owns {w : World} {B : Nat} {e : TypeId} {size : Nat} {v : Value} {n : Nat} {xs : List Value} (h : w.ownsRow B e size v n xs) : ∃ a c, v = .slice a n c := by
  obtain ⟨_, ⟨h1, h2⟩ | ⟨g, cap, cur, h1, _⟩⟩ := h
  · subst h2; exact ⟨none, 0, h1⟩
  · exact ⟨_, _, h1⟩

set_option maxRecDepth 100000 in
set_option maxHeartbeats 2000000 in
theorem places_any (s t : ByteArray) (w : World) (hs : s.size ≤ 2147483647) :
    Calls Tryz.prog 21 #[.string s, .string t] w (PlacesPost s t w) := by
  obtain ⟨i0, hi, hz0, hz1, hz2⟩ := info_parts Tryz.info3
  go_enter Tryz.func21, Tryz.ntmps21
  go_wp2
  go_loopw [5, 9] (fun v i wr => ∃ (k n : Nat) (xs : List Value), k ≤ s.size ∧ i = .int .i64 k ∧ Hid (n = Pl.nAt s.data.toList t.data.toList k) ∧ wr.ownsRow w.heap.size 3 1 v n xs ∧ Below w.heap.size w wr)
    (fun _ i _ => s.size - (intOf i).toNat)
  case atStart => exact ⟨0, 0, [], Nat.zero_le _, rfl, rfl, World.ownsRow_nil _ _ _ _, Below.refl _ _⟩
  case round =>
    obtain ⟨k, n, xs, hk, rfl, HN, hown, hnx⟩ := hrel
    by_cases hlt : k < s.size
    · have hnk : n ≤ k := by rw [HN.out]; exact Pl.nAt_le _ _ _
      have HS := hid (Pl.nAt_succ s.data.toList t.data.toList k)
      have hst : ∀ W, Calls Tryz.prog 59 #[.string (s.extract k s.size), .string t] W fun e w' => e = .returned (.bool (Pl.mt s.data.toList t.data.toList k)) ∧ W = w' := by
        intro W; rw [← mt_hp]; exact starts_any _ _ _
      have HST := hid hst
      clear hst
      cases hm : Pl.mt s.data.toList t.data.toList k with
      | true =>
        rw [hm] at HST HS
        clear hm
        go_wp2_with (first
          | (go_at_call 59; refine (HST.out _).mono ?_; rintro e w' ⟨rfl, rfl⟩)
          | (at_builtin; refine wpList_append_own _ rfl _ _ 25 rfl w.heap.size 3 i0 (.int .i64 0) 1 8 Tryz.underlying25 hi hz0 hz1 hz2 rfl (by decide) _ _ _ rfl (hown.alloc _) ⟨wr.heap.size, 0, none⟩ 1 1 [.int .i64 k] rfl rfl ?c1 ?c2 ?c3 ?c4 ?c5 ?_))
        case c1 =>
          intro j u hj
          match j, hj with
          | 0, hj => simp at hj; subst hj; simp [Addr.add]
        case c2 => intro u hu; simp at hu; subst hu; rfl
        case c3 => unfold maxLen; omega
        case c4 => omega
        case c5 => have := hnx.size; simp; omega
        · intro v' w1 hown' hgrow _
          have hb1 : Below w.heap.size w w1 := (hnx.alloc hnx.size _).grown hgrow (by have := hnx.size; simp; omega) (fun j hj => (hown.lt j hj).1)
          clear hown hgrow hnx
          go_wp2
          go_roundw
          case rel => exact ⟨k + 1, n + 1, _, by omega, by go_num, by rw [HS.out, HN.out]; rfl, hown', hb1⟩
          case measure => simp [intOf]; omega
      | false =>
        rw [hm] at HST HS
        clear hm
        go_wp2_with (go_at_call 59; refine (HST.out _).mono ?_; rintro e w' ⟨rfl, rfl⟩)
        go_roundw
        case rel => exact ⟨k + 1, n, xs, by omega, by go_num, by rw [HS.out, HN.out]; rfl, hown, hnx⟩
        case measure => simp [intOf]; omega
    · have hks : k = s.size := by omega
      have HK := hid hks
      clear hks
      obtain ⟨a, c, HV⟩ := slice_of_owns hown
      have HV := hid HV
      go_wp2
      go_ret
      exact ⟨a, c, by rw [HV.out, HN.out, HK.out]; rfl, hnx⟩
end Go.Proofs.YtlallleahgfdkaaGreatDoor
