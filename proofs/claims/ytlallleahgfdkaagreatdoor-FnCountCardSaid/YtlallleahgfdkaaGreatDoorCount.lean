/- zzCount at a needle that is not empty, spec.Split's number of parts: both by Pl.cntFrom. -/
import Derived.Test.YtlallleahgfdkaaGreatDoorContains
namespace Go.Proofs.YtlallleahgfdkaaGreatDoor
open Go.RowKit

theorem Tryz.info9 : (Tryz.prog.info? 9).map (fun i => (i.zero, i.size, i.bytes)) = some (some (.string ⟨#[]⟩), 1, 16) := by kernel_rfl
theorem ne_nil {t : ByteArray} (h : 1 ≤ t.size) : t.data.toList ≠ [] := by
  intro e; rw [Lib.size_eq, e] at h; simp at h

set_option maxRecDepth 100000 in
set_option maxHeartbeats 4000000 in
theorem zzCount_any (s t : ByteArray) (w : World) (hs : s.size ≤ 2147483647) (ht : t.size ≤ 2147483647) (h1 : 1 ≤ t.size) :
    Calls Tryz.prog 126 #[.string s, .string t] w fun e w' => e = .returned (.int .i64 (Pl.cntFrom s.data.toList t.data.toList 0 : Nat)) ∧ w = w' := by
  have q0 : ((t.size : Int) == 0) = false := beq_eq_false_iff_ne.2 (by omega)
  have HC0 := hid (Pl.cntFrom_le s.data.toList t.data.toList 0)
  go_enter Tryz.func126, Tryz.ntmps126
  go_wp2
  go_loop [5, 6] (fun n i => ∃ k c : Nat, k ≤ s.size ∧ i = .int .i64 k ∧ n = .int .i64 c ∧ Hid (c + Pl.cntFrom s.data.toList t.data.toList k = Pl.cntFrom s.data.toList t.data.toList 0)) (fun _ i => s.size - (intOf i).toNat)
  case atStart => exact ⟨0, 0, Nat.zero_le _, rfl, rfl, hid (Nat.zero_add _)⟩
  case round =>
    obtain ⟨k, c, hk, rfl, rfl, HN⟩ := hrel
    have hc : c ≤ 2147483647 := by
      have := HN.out; have := HC0.out; rw [← Lib.size_eq] at this; omega
    by_cases hlt : k + t.size ≤ s.size
    · cases hm : ((s.extract k (k + t.size)).toList == t.toList) with
      | true =>
        have HM := hid (Pl.cntFrom_hit s.data.toList t.data.toList k (ne_nil h1) (by rw [mt_raw]; exact hm))
        go_wp2
        go_round
        case rel => exact ⟨k + t.size, c + 1, by omega, by go_num, by go_num, hid (by
          have h2 := HN.out; rw [HM.out, ← Lib.size_eq] at h2; omega)⟩
        case measure => simp [intOf]; omega
      | false =>
        have HM := hid (Pl.cntFrom_miss s.data.toList t.data.toList k (ne_nil h1) (by rw [mt_raw]; exact hm))
        go_wp2
        go_round
        case rel => exact ⟨k + 1, c, by omega, by go_num, rfl, hid (by
          have h2 := HN.out; rw [HM.out] at h2; exact h2)⟩
        case measure => simp [intOf]; omega
    · have HE := hid (Pl.cntFrom_end s.data.toList t.data.toList k (by rw [← Lib.size_eq, ← Lib.size_eq]; omega) (ne_nil h1))
      go_wp2
      go_ret
      exact ⟨ret_int (by have h2 := HN.out; rw [HE.out] at h2; omega), rfl⟩

def SplitPost (s t : ByteArray) (w : World) (e : Ending) (w' : World) : Prop :=
  ∃ a c, e = .returned (.slice a (Pl.cntFrom s.data.toList t.data.toList 0 + 1) c) ∧ Below w.heap.size w w'

set_option maxRecDepth 100000 in
set_option maxHeartbeats 4000000 in
theorem split_any (s t : ByteArray) (w : World) (hs : s.size ≤ 2147483647) (ht : t.size ≤ 2147483647) (h1 : 1 ≤ t.size) :
    Calls Tryz.prog 44 #[.string s, .string t] w (SplitPost s t w) := by
  obtain ⟨i0, hi, hz0, hz1, hz2⟩ := info_parts Tryz.info9
  have HC0 := hid (Pl.cntFrom_le s.data.toList t.data.toList 0)
  go_enter Tryz.func44, Tryz.ntmps44
  go_wp2
  go_loopw [5, 6, 7] (fun v f i wr => ∃ (k n g : Nat) (xs : List Value), k ≤ s.size ∧ g ≤ k ∧ i = .int .i64 k ∧ f = .int .i64 g ∧ Hid (n + Pl.cntFrom s.data.toList t.data.toList k = Pl.cntFrom s.data.toList t.data.toList 0) ∧ wr.ownsRow w.heap.size 9 1 v n xs ∧ Below w.heap.size w wr)
    (fun _ _ i _ => s.size - (intOf i).toNat)
  case atStart => exact ⟨0, 0, 0, [], Nat.zero_le _, Nat.le_refl _, rfl, rfl, hid (Nat.zero_add _), World.ownsRow_nil _ _ _ _, Below.refl _ _⟩
  case round =>
    obtain ⟨k, n, g, xs, hk, hg, rfl, rfl, HN, hown, hnx⟩ := hrel
    have hnk : n ≤ 2147483647 := by
      have := HN.out; have := HC0.out; rw [← Lib.size_eq] at this; omega
    by_cases hlt : k < s.size
    · have hst : ∀ W, Calls Tryz.prog 59 #[.string (s.extract k s.size), .string t] W fun e w' => e = .returned (.bool (Pl.mt s.data.toList t.data.toList k)) ∧ W = w' := by
        intro W; rw [← mt_hp]; exact starts_any _ _ _
      have HST := hid hst
      clear hst
      cases hm : Pl.mt s.data.toList t.data.toList k with
      | true =>
        have hkt : k + t.size ≤ s.size := by have := Pl.mt_len hm; rw [← Lib.size_eq, ← Lib.size_eq] at this; omega
        have HM := hid (Pl.cntFrom_hit s.data.toList t.data.toList k (ne_nil h1) hm)
        rw [hm] at HST
        clear hm
        go_wp2_with (first
          | (go_at_call 59; refine (HST.out _).mono ?_; rintro e w' ⟨rfl, rfl⟩)
          | (at_builtin; refine wpList_append_own _ rfl _ _ 41 rfl w.heap.size 9 i0 (.string ⟨#[]⟩) 1 16 Tryz.underlying41 hi hz0 hz1 hz2 rfl (by decide) _ _ _ rfl (hown.alloc _) ⟨wr.heap.size, 0, none⟩ 1 1 [.string (s.extract g k)] rfl rfl ?c1 ?c2 ?c3 ?c4 ?c5 ?_))
        case c1 =>
          intro j u hj
          match j, hj with
          | 0, hj => simp at hj; subst hj; simp [Addr.add]
        case c2 => intro u hu; simp at hu; subst hu; rfl
        case c3 => unfold maxLen; omega
        case c4 => omega
        case c5 => have := hnx.size; simp; omega
        · intro v' w1 hown' hgrow _
          have hb1 : Below w.heap.size w w1 := (hnx.alloc hnx.size _).grown hgrow (by have := hnx.size; simp; omega) (fun j hj => (hown.lt j hj).1)
          clear hown hgrow hnx
          go_wp2
          go_roundw
          case rel => exact ⟨k + t.size, n + 1, k + t.size, _, by omega, by omega, by go_num, by go_num, hid (by
            have h2 := HN.out; rw [HM.out, ← Lib.size_eq] at h2; omega), hown', hb1⟩
          case measure => simp [intOf]; omega
      | false =>
        have HM := hid (Pl.cntFrom_miss s.data.toList t.data.toList k (ne_nil h1) hm)
        rw [hm] at HST
        clear hm
        go_wp2_with (go_at_call 59; refine (HST.out _).mono ?_; rintro e w' ⟨rfl, rfl⟩)
        go_roundw
        case rel => exact ⟨k + 1, n, g, xs, by omega, by omega, by go_num, rfl, hid (by
            have h2 := HN.out; rw [HM.out] at h2; exact h2), hown, hnx⟩
        case measure => simp [intOf]; omega
    · have HE := hid (Pl.cntFrom_end s.data.toList t.data.toList k (by rw [← Lib.size_eq, ← Lib.size_eq]; omega) (ne_nil h1))
      go_wp2_with (at_builtin; refine wpList_append_own _ rfl _ _ 41 rfl w.heap.size 9 i0 (.string ⟨#[]⟩) 1 16 Tryz.underlying41 hi hz0 hz1 hz2 rfl (by decide) _ _ _ rfl (hown.alloc _) ⟨wr.heap.size, 0, none⟩ 1 1 [.string (s.extract g s.size)] rfl rfl ?c1 ?c2 ?c3 ?c4 ?c5 ?_)
      case c1 =>
        intro j u hj
        match j, hj with
        | 0, hj => simp at hj; subst hj; simp [Addr.add]
      case c2 => intro u hu; simp at hu; subst hu; rfl
      case c3 => unfold maxLen; omega
      case c4 => omega
      case c5 => have := hnx.size; simp; omega
      · intro v' w1 hown' hgrow _
        have hb1 : Below w.heap.size w w1 := (hnx.alloc hnx.size _).grown hgrow (by have := hnx.size; simp; omega) (fun j hj => (hown.lt j hj).1)
        clear hown hgrow hnx
        obtain ⟨a, c, HV⟩ := slice_of_owns hown'
        have HV := hid HV
        clear hown'
        go_wp2
        go_ret
        refine ⟨a, c, ?_, hb1⟩
        rw [HV.out]
        have h2 := HN.out
        rw [HE.out] at h2
        rw [← h2]; rfl
end Go.Proofs.YtlallleahgfdkaaGreatDoor
