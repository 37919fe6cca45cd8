/- impl.Count at a needle that is not empty: the number. -/
import Derived.Test.YtlallleahgfdkaaGreatDoorCount
import Derived.Test.YtlallleahgfdkaaGreatDoorNum
import Derived.Test.YtlallleahgfdkaaGreatDoorTrimImpl
namespace Go.Proofs.YtlallleahgfdkaaGreatDoor
open Go.RowKit

set_option maxRecDepth 100000 in
set_option maxHeartbeats 4000000 in
theorem count_num (s t : ByteArray) (c : Nat) (hc : c ≤ 2147483647) (w : World) (HT : Hid (PowAt w))
    (HZ : Hid (∀ W, Calls Tryz.prog 126 #[.string s, .string t] W fun e w' => e = .returned (.int .i64 c) ∧ W = w')) :
    Calls Tryz.prog 43 #[.string s, .string t] w fun e w' => e = .returned (.tuple #[.int .i64 c, .bool true]) ∧ Below w.heap.size w w' := by
  go_enter Tryz.func43, Tryz.ntmps43
  go_wp2_with (first
    | (go_at_call 126; refine (HZ.out _).mono ?_; rintro e w9 ⟨rfl, rfl⟩)
    | (go_at_call 176; refine (itoa_any _ (by omega) (by omega) _ (HT.out.of (by repeat (first | exact Below.refl _ _ | refine Below.alloc ?_ (by first | omega | (simp; done) | (simp; omega)) _)))).mono ?_; rintro e w1 ⟨rfl, hb1⟩; obtain ⟨hc1, hf1⟩ := bcell hb1; obtain ⟨hr1, hs1, hz1, hr2, hs2⟩ := after2 hb1)
    | (go_at_call 163; refine (atoi_itoa _ (by omega) (by omega) _).mono ?_; rintro e w2 ⟨rfl, hb2⟩)
    | go_in)
  go_ret2
  refine ⟨rfl, ?_⟩
  repeat (first | exact Below.refl _ _ | (refine Below.drew ?_) | (refine Below.alloc ?_ (by first | omega | (simp; done) | (simp; omega)) _) | (refine Below.setCell ?_ (by first | omega | (simp; done) | (simp; omega)) _) | (refine Below.trans ?_ (hb2.mono (by first | omega | (simp; done) | (simp; omega)))) | (refine Below.trans ?_ (hb1.mono (by first | omega | (simp; done) | (simp; omega)))))
theorem count_any (s t : ByteArray) (w : World) (hs : s.size ≤ 2147483647) (ht : t.size ≤ 2147483647) (h1 : 1 ≤ t.size) (HT : PowAt w) :
    Calls Tryz.prog 43 #[.string s, .string t] w fun e w' => e = .returned (.tuple #[.int .i64 (Pl.cntFrom s.data.toList t.data.toList 0 : Nat), .bool true]) ∧ Below w.heap.size w w' :=
  count_num s t _ (Nat.le_trans (Pl.cntFrom_le _ _ _) (by rw [← Lib.size_eq]; omega)) w HT (hid fun W => zzCount_any s t W hs ht h1)
end Go.Proofs.YtlallleahgfdkaaGreatDoor
