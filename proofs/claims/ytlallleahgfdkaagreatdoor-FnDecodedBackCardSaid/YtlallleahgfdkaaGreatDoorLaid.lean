/- What the rows' lists of package-level variables give the walks: the error in encoding/hex.ErrLength is not nil; the table internal/strconv.uint64pow10 is what the text says. -/
import Derived.Test.YtlallleahgfdkaaGreatDoorRows
import Derived.ProofKit
import Derived.LaidMore
import Derived.Stop.Joined
import Derived.Stop.LaidErr
import Derived.Lib.LaidTab
import Derived.Lib.ItoaMem
namespace Go.Proofs.YtlallleahgfdkaaGreatDoor
open Go.RowKit

theorem lt_of_cell {W : World} {b o : Nat} {v : Value} (h : W.cell? ⟨b, o, none⟩ = some v) : b < W.heap.size := by
  rcases Nat.lt_or_ge b W.heap.size with h1 | h1
  · exact h1
  · simp [World.cell?, Array.getElem?_eq_none h1] at h
theorem gErr : Tryz.prog.globalNamed "encoding/hex.ErrLength" = some 0 := by kernel_rfl
theorem gErrType : (Tryz.prog.globals[0]?).map (·.type) = some 51 := by kernel_rfl
theorem gPow : Tryz.prog.globalNamed "internal/strconv.uint64pow10" = some 5 := by kernel_rfl

theorem err_of {W : World} {d : DataW Unit} {nm : String} {r : List (String × DataW Unit)} (h : laidMet Tryz.prog (("encoding/hex.ErrLength", .iface nm d) :: r) W) :
    0 < W.heap.size ∧ ∃ u y, W.cell? ⟨0, 0, none⟩ = some (.iface u y) := by
  obtain ⟨ps, ⟨g0, t0, cs0, f0, p0, q0, hg0, ht0, hv0, hd0, _, _⟩, _, _⟩ := h
  obtain rfl := Option.some.inj (gErr.symm.trans hg0)
  obtain rfl := Option.some.inj (gErrType.symm.trans ht0)
  obtain ⟨f1, u, v, hcs, _, _⟩ := iface_of_trod Tryz.underlying51 hd0
  have hc : W.cell? ⟨0, 0, none⟩ = some (.iface u v) := by
    have := World.var?_cell hg0 hv0 0
    obtain ⟨l0⟩ := cs0
    simp only at hcs
    subst hcs
    simpa using this
  exact ⟨lt_of_cell hc, u, v, hc⟩
theorem err_decodeHex {W : World} (h : laidMetH Tryz.prog Rows.fnDecodeHexRow.laid W) : 0 < W.heap.size ∧ ∃ u y, W.cell? ⟨0, 0, none⟩ = some (.iface u y) := by
  rw [MakeChecks.laidMetH_plain _ _ _ (by kernel_rfl)] at h
  have h1 : laidMet Tryz.prog (_ :: _ :: _ :: _ :: ("encoding/hex.ErrLength", .iface _ _) :: _) W := h
  exact err_of h1.tail.tail.tail.tail
theorem err_decodedBack {W : World} (h : laidMetH Tryz.prog Rows.fnDecodedBackRow.laid W) : 0 < W.heap.size ∧ ∃ u y, W.cell? ⟨0, 0, none⟩ = some (.iface u y) := by
  rw [MakeChecks.laidMetH_plain _ _ _ (by kernel_rfl)] at h
  have h1 : laidMet Tryz.prog (_ :: _ :: _ :: ("encoding/hex.ErrLength", .iface _ _) :: _) W := h
  exact err_of h1.tail.tail.tail

theorem pow_of {W : World} {r : List (String × DataW Unit)} (h : laidMet Tryz.prog (("internal/strconv.uint64pow10", Lib.tabData .u64 Lib.pow10Tab) :: r) W) : Lib.TabIs Tryz.prog W "internal/strconv.uint64pow10" .u64 Lib.pow10Tab := by
  exact Lib.tabIs_of_head (t := 203) (e := 142) (n := 20) gPow (by kernel_rfl) Tryz.underlying203 Tryz.underlying142 (by kernel_rfl) (by kernel_rfl) h
theorem pow_fnCount {W : World} (h : laidMetH Tryz.prog Rows.fnCountRow.laid W) : Lib.TabIs Tryz.prog W "internal/strconv.uint64pow10" .u64 Lib.pow10Tab := by
  rw [MakeChecks.laidMetH_plain _ _ _ (by kernel_rfl)] at h
  have h1 : laidMet Tryz.prog (_ :: _ :: ("internal/strconv.uint64pow10", Lib.tabData .u64 Lib.pow10Tab) :: _) W := h
  exact pow_of h1.tail.tail
theorem pow_fnInParts {W : World} (h : laidMetH Tryz.prog Rows.fnInPartsRow.laid W) : Lib.TabIs Tryz.prog W "internal/strconv.uint64pow10" .u64 Lib.pow10Tab := by
  rw [MakeChecks.laidMetH_plain _ _ _ (by kernel_rfl)] at h
  have h1 : laidMet Tryz.prog (_ :: _ :: ("internal/strconv.uint64pow10", Lib.tabData .u64 Lib.pow10Tab) :: _) W := h
  exact pow_of h1.tail.tail
theorem pow_fnSubstring {W : World} (h : laidMetH Tryz.prog Rows.fnSubstringRow.laid W) : Lib.TabIs Tryz.prog W "internal/strconv.uint64pow10" .u64 Lib.pow10Tab := by
  rw [MakeChecks.laidMetH_plain _ _ _ (by kernel_rfl)] at h
  have h1 : laidMet Tryz.prog (_ :: _ :: ("internal/strconv.uint64pow10", Lib.tabData .u64 Lib.pow10Tab) :: _) W := h
  exact pow_of h1.tail.tail
end Go.Proofs.YtlallleahgfdkaaGreatDoor
