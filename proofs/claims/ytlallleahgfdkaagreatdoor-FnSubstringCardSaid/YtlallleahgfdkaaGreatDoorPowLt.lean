/- Where the table of powers of ten reads as laid, it reads so in every world that the laws' walks lead to. -/
import Derived.Test.YtlallleahgfdkaaGreatDoorNum
import Derived.ChangeBears2
namespace Go.Proofs.YtlallleahgfdkaaGreatDoor
open Go.RowKit
theorem powAt_laid {W : World} (h : Lib.TabIs Tryz.prog W "internal/strconv.uint64pow10" .u64 Lib.pow10Tab) : Hid (PowAt W) := by
  refine hid (powAt_of ?_ h)
  have hc := World.var?_cell gPow' h 0
  rcases Nat.lt_or_ge 5 W.heap.size with h1 | h1
  · exact h1
  · simp [World.cell?, Array.getElem?_eq_none h1, Lib.pow10Tab] at hc
end Go.Proofs.YtlallleahgfdkaaGreatDoor
