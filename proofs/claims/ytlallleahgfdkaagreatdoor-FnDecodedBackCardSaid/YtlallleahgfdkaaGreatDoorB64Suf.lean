/- The plain law of the padding sign: where an encoding ends in one, and what is lacking behind an unpadded one. -/
import Derived.Test.YtlallleahgfdkaaGreatDoorB64New
namespace Go.Proofs.YtlallleahgfdkaaGreatDoor
open Go.RowKit

/-! ### The padding sign at the end -/
theorem suf_last (x : ByteArray) (h : 0 < x.size) : Lib.hasSuffix x.data.toList [61] = decide (bv x (x.size - 1) = 61) := by
  have hl : x.data.toList.length = x.size := (Lib.size_eq x).symm
  rw [← Lib.hasSuffix_of_drop, bv_at x _ (by omega)]
  have e : x.data.toList.drop (x.data.toList.length - [(61 : UInt8)].length) = [x[x.size - 1]] := by
    rw [show x.data.toList.length - [(61 : UInt8)].length = x.size - 1 by rw [hl]; rfl, List.drop_eq_getElem_cons (by omega), List.drop_of_length_le (by omega)]
    rfl
  rw [e, decide_eq_true (show [(61 : UInt8)].length ≤ x.data.toList.length by rw [hl]; exact h), Bool.true_and, Bool.eq_iff_iff, beq_iff_eq, decide_eq_true_iff]
  constructor
  · intro hh
    rw [(List.cons.inj hh).1]
    rfl
  · intro hh
    rw [show x[x.size - 1] = 61 from UInt8.toNat_inj.1 hh]
theorem suf_none (x : ByteArray) (h : x.size = 0) : Lib.hasSuffix x.data.toList [61] = false := by
  have : x.data.toList = [] := List.length_eq_zero_iff.1 (by rw [← Lib.size_eq]; exact h)
  rw [this]
  rfl
theorem sig_ne (al s : ByteArray) (ha : Alpha al) (i : Nat) (h : i % 4 ≤ 1 ∨ 3 * (i / 4) + i % 4 ≤ s.size) : encN al s i ≠ 61 := by
  unfold encN
  rw [if_pos h]
  exact (ha.ok _ (sxv_lt _ _ (qv_lt s _))).2.2.2
/-- How many signs the encoding has without padding. -/
def noLen (s : ByteArray) : Nat := s.size / 3 * 4 + (s.size % 3 * 8 + 5) / 6
def padLen (s : ByteArray) : Nat := (s.size + 2) / 3 * 4
theorem suf_no (al s : ByteArray) (ha : Alpha al) : Lib.hasSuffix (encS al s (noLen s)).data.toList [61] = false := by
  unfold noLen
  by_cases h0 : s.size = 0
  · exact suf_none _ (by rw [encS_size]; omega)
  · rw [suf_last _ (by rw [encS_size]; omega), encS_size, encS_at _ _ _ _ (by omega)]
    exact decide_eq_false (sig_ne al s ha _ (by omega))
theorem suf_pad0 (al s : ByteArray) (ha : Alpha al) (h : s.size % 3 = 0) : Lib.hasSuffix (encS al s (padLen s)).data.toList [61] = false := by
  rw [show padLen s = noLen s by unfold padLen noLen; omega]
  exact suf_no al s ha
theorem suf_pad (al s : ByteArray) (h : s.size % 3 ≠ 0) : Lib.hasSuffix (encS al s (padLen s)).data.toList [61] = true := by
  unfold padLen
  rw [suf_last _ (by rw [encS_size]; omega), encS_size, encS_at _ _ _ _ (by omega)]
  refine decide_eq_true ?_
  unfold encN
  rw [if_neg (by omega)]
theorem bv_append (x y : ByteArray) (i : Nat) : bv (x ++ y) i = if i < x.size then bv x i else bv y (i - x.size) := by
  have hs : (x ++ y).size = x.size + y.size := ByteArray.size_append
  by_cases h : i < x.size
  · rw [if_pos h, bv_at _ i (by omega), bv_at _ i h, ByteArray.getElem_append_left h]
  · rw [if_neg h]
    by_cases h2 : i < x.size + y.size
    · rw [bv_at _ i (by omega), bv_at y (i - x.size) (by omega), ByteArray.getElem_append_right (by omega)]
    · rw [bv_end _ i (by omega), bv_end y _ (by omega)]
theorem no_two (al s : ByteArray) (h : s.size % 3 = 1) : encS al s (noLen s) ++ ⟨#[61, 61]⟩ = encS al s (padLen s) := by
  refine ext_bv _ _ ?_ (fun i hi => ?_)
  · rw [ByteArray.size_append, encS_size, encS_size, show (⟨#[61, 61]⟩ : ByteArray).size = 2 from rfl]; unfold noLen padLen; omega
  · rw [ByteArray.size_append, encS_size, show (⟨#[61, 61]⟩ : ByteArray).size = 2 from rfl] at hi
    rw [bv_append, encS_size, encS_at al s (padLen s) i (by unfold noLen at hi; unfold padLen; omega)]
    by_cases hl : i < noLen s
    · rw [if_pos hl, encS_at _ _ _ _ hl]
    · rw [if_neg hl]
      have h2 : encN al s i = 61 := by unfold noLen at hi hl; unfold encN; rw [if_neg (by omega)]
      have h3 : i - noLen s = 0 ∨ i - noLen s = 1 := by omega
      rw [h2]
      rcases h3 with h3 | h3 <;> rw [h3] <;> rfl
theorem no_one (al s : ByteArray) (h : s.size % 3 = 2) : encS al s (noLen s) ++ ⟨#[61]⟩ = encS al s (padLen s) := by
  refine ext_bv _ _ ?_ (fun i hi => ?_)
  · rw [ByteArray.size_append, encS_size, encS_size, show (⟨#[61]⟩ : ByteArray).size = 1 from rfl]; unfold noLen padLen; omega
  · rw [ByteArray.size_append, encS_size, show (⟨#[61]⟩ : ByteArray).size = 1 from rfl] at hi
    rw [bv_append, encS_size, encS_at al s (padLen s) i (by unfold noLen at hi; unfold padLen; omega)]
    by_cases hl : i < noLen s
    · rw [if_pos hl, encS_at _ _ _ _ hl]
    · rw [if_neg hl]
      have h2 : encN al s i = 61 := by unfold noLen at hi hl; unfold encN; rw [if_neg (by omega)]
      rw [h2, show i - noLen s = 0 by omega]
      rfl
theorem no_zero (al s : ByteArray) (h : s.size % 3 = 0) : encS al s (noLen s) = encS al s (padLen s) := by
  rw [show padLen s = noLen s by unfold padLen noLen; omega]

end Go.Proofs.YtlallleahgfdkaaGreatDoor
