/- Plain laws over lists of bytes, with no program in sight: where a string stands in another one, counting without overlap, trimming. No condition. -/
import Derived.Lib.Strings
import Derived.Lib.Case
namespace Go.Proofs.YtlallleahgfdkaaGreatDoor
namespace Pl

/-- t stands in s at index i. -/
def mt (s t : List UInt8) (i : Nat) : Bool := t.isPrefixOf (s.drop i)

theorem mt_len {s t : List UInt8} {i : Nat} (h : mt s t i = true) : t.length ≤ s.length - i := by
  unfold mt at h
  have := (List.isPrefixOf_iff_prefix.1 h).length_le
  simpa using this

theorem mt_out (s t : List UInt8) (i : Nat) (h : s.length < i + t.length) (ht : t ≠ []) : mt s t i = false := by
  cases hm : mt s t i with
  | false => rfl
  | true =>
    have := mt_len hm
    have : 0 < t.length := List.length_pos_iff.2 ht
    omega

/-- t stands in s. -/
def hasIn (s t : List UInt8) : Bool := (List.range (s.length + 1)).any (mt s t)

/-- How many of the first k indices t stands at. -/
def nAt (s t : List UInt8) (k : Nat) : Nat := ((List.range k).filter (mt s t)).length

theorem nAt_succ (s t : List UInt8) (k : Nat) : nAt s t (k + 1) = nAt s t k + if mt s t k then 1 else 0 := by
  unfold nAt
  rw [List.range_succ, List.filter_append, List.length_append]
  congr 1
  by_cases h : mt s t k <;> simp [h]

theorem nAt_le (s t : List UInt8) (k : Nat) : nAt s t k ≤ k := by
  unfold nAt
  exact Nat.le_trans (List.length_filter_le _ _) (by simp)

theorem any_lt_succ (s t : List UInt8) (k : Nat) : (List.range (k + 1)).any (mt s t) = ((List.range k).any (mt s t) || mt s t k) := by
  rw [List.range_succ, List.any_append]
  simp

theorem hasIn_of_mt {s t : List UInt8} {i : Nat} (h : mt s t i = true) (hi : i ≤ s.length) : hasIn s t = true := by
  unfold hasIn
  rw [List.any_eq_true]
  exact ⟨i, by simp; omega, h⟩

theorem hasIn_false {s t : List UInt8} {k : Nat} (h : ∀ j, j < k → mt s t j = false) (hk : s.length < k + t.length) (ht : t ≠ [] ∨ s.length < k) : hasIn s t = false := by
  unfold hasIn
  rw [List.any_eq_false]
  intro i hi
  have hi' : i < s.length + 1 := by simpa using hi
  by_cases hik : i < k
  · simp [h i hik]
  · rcases ht with ht | ht
    · rw [mt_out s t i (by omega) ht]; simp
    · omega

theorem hasIn_nAt (s t : List UInt8) (ht : t ≠ []) : hasIn s t = decide (0 < nAt s t s.length) := by
  unfold hasIn nAt
  rw [any_lt_succ, mt_out s t s.length (by have : 0 < t.length := List.length_pos_iff.2 ht; omega) ht, Bool.or_false, Bool.eq_iff_iff, List.any_eq_true, decide_eq_true_eq, List.length_pos_iff_exists_mem]
  simp

/-- How often t stands in l without overlap, from the left (f: as many steps as l has bytes). -/
def cnt (t : List UInt8) : Nat → List UInt8 → Nat
  | 0, _ => 0
  | f + 1, l => if l.length < t.length then 0 else if t.isPrefixOf l then 1 + cnt t f (l.drop t.length) else cnt t f l.tail

theorem cnt_short (t : List UInt8) (f : Nat) (l : List UInt8) (h : l.length < t.length) : cnt t f l = 0 := by
  cases f with
  | zero => rfl
  | succ f => rw [cnt, if_pos h]

theorem cnt_fuel (t : List UInt8) (ht : t ≠ []) : ∀ (f g : Nat) (l : List UInt8), l.length ≤ f → l.length ≤ g → cnt t f l = cnt t g l := by
  have h0 : 0 < t.length := List.length_pos_iff.2 ht
  intro f
  induction f with
  | zero =>
    intro g l hf hg
    rw [cnt_short t 0 l (by omega), cnt_short t g l (by omega)]
  | succ f ih =>
    intro g l hf hg
    by_cases hl : l.length < t.length
    · rw [cnt_short t _ l hl, cnt_short t g l hl]
    · cases g with
      | zero => omega
      | succ g =>
        rw [cnt, cnt, if_neg hl, if_neg hl]
        by_cases hp : t.isPrefixOf l = true
        · rw [if_pos hp, if_pos hp, ih g _ (by simp; omega) (by simp; omega)]
        · rw [if_neg hp, if_neg hp, ih g _ (by simp; omega) (by simp; omega)]

/-- What is still to be counted from index i on. -/
def cntFrom (s t : List UInt8) (i : Nat) : Nat := cnt t (s.length - i) (s.drop i)

theorem cntFrom_hit (s t : List UInt8) (i : Nat) (ht : t ≠ []) (h : mt s t i = true) : cntFrom s t i = 1 + cntFrom s t (i + t.length) := by
  have h0 : 0 < t.length := List.length_pos_iff.2 ht
  have hl := mt_len h
  unfold cntFrom
  rw [show s.length - i = (s.length - i - 1) + 1 by omega, cnt, if_neg (by simp; omega), if_pos (by exact h), List.drop_drop]
  rw [cnt_fuel t ht (s.length - i - 1) (s.length - (i + t.length)) _ (by simp; omega) (by simp)]

theorem cntFrom_miss (s t : List UInt8) (i : Nat) (ht : t ≠ []) (h : mt s t i = false) : cntFrom s t i = cntFrom s t (i + 1) := by
  have h0 : 0 < t.length := List.length_pos_iff.2 ht
  unfold cntFrom
  by_cases hl : (s.drop i).length < t.length
  · rw [cnt_short t _ _ hl, cnt_short t _ _ (by simp at hl ⊢; omega)]
  · simp only [List.length_drop] at hl
    rw [show s.length - i = (s.length - i - 1) + 1 by omega, cnt, if_neg (by simp; omega), if_neg (by rw [show t.isPrefixOf (s.drop i) = mt s t i from rfl, h]; simp), List.tail_drop]
    rw [show s.length - i - 1 = s.length - (i + 1) by omega]

theorem cntFrom_end (s t : List UInt8) (i : Nat) (h : s.length < i + t.length) (ht : t ≠ []) : cntFrom s t i = 0 := by
  have h0 : 0 < t.length := List.length_pos_iff.2 ht
  unfold cntFrom
  exact cnt_short t _ _ (by simp; omega)

theorem cnt_le (t : List UInt8) : ∀ (f : Nat) (l : List UInt8), cnt t f l ≤ f := by
  intro f
  induction f with
  | zero => intro l; simp [cnt]
  | succ f ih =>
    intro l
    rw [cnt]
    split
    · omega
    · split
      · have := ih (l.drop t.length); omega
      · have := ih l.tail; omega

theorem cntFrom_le (s t : List UInt8) (i : Nat) : cntFrom s t i ≤ s.length - i := cnt_le t _ _


/-! ### Trimming -/

def trimL : List UInt8 → List UInt8 → List UInt8
  | [], _ => []
  | b :: l, c => if c.contains b then trimL l c else b :: l
def trimR : List UInt8 → List UInt8 → List UInt8
  | [], _ => []
  | b :: l, c => if (trimR l c).isEmpty && c.contains b then [] else b :: trimR l c

theorem trimL_in (b : UInt8) (l c : List UInt8) (h : c.contains b = true) : trimL (b :: l) c = trimL l c := by
  rw [trimL, if_pos h]
theorem trimL_out (b : UInt8) (l c : List UInt8) (h : c.contains b = false) : trimL (b :: l) c = b :: l := by
  rw [trimL, if_neg (by rw [h]; simp)]

theorem trimR_snoc_in (b : UInt8) (c : List UInt8) (h : c.contains b = true) (l : List UInt8) : trimR (l ++ [b]) c = trimR l c := by
  induction l with
  | nil => simp only [List.nil_append, trimR, h]; rfl
  | cons a r ih => rw [List.cons_append, trimR, ih]; rfl

theorem trimR_snoc_out (b : UInt8) (c : List UInt8) (h : c.contains b = false) (l : List UInt8) : trimR (l ++ [b]) c = l ++ [b] := by
  induction l with
  | nil => simp only [List.nil_append, trimR, h]; simp
  | cons a r ih => rw [List.cons_append, trimR, ih, if_neg (by simp)]

theorem trimR_cons_out (b : UInt8) (l c : List UInt8) (h : c.contains b = false) : trimR (b :: l) c = b :: trimR l c := by
  rw [trimR, h, if_neg (by simp)]

theorem trimL_le (s c : List UInt8) : (trimL s c).length ≤ s.length := by
  induction s with
  | nil => exact Nat.le_refl _
  | cons b l ih => rw [trimL]; split <;> simp <;> omega
theorem trimR_le (s c : List UInt8) : (trimR s c).length ≤ s.length := by
  induction s with
  | nil => exact Nat.le_refl _
  | cons b l ih => rw [trimR]; split <;> simp <;> omega

theorem trim_swap (s c : List UInt8) : trimR (trimL s c) c = trimL (trimR s c) c := by
  induction s with
  | nil => rfl
  | cons b l ih =>
    cases h : c.contains b with
    | true =>
      rw [trimL_in b l c h, ih, trimR, h, Bool.and_true]
      by_cases he : (trimR l c).isEmpty = true
      · rw [if_pos he]
        rw [List.isEmpty_iff] at he
        rw [he]
      · rw [if_neg he, trimL_in b _ c h]
    | false => rw [trimL_out b l c h, trimR_cons_out b l c h, trimL_out b _ c h]

theorem trimL_twice (s c : List UInt8) : trimL (trimL s c) c = trimL s c := by
  induction s with
  | nil => rfl
  | cons b l ih =>
    cases h : c.contains b with
    | true => rw [trimL_in b l c h, ih]
    | false => rw [trimL_out b l c h, trimL_out b l c h]

theorem trimR_twice (s c : List UInt8) : trimR (trimR s c) c = trimR s c := by
  induction s with
  | nil => rfl
  | cons b l ih =>
    rw [trimR]
    by_cases he : ((trimR l c).isEmpty && c.contains b) = true
    · rw [if_pos he]; rfl
    · rw [if_neg he, trimR, ih, if_neg he]

/-- What is trimmed once is not trimmed again. -/
theorem trim_twice (s c : List UInt8) : trimR (trimL (trimR (trimL s c) c) c) c = trimR (trimL s c) c := by
  rw [← trim_swap (trimL s c) c, trimL_twice, trimR_twice]

/-- From index i on: all before it stand in c. -/
theorem trimL_drop (s c : List UInt8) : ∀ (i : Nat), (∀ j, j < i → ∀ b, s[j]? = some b → c.contains b = true) → trimL s c = trimL (s.drop i) c := by
  induction s with
  | nil => intro i _; simp
  | cons a l ih =>
    intro i h
    cases i with
    | zero => rfl
    | succ i =>
      rw [trimL_in a l c (h 0 (by omega) a rfl), List.drop_succ_cons]
      exact ih i (fun j hj b hb => h (j + 1) (by omega) b (by simpa using hb))

theorem trimR_take (s c : List UInt8) : ∀ (k : Nat), k ≤ s.length → (∀ j, s.length - k ≤ j → ∀ b, s[j]? = some b → c.contains b = true) → trimR s c = trimR (s.take (s.length - k)) c := by
  intro k
  induction k with
  | zero => intro _ _; simp
  | succ k ih =>
    intro hk h
    rw [ih (by omega) (fun j hj b hb => h j (by omega) b hb)]
    have hlt : s.length - (k + 1) < s.length := by omega
    rw [show s.length - k = s.length - (k + 1) + 1 by omega, List.take_succ_eq_append_getElem hlt, trimR_snoc_in _ c (h _ (by omega) _ (List.getElem?_eq_getElem hlt))]

end Pl
end Go.Proofs.YtlallleahgfdkaaGreatDoor
