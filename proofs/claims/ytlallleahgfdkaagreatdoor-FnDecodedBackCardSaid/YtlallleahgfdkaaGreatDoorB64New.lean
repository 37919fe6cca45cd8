/- encoding/base64.NewEncoding at an alphabet: a new Encoding whose cells read so: the signs, the decoding map, the padding sign. Condition: the alphabet has 64 different signs of ASCII, no line break and no padding sign among them. -/
import Derived.Test.YtlallleahgfdkaaGreatDoorBase
import Derived.Test.YtlallleahgfdkaaGreatDoorB64Plain
import Derived.Lib.BufferWrite
import Derived.Lib.HexFns2
import Derived.Deep.OwnRows
import Derived.Deep.QuietTactic
import Derived.BigQuiet
import Derived.RegionTactic
import Derived.StillTailTactics
import Derived.Deep.WholeRow
import Derived.Deep.MidRow
namespace Go.Proofs.YtlallleahgfdkaaGreatDoor
open Go.RowKit

theorem size5 : (Tryz.prog.info? 5).map (·.size) = some 1 := by kernel_rfl
/-- A string's bytes copied into the block that was made last. -/
theorem copy_new (w : World) (o n : Nat) (s : ByteArray) (c : Array Value) (t : TypeId) (hn : s.size = n) (hf : o + n ≤ c.size) :
    Sem.run Tryz.prog (Builtin.copy_ #[58, 9] 3 #[Value.slice (some ⟨w.heap.size, o, none⟩) n n, Value.string s]) (w.alloc (.cells c t)) =
      .ok (.int .i64 n) (w.alloc (.cells (c.toList.take o ++ Lib.byteCells s.data.toList ++ c.toList.drop (o + n)).toArray t)) := by
  subst hn
  have := Lib.run_copy_row_string (P := Tryz.prog) (w.alloc (.cells c t)) 58 9 3 5 w.heap.size o s.size s.size s c t Tryz.underlying58 size5 (heap_alloc_last w _) (Nat.le_refl _) hf
  rw [this, World.setRow_alloc_new]
  rfl

/-- An alphabet: 64 bytes of ASCII, no two alike, no line break, no padding sign. -/
structure Alpha (al : ByteArray) : Prop where
  size : al.size = 64
  inj : ∀ i, i < 64 → ∀ j, j < 64 → bv al i = bv al j → i = j
  ok : ∀ i, i < 64 → bv al i < 128 ∧ bv al i ≠ 10 ∧ bv al i ≠ 13 ∧ bv al i ≠ 61

/-- The cells of an Encoding whose first k symbols are entered. -/
structure EncF (al : ByteArray) (k : Nat) (pad : Int) (g : Nat → Value) : Prop where
  enc : ∀ j, j < 64 → g j = .int .u8 (bv al j)
  hit : ∀ j, j < k → g (64 + bv al j) = .int .u8 j
  miss : ∀ b, b < 256 → (∀ j, j < k → bv al j ≠ b) → g (64 + b) = .int .u8 255
  padc : g 320 = .int .i32 pad
  strict : g 321 = .bool false

theorem splice_get (A B : List Value) (o j : Nat) (h : o + B.length ≤ A.length) : (A.take o ++ B ++ A.drop (o + B.length)).toArray[j]? = if j < o then A[j]? else if j < o + B.length then B[j - o]? else A[j]? := by
  rw [List.getElem?_toArray, List.getElem?_append, List.length_append, List.length_take, Nat.min_eq_left (by omega)]
  by_cases h1 : j < o
  · rw [if_pos h1, if_pos (by omega), List.getElem?_append, List.length_take, Nat.min_eq_left (by omega), if_pos h1, List.getElem?_take, if_pos h1]
  · rw [if_neg h1]
    by_cases h2 : j < o + B.length
    · rw [if_pos h2, if_pos h2, List.getElem?_append, List.length_take, Nat.min_eq_left (by omega), if_neg h1]
    · rw [if_neg h2, if_neg h2, List.getElem?_drop]
      congr 1; omega
theorem bytes_get (s : ByteArray) (j : Nat) (h : j < s.size) : (Lib.byteCells s.data.toList)[j]? = some (.int .u8 (bv s j)) := by
  unfold Lib.byteCells
  rw [List.getElem?_map, List.getElem?_eq_getElem (by rw [← Lib.size_eq]; exact h), bv_at s j h]
  rfl
theorem bytes_len (s : ByteArray) : (Lib.byteCells s.data.toList).length = s.size := by rw [Lib.byteCells_length, ← Lib.size_eq]
theorem ff_all (s : ByteArray) (h : s.data.toList.all (fun b => b.toNat == 255) = true) : ∀ j, j < s.size → bv s j = 255 := fun j hj => by
  have := List.all_eq_true.1 h s[j] (List.getElem_mem (by rw [← Lib.size_eq]; exact hj))
  rw [bv_at s j hj]
  simpa using this
theorem enc_start (al : ByteArray) (ha : Alpha al) (Z : Array Value) (FF : ByteArray) (hf : FF.size = 256) (hff : ∀ j, j < FF.size → bv FF j = 255) (hz : Z.size = 322) (h0 : Z[320]? = some (.int .i32 61)) (h1 : Z[321]? = some (.bool false)) (c1 c2 : Array Value)
    (hc1 : c1 = (Z.toList.take 0 ++ Lib.byteCells al.data.toList ++ Z.toList.drop (0 + 64)).toArray) (hc2 : c2 = (c1.toList.take 64 ++ Lib.byteCells FF.data.toList ++ c1.toList.drop (64 + 256)).toArray) :
    c1.size = 322 ∧ c2.size = 322 ∧ ∃ g : Nat → Value, EncF al 0 61 g ∧ ∀ i, i < c2.size → c2[i]? = some (g i) := by
  have e1 := splice_get Z.toList (Lib.byteCells al.data.toList) 0
  have l1 := bytes_len al
  rw [ha.size] at l1
  rw [l1, ← hc1] at e1
  have g1 := fun j => e1 j (by rw [Array.length_toList, hz]; omega)
  have s1 : c1.size = 322 := by
    rw [hc1]; simp [l1, hz]
  have e2 := splice_get c1.toList (Lib.byteCells FF.data.toList) 64
  have l2 := bytes_len FF
  rw [hf] at l2
  rw [l2, ← hc2] at e2
  have g2 := fun j => e2 j (by rw [Array.length_toList, s1]; omega)
  have hsz := ha.size
  have s2 : c2.size = 322 := by rw [hc2]; simp [l2, s1]
  have get : ∀ (i : Nat) (v : Value), c2[i]? = some v → (c2[i]?).getD default = v := fun i v h => by rw [h]; rfl
  refine ⟨s1, s2, fun i => (c2[i]?).getD default, ⟨fun j hj => get _ _ ?_, fun j hj => by omega, fun b hb _ => get _ _ ?_, get _ _ ?_, get _ _ ?_⟩, fun i hi => ?_⟩
  · rw [g2 j, if_pos (by omega), Array.getElem?_toList, g1 j, if_neg (by omega), if_pos (by omega), Nat.sub_zero, bytes_get al j (by omega)]
  · rw [g2, if_neg (by omega), if_pos (by omega), show 64 + b - 64 = b by omega, bytes_get FF b (by omega), hff b (by omega)]; rfl
  · rw [g2, if_neg (by omega), if_neg (by omega), Array.getElem?_toList, g1, if_neg (by omega), if_neg (by omega), Array.getElem?_toList]; exact h0
  · rw [g2, if_neg (by omega), if_neg (by omega), Array.getElem?_toList, g1, if_neg (by omega), if_neg (by omega), Array.getElem?_toList]; exact h1
  · show c2[i]? = some ((c2[i]?).getD default)
    rw [Array.getElem?_eq_getElem hi]; rfl
theorem enc_step {al : ByteArray} (ha : Alpha al) {k : Nat} {pad : Int} {g : Nat → Value} (hk : k < 64) (h : EncF al k pad g) : EncF al (k + 1) pad (fun j => if j = 64 + bv al k then .int .u8 k else g j) := by
  obtain ⟨o1, o2, o3, o4⟩ := ha.ok k hk
  refine ⟨fun j hj => ?_, fun j hj => ?_, fun b hb hm => ?_, ?_, ?_⟩
  · show (if _ then _ else _) = _
    rw [if_neg (by omega)]; exact h.enc j hj
  · show (if _ then _ else _) = _
    by_cases e : j = k
    · subst e
      rw [if_pos rfl]
    · rw [if_neg (fun e2 => e (ha.inj j (by omega) k hk (by omega)))]
      exact h.hit j (by omega)
  · show (if _ then _ else _) = _
    rw [if_neg (fun e2 => hm k (by omega) (by omega))]
    exact h.miss b hb (fun j hjk => hm j (by omega))
  · show (if _ then _ else _) = _
    rw [if_neg (by omega)]; exact h.padc
  · show (if _ then _ else _) = _
    rw [if_neg (by omega)]; exact h.strict

set_option maxRecDepth 100000 in
set_option maxHeartbeats 4000000 in
theorem new_any (al : ByteArray) (w : World) (ha : Alpha al) :
    Calls Tryz.prog 167 #[.string al] w fun e w' => e = .returned (.pointer (some ⟨w.heap.size, 0, none⟩)) ∧ (∃ g, EncF al 64 61 g ∧ w'.rowIs w.heap.size 133 322 g) ∧ Below w.heap.size w w' := by
  have h64 := ha.size
  have hc1 := copy_new w 0 64 al (Tryz.zeroCells133.setIfInBounds 320 (Value.int IntKind.i32 61)) 133 h64 (by decide)
  obtain ⟨c1, hd1⟩ : ∃ c1, c1 = (List.take 0 (Tryz.zeroCells133.setIfInBounds 320 (Value.int IntKind.i32 61)).toList ++ Lib.byteCells al.data.toList ++ List.drop (0 + 64) (Tryz.zeroCells133.setIfInBounds 320 (Value.int IntKind.i32 61)).toList).toArray := ⟨_, rfl⟩
  rw [← hd1] at hc1
  obtain ⟨c2, hd2⟩ : ∃ c2, c2 = (List.take 64 c1.toList ++ Lib.byteCells (⟨#[255, 255, 255, 255, 255, 255, 255, 255, 255, 255, 255, 255, 255, 255, 255, 255, 255, 255, 255, 255, 255, 255, 255, 255, 255, 255, 255, 255, 255, 255, 255, 255, 255, 255, 255, 255, 255, 255, 255, 255, 255, 255, 255, 255, 255, 255, 255, 255, 255, 255, 255, 255, 255, 255, 255, 255, 255, 255, 255, 255, 255, 255, 255, 255, 255, 255, 255, 255, 255, 255, 255, 255, 255, 255, 255, 255, 255, 255, 255, 255, 255, 255, 255, 255, 255, 255, 255, 255, 255, 255, 255, 255, 255, 255, 255, 255, 255, 255, 255, 255, 255, 255, 255, 255, 255, 255, 255, 255, 255, 255, 255, 255, 255, 255, 255, 255, 255, 255, 255, 255, 255, 255, 255, 255, 255, 255, 255, 255, 255, 255, 255, 255, 255, 255, 255, 255, 255, 255, 255, 255, 255, 255, 255, 255, 255, 255, 255, 255, 255, 255, 255, 255, 255, 255, 255, 255, 255, 255, 255, 255, 255, 255, 255, 255, 255, 255, 255, 255, 255, 255, 255, 255, 255, 255, 255, 255, 255, 255, 255, 255, 255, 255, 255, 255, 255, 255, 255, 255, 255, 255, 255, 255, 255, 255, 255, 255, 255, 255, 255, 255, 255, 255, 255, 255, 255, 255, 255, 255, 255, 255, 255, 255, 255, 255, 255, 255, 255, 255, 255, 255, 255, 255, 255, 255, 255, 255, 255, 255, 255, 255, 255, 255, 255, 255, 255, 255, 255, 255, 255, 255, 255, 255, 255, 255, 255, 255, 255, 255, 255, 255, 255, 255, 255, 255, 255, 255]⟩ : ByteArray).data.toList ++ List.drop (64 + 256) c1.toList).toArray := ⟨_, rfl⟩
  obtain ⟨hs1, hs2, g2, hg2, hcg⟩ := enc_start al ha (Tryz.zeroCells133.setIfInBounds 320 (Value.int IntKind.i32 61)) ⟨#[255, 255, 255, 255, 255, 255, 255, 255, 255, 255, 255, 255, 255, 255, 255, 255, 255, 255, 255, 255, 255, 255, 255, 255, 255, 255, 255, 255, 255, 255, 255, 255, 255, 255, 255, 255, 255, 255, 255, 255, 255, 255, 255, 255, 255, 255, 255, 255, 255, 255, 255, 255, 255, 255, 255, 255, 255, 255, 255, 255, 255, 255, 255, 255, 255, 255, 255, 255, 255, 255, 255, 255, 255, 255, 255, 255, 255, 255, 255, 255, 255, 255, 255, 255, 255, 255, 255, 255, 255, 255, 255, 255, 255, 255, 255, 255, 255, 255, 255, 255, 255, 255, 255, 255, 255, 255, 255, 255, 255, 255, 255, 255, 255, 255, 255, 255, 255, 255, 255, 255, 255, 255, 255, 255, 255, 255, 255, 255, 255, 255, 255, 255, 255, 255, 255, 255, 255, 255, 255, 255, 255, 255, 255, 255, 255, 255, 255, 255, 255, 255, 255, 255, 255, 255, 255, 255, 255, 255, 255, 255, 255, 255, 255, 255, 255, 255, 255, 255, 255, 255, 255, 255, 255, 255, 255, 255, 255, 255, 255, 255, 255, 255, 255, 255, 255, 255, 255, 255, 255, 255, 255, 255, 255, 255, 255, 255, 255, 255, 255, 255, 255, 255, 255, 255, 255, 255, 255, 255, 255, 255, 255, 255, 255, 255, 255, 255, 255, 255, 255, 255, 255, 255, 255, 255, 255, 255, 255, 255, 255, 255, 255, 255, 255, 255, 255, 255, 255, 255, 255, 255, 255, 255, 255, 255, 255, 255, 255, 255, 255, 255, 255, 255, 255, 255, 255, 255]⟩ (by rfl) (ff_all _ (by decide +kernel)) (by decide) (by kernel_rfl) (by kernel_rfl) c1 c2 hd1 hd2
  have hc2 := copy_new w 64 256 ⟨#[255, 255, 255, 255, 255, 255, 255, 255, 255, 255, 255, 255, 255, 255, 255, 255, 255, 255, 255, 255, 255, 255, 255, 255, 255, 255, 255, 255, 255, 255, 255, 255, 255, 255, 255, 255, 255, 255, 255, 255, 255, 255, 255, 255, 255, 255, 255, 255, 255, 255, 255, 255, 255, 255, 255, 255, 255, 255, 255, 255, 255, 255, 255, 255, 255, 255, 255, 255, 255, 255, 255, 255, 255, 255, 255, 255, 255, 255, 255, 255, 255, 255, 255, 255, 255, 255, 255, 255, 255, 255, 255, 255, 255, 255, 255, 255, 255, 255, 255, 255, 255, 255, 255, 255, 255, 255, 255, 255, 255, 255, 255, 255, 255, 255, 255, 255, 255, 255, 255, 255, 255, 255, 255, 255, 255, 255, 255, 255, 255, 255, 255, 255, 255, 255, 255, 255, 255, 255, 255, 255, 255, 255, 255, 255, 255, 255, 255, 255, 255, 255, 255, 255, 255, 255, 255, 255, 255, 255, 255, 255, 255, 255, 255, 255, 255, 255, 255, 255, 255, 255, 255, 255, 255, 255, 255, 255, 255, 255, 255, 255, 255, 255, 255, 255, 255, 255, 255, 255, 255, 255, 255, 255, 255, 255, 255, 255, 255, 255, 255, 255, 255, 255, 255, 255, 255, 255, 255, 255, 255, 255, 255, 255, 255, 255, 255, 255, 255, 255, 255, 255, 255, 255, 255, 255, 255, 255, 255, 255, 255, 255, 255, 255, 255, 255, 255, 255, 255, 255, 255, 255, 255, 255, 255, 255, 255, 255, 255, 255, 255, 255, 255, 255, 255, 255, 255, 255]⟩ c1 133 (by rfl) (by rw [hs1]; decide)
  rw [← hd2] at hc2
  have HE := hid (And.intro hg2 (World.rowIs_alloc w c2 133 g2 hcg))
  rw [hs2] at HE
  have HA := hid ha
  clear hd1 hd2 hg2 hcg ha
  go_enter Tryz.func167, Tryz.ntmps167
  go_wp2
  go_loopw [4] (fun i wr => ∃ (k : Nat) (g : Nat → Value), k ≤ 64 ∧ i = .int .i64 k ∧ Hid (EncF al k 61 g ∧ wr.rowIs w.heap.size 133 322 g ∧ Below w.heap.size w wr)) (fun i _ => 64 - (intOf i).toNat)
  case atStart => exact ⟨0, g2, Nat.zero_le _, rfl, hid ⟨HE.out.1, HE.out.2, (Below.refl _ _).alloc (Nat.le_refl _) _⟩⟩
  case round =>
    obtain ⟨k, g, hk, rfl, HC⟩ := hrel
    by_cases hlt : k < 64
    · have hlt' : k < al.size := by omega
      have hA := bv_at al k hlt'
      obtain ⟨o1, o2, o3, o4⟩ := HA.out.ok k hlt
      have hmiss := HC.out.1.miss (bv al k) (by omega) (fun j hj he => by have := HA.out.inj j (by omega) k hlt he; omega)
      have hcell := HC.out.2.1.cell (i := 64 + bv al k) (by omega)
      rw [hmiss] at hcell
      rw [hA] at o1 o2 o3 hcell
      have t1 : ((al[k].toNat : Int) == 10) = false := beq_eq_false_iff_ne.2 (by omega)
      have t2 : ((al[k].toNat : Int) == 13) = false := beq_eq_false_iff_ne.2 (by omega)
      have hfro : ∀ o, wr.frozen? ⟨w.heap.size, o, none⟩ = false := fun o => HC.out.2.1.frozen o
      have q1 : (k : Int) < (al.size : Int) := by omega
      have q2 : (al[k].toNat : Int) < 256 := by omega
      have HA2 := hid hA
      clear hA hmiss o4
      go_wp2
      go_quiet (fail)
      obtain ⟨wq, hwq⟩ : ∃ wq, wq = wr.drewN nq := ⟨_, rfl⟩
      rw [← hwq]
      have hbq : Below w.heap.size w wq := by rw [hwq]; exact below_drewN HC.out.2.2 _
      have hhq : wq.rowIs w.heap.size 133 322 g := by rw [hwq]; exact HC.out.2.1
      have hcq : wq.cell? ⟨w.heap.size, 64 + al[k].toNat, none⟩ = some (.int .u8 255) := by rw [hwq]; exact hcell
      have hfq : ∀ o, wq.frozen? ⟨w.heap.size, o, none⟩ = false := fun o => by rw [hwq]; exact hfro o
      have HBQ := hid (And.intro hbq hhq)
      clear hwq hcell hfro hbq hhq
      go_wp2
      go_still_tail 9, (by kernel_rfl)
      change wpList _ _ _ _ _ wq.drew
      go_wp2
      refine ⟨⟨k + 1, _, by omega, by go_num, hid ⟨enc_step HA.out hlt HC.out.1, ?_, ?_⟩⟩, by simp [intOf]; omega⟩
      · rw [HA2.out]
        exact (HBQ.out.2.set (64 + al[k].toNat) (.int .u8 k)).drew
      · exact (HBQ.out.1.setCell (Nat.le_refl _) _).drew
    · obtain rfl : k = 64 := by omega
      go_wp2
      go_ret
      exact ⟨rfl, ⟨g, HC.out.1, HC.out.2.1⟩, HC.out.2.2⟩
end Go.Proofs.YtlallleahgfdkaaGreatDoor
