/- reverseString, impl.Reverse on ASCII text of at most 1,000 bytes; spec.Reverse: what they return: new memory alone is made. -/
import Derived.Test.YtlallleahgfdkaaGreatDoorImpl2
import Derived.OwnWalk
namespace Go.Proofs.YtlallleahgfdkaaGreatDoor
open Go.RowKit

/-- Block g holds n bytes that may be written; those from place n - k on are the text's first k bytes, turned round. -/
def BufIs (w : World) (g : Nat) (s : ByteArray) (k : Nat) : Prop :=
  ∃ f : Nat → UInt8, (∀ j, j < s.size → w.cell? ⟨g, j, none⟩ = some (.int .u8 (f j).toNat)) ∧ (∀ j, w.frozen? ⟨g, j, none⟩ = false) ∧ ∀ j, j < s.size → s.size - k ≤ j → s.data.toList[s.size - 1 - j]? = some (f j)

theorem BufIs.step {w : World} {g : Nat} {s : ByteArray} {k : Nat} (h : BufIs w g s k) (hk : k < s.size) : BufIs (w.setCell ⟨g, s.size - (k + 1), none⟩ (.int .u8 s[k].toNat)) g s (k + 1) := by
  obtain ⟨f, h1, h2, h3⟩ := h
  refine ⟨fun j => if j = s.size - (k + 1) then s[k] else f j, fun j hj => ?_, fun j => by rw [World.frozen?_setCell]; exact h2 j, fun j hj hjk => ?_⟩
  · show _ = some (Value.int .u8 (if j = s.size - (k + 1) then s[k] else f j).toNat)
    by_cases e : j = s.size - (k + 1)
    · subst e
      rw [if_pos rfl, World.cell?_setCell_same (h := h1 _ (by omega))]
    · rw [if_neg e, World.cell?_setCell_other (h := by intro h; exact e (by have := congrArg Addr.off h; simpa using this.symm)), h1 j hj]
  · show _ = some (if j = s.size - (k + 1) then s[k] else f j)
    by_cases e : j = s.size - (k + 1)
    · rw [if_pos e]
      have : s.size - 1 - j = k := by omega
      rw [this, List.getElem?_eq_getElem (by rw [← Lib.size_eq]; exact hk)]; rfl
    · rw [if_neg e]; exact h3 j hj (by omega)

theorem BufIs.conv {w : World} {g : Nat} {s : ByteArray} (h : BufIs w g s s.size) (cap : Nat) :
    (convert 58 9 (.slice (some ⟨g, 0, none⟩) s.size cap)).run Tryz.prog w = .ok (.string ⟨s.data.toList.reverse.toArray⟩) w := by
  obtain ⟨f, h1, _, h3⟩ := h
  have hx : ∀ i, i < s.size → (f i) = s.data.toList.reverse.getD i 0 := fun i hi => by
    have h4 := h3 i hi (by omega)
    rw [List.getD, List.getElem?_reverse (by rw [← Lib.size_eq]; exact hi), ← Lib.size_eq, h4]; rfl
  rw [run_convert_bytes_arg (P := Tryz.prog) w 58 5 Tryz.underlying58 Tryz.underlying5 g 0 s.size cap (s.data.toList.reverse.map fun b => (b.toNat : Int)) (by rw [List.length_map, List.length_reverse, Lib.size_eq]) (fun i hi => by
    rw [Nat.zero_add, h1 i hi, hx i hi, List.getD, List.getD, List.getElem?_map]
    cases hh : s.data.toList.reverse[i]? with
    | none => rw [List.getElem?_eq_none_iff, List.length_reverse, ← Lib.size_eq] at hh; omega
    | some b => rfl) 9 Tryz.underlying9]
  unfold strOfNums
  rw [List.map_map]
  congr 3
  have : ((fun n : Int => UInt8.ofNat n.toNat) ∘ fun b : UInt8 => (b.toNat : Int)) = id := by funext b; simp
  rw [this, List.map_id]
theorem zeros116 : Tryz.zeroCells116 = Array.replicate 255 (.int .u8 0) := by kernel_rfl
theorem BufIs.zeros (w : World) (s : ByteArray) (hs : s.size ≤ 255) : BufIs (w.alloc (.cells Tryz.zeroCells116 116)) w.heap.size s 0 := by
  refine ⟨fun _ => 0, fun j hj => ?_, fun j => World.frozen?_alloc_at _ _ _ _ rfl, fun j hj hjk => by omega⟩
  rw [World.cell?_alloc_at _ _ _ _ rfl, zeros116, Array.getElem?_replicate, if_pos (by omega)]; rfl
theorem slice_arr (w : World) (a : Addr) (n : Nat) (hn : n < 255) :
    (Instr.sliceAt 116 (.pointer (some a)) none (some (.int .i64 (n : Int))) (some (.int .i64 (n : Int)))).run Tryz.prog w = .ok (.slice (some a) n n) w := by
  have hal : Tryz.prog.arrayLen 116 = 255 := by kernel_rfl
  have hel : Tryz.prog.elem 116 = 5 := by kernel_rfl
  have hu : Tryz.prog.underlying 116 = some (.array (Tryz.prog.arrayLen 116) (Tryz.prog.elem 116)) := by kernel_rfl
  have hz : (sizeOf 5).run Tryz.prog w = .ok 1 w := by kernel_rfl
  rw [run_sliceAt_array_hm (P := Tryz.prog) w 116 a hu .i64 .i64 n n (by omega) (by omega) (by rw [hal]; omega), hel, hz]
  simp [slicedAt, Result.andThen, Addr.add]

set_option maxRecDepth 100000 in
set_option maxHeartbeats 4000000 in
theorem revString_small (s : ByteArray) (w : World) (hs : s.size < 255) (ha : AllAscii s) :
    Calls Tryz.prog 121 #[.string s] w fun e w' => e = .returned (.string ⟨s.data.toList.reverse.toArray⟩) ∧ Below w.heap.size w w' := by
  have HA := hid ha
  clear ha
  have HZ := hid (BufIs.zeros w s (by omega))
  have hd : decide ((s.size : Int) < 255) = true := by simp; omega
  have hsl := fun w' => slice_arr w' ⟨w.heap.size, 0, none⟩ s.size (by omega)
  go_enter Tryz.func121, Tryz.ntmps121
  go_wp2
  clear hsl
  go_loopw [6] (fun i wr => ∃ k : Nat, k ≤ s.size ∧ i = .int .i64 k ∧ Hid (BufIs wr w.heap.size s k) ∧ Below w.heap.size w wr) (fun i _ => s.size - (intOf i).toNat)
  case atStart => exact ⟨0, by omega, rfl, HZ, (Below.refl _ _).alloc (Nat.le_refl _) _⟩
  case round =>
    obtain ⟨k, hk, rfl, HBF, hb⟩ := hrel
    by_cases hlt : k < s.size
    · have hx : s[k].toNat < 128 := HA.out k hlt
      have HD := hid (fun W => Tryz.utf8_DecodeRuneInString_ascii (s.extract k s.size) s[k] W (by rw [Lib.extract_data, List.getElem?_take, if_pos (by omega), List.getElem?_drop, Nat.add_zero, List.getElem?_eq_getElem (by rw [← Lib.size_eq]; exact hlt)]; rfl) hx)
      have HST := hid (HBF.out.step hlt)
      obtain ⟨f, h1, h2, _⟩ := HBF.out
      have hc := h1 (s.size - (k + 1)) (by omega)
      have hf := h2 (s.size - (k + 1))
      clear h1 h2 HBF
      go_wp2_with (first | (go_at_call 159; refine (HD.out _).mono ?_; rintro e w' ⟨rfl, rfl⟩) | go_in)
      exact ⟨⟨k + 1, by omega, by go_num, HST, hb.setCell (by simp) _⟩, by simp [intOf]; omega⟩
    · obtain rfl : k = s.size := by omega
      have hcv := HBF.out.conv s.size
      go_wp2
      go_ret
      exact ⟨rfl, hb⟩


theorem Tryz.info5 : (Tryz.prog.info? 5).map (fun i => (i.zero, i.size, i.bytes)) = some (some (.int .u8 0), 1, 1) := by kernel_rfl
theorem BufIs.made {w : World} {base g : Nat} {s : ByteArray} (h : w.ownsRow base 5 1 (.slice (some ⟨g, 0, none⟩) s.size s.size) s.size (madeCells #[Value.int .u8 0] s.size).toList) : BufIs w g s 0 := by
  refine ⟨fun _ => 0, fun j hj => ?_, fun j => h.frozenAt j, fun j hj hjk => by omega⟩
  rw [h.cellAt j (by omega)]
  rw [toList_madeCells_one, List.getElem?_replicate, if_pos (by omega)]; rfl

set_option maxRecDepth 100000 in
set_option maxHeartbeats 4000000 in
theorem revString_big (s : ByteArray) (w : World) (hs : 255 ≤ s.size) (hs2 : s.size ≤ 2147483647) (ha : AllAscii s) :
    Calls Tryz.prog 121 #[.string s] w fun e w' => e = .returned (.string ⟨s.data.toList.reverse.toArray⟩) ∧ Below w.heap.size w w' := by
  have HA := hid ha
  clear ha
  obtain ⟨i0, hi, hz0, hz1, hz2⟩ := info_parts Tryz.info5
  have hd : decide ((s.size : Int) < 255) = false := by simp; omega
  go_enter Tryz.func121, Tryz.ntmps121
  go_wp2_with (at_make; refine wpList_make_full _ rfl _ _ 58 rfl w.heap.size 5 i0 (.int .u8 0) 1 Tryz.underlying58 hi hz0 hz1 .i64 .i64 s.size s.size s.size rfl rfl rfl rfl ?c1 ?c2 ?c3 ?_)
  case c1 => rw [hz2]; omega
  case c2 => unfold maxLen; omega
  case c3 => simp
  intro w1 hown hgrow
  have hb1 : Below w.heap.size w w1 := ((Below.refl _ _).alloc (Nat.le_refl _) _).grown hgrow (by simp) (fun k hk => by cases hk)
  have HZ := hid (BufIs.made hown)
  clear hown hgrow hi hz0 hz1 hz2
  go_wp2
  go_loopw [6] (fun i wr => ∃ k : Nat, k ≤ s.size ∧ i = .int .i64 k ∧ Hid (BufIs wr (w.heap.size + 1) s k) ∧ Below w.heap.size w wr) (fun i _ => s.size - (intOf i).toNat)
  case atStart => exact ⟨0, by omega, rfl, HZ, hb1⟩
  case round =>
    obtain ⟨k, hk, rfl, HBF, hb⟩ := hrel
    by_cases hlt : k < s.size
    · have hx : s[k].toNat < 128 := HA.out k hlt
      have HD := hid (fun W => Tryz.utf8_DecodeRuneInString_ascii (s.extract k s.size) s[k] W (by rw [Lib.extract_data, List.getElem?_take, if_pos (by omega), List.getElem?_drop, Nat.add_zero, List.getElem?_eq_getElem (by rw [← Lib.size_eq]; exact hlt)]; rfl) hx)
      have HST := hid (HBF.out.step hlt)
      obtain ⟨f, h1, h2, _⟩ := HBF.out
      have hc := h1 (s.size - (k + 1)) (by omega)
      have hf := h2 (s.size - (k + 1))
      clear h1 h2 HBF
      go_wp2_with (first | (go_at_call 159; refine (HD.out _).mono ?_; rintro e w' ⟨rfl, rfl⟩) | go_in)
      exact ⟨⟨k + 1, by omega, by go_num, HST, hb.setCell (by simp) _⟩, by simp [intOf]; omega⟩
    · obtain rfl : k = s.size := by omega
      have hcv := HBF.out.conv s.size
      go_wp2
      go_ret
      exact ⟨rfl, hb⟩


theorem revString_any (s : ByteArray) (w : World) (hs2 : s.size ≤ 2147483647) (ha : AllAscii s) :
    Calls Tryz.prog 121 #[.string s] w fun e w' => e = .returned (.string ⟨s.data.toList.reverse.toArray⟩) ∧ Below w.heap.size w w' := by
  by_cases h : s.size < 255
  · exact revString_small s w h ha
  · exact revString_big s w (by omega) hs2 ha
set_option maxRecDepth 100000 in
set_option maxHeartbeats 4000000 in
theorem reverse_any (s : ByteArray) (w : World) (hs : s.size ≤ 2147483647) (ha : AllAscii s) :
    Calls Tryz.prog 36 #[.string s] w fun e w' => e = .returned (.tuple #[.string ⟨s.data.toList.reverse.toArray⟩, .bool true]) ∧ Below w.heap.size w w' := by
  obtain ⟨x, hx⟩ : ∃ x : ByteArray, x = ⟨s.data.toList.reverse.toArray⟩ := ⟨_, rfl⟩
  have HC := hid (fun W => revString_any s W hs ha)
  rw [← hx] at HC ⊢
  clear hx ha
  go_enter Tryz.func36, Tryz.ntmps36
  go_wp2_with (first | (go_at_call 121; refine (HC.out _).mono ?_; rintro e w1 ⟨rfl, hb1⟩; obtain ⟨hc1, hf1⟩ := bcell hb1; obtain ⟨hr1, hs1, hz1, hr2, hs2⟩ := after1 hb1) | go_in)
  go_ret2
  refine ⟨rfl, ?_⟩
  repeat (first | exact Below.refl _ _ | (refine Below.drew ?_) | (refine Below.alloc ?_ (by first | omega | (simp; done) | (simp; omega)) _) | (refine Below.setCell ?_ (by first | omega | (simp; done) | (simp; omega)) _) | (refine Below.trans ?_ (hb1.mono (by first | omega | (simp; done) | (simp; omega)))))

theorem rev_snoc (s : ByteArray) (k : Nat) (h : k < s.size) : Value.string ((⟨(s.data.toList.drop (k + 1)).reverse.toArray⟩ : ByteArray) ++ s.extract k (k + 1)) = Value.string ⟨(s.data.toList.drop k).reverse.toArray⟩ := by
  congr 1
  rw [Lib.extract_eq]
  have hl : k < s.data.toList.length := by rw [← Lib.size_eq]; exact h
  rw [List.drop_eq_getElem_cons hl, List.reverse_cons, show k + 1 - k = 1 by omega, List.take_succ_cons, List.take_zero]
  apply ByteArray.ext
  rw [ByteArray.data_append]
  simp
set_option maxRecDepth 100000 in
set_option maxHeartbeats 4000000 in
theorem specReverse_any (s : ByteArray) (w : World) (hs : s.size ≤ 2147483647) :
    Calls Tryz.prog 37 #[.string s] w fun e w' => e = .returned (.string ⟨s.data.toList.reverse.toArray⟩) ∧ w = w' := by
  go_enter Tryz.func37, Tryz.ntmps37
  go_wp2
  go_loop [3, 4] (fun v i => ∃ (k : Nat) (x : ByteArray), k ≤ s.size ∧ i = .int .i64 ((k : Int) - 1) ∧ v = .string x ∧ x.size ≤ s.size ∧ Hid (x = ⟨(s.data.toList.drop k).reverse.toArray⟩)) (fun _ i => (intOf i + 1).toNat)
  case atStart => exact ⟨s.size, ⟨#[]⟩, by omega, rfl, rfl, Nat.zero_le _, hid (by rw [Lib.size_eq, List.drop_length]; rfl)⟩
  case round =>
    obtain ⟨k, x, hk, rfl, rfl, hxs, HX⟩ := hrel
    by_cases h0 : 0 < k
    · obtain ⟨m, rfl⟩ : ∃ m, k = m + 1 := ⟨k - 1, by omega⟩
      rw [show (((m + 1 : Nat) : Int) - 1) = (m : Int) by omega]
      obtain ⟨y, hy⟩ : ∃ y : ByteArray, y = x ++ s.extract m (m + 1) := ⟨_, rfl⟩
      have HY := hid hy
      have hyx : y = ⟨(s.data.toList.drop m).reverse.toArray⟩ := by
        rw [hy, HX.out]; have := rev_snoc s m (by omega); simpa using this
      have hys : y.size ≤ s.size := by rw [hyx, Lib.size_eq, Lib.size_eq s]; simp
      have HYX := hid hyx
      clear hy hyx
      go_wp2
      exact ⟨⟨m, y, by omega, rfl, by rw [HY.out], hys, HYX⟩, by simp [intOf]⟩
    · have HK := hid (show k = 0 by omega)
      go_wp2
      go_ret
      exact ⟨by rw [HX.out, HK.out]; rfl, rfl⟩
end Go.Proofs.YtlallleahgfdkaaGreatDoor
