/- spec.Letters: the reference's lower and upper case, at every string of at most 2^31 - 1 bytes. -/
import Derived.Test.YtlallleahgfdkaaGreatDoorImpl2
namespace Go.Proofs.YtlallleahgfdkaaGreatDoor
open Go.RowKit

theorem map_take_succ (f : UInt8 → UInt8) (s : ByteArray) (k : Nat) (h : k < s.size) : (s.data.toList.take (k + 1)).map f = (s.data.toList.take k).map f ++ [f s[k]] := by
  rw [List.take_succ_eq_append_getElem (by rw [← Lib.size_eq]; exact h), List.map_append]
  rfl
theorem str_snoc (l : List UInt8) (c : UInt8) : Value.string ((⟨l.toArray⟩ : ByteArray) ++ ⟨#[c]⟩) = Value.string ⟨(l ++ [c]).toArray⟩ := by
  congr 1
theorem conv_one (w : World) (x : Int) (c : UInt8) (h : UInt8.ofNat x.toNat = c) :
    (convert 58 9 (.slice (some ⟨w.heap.size, 0, none⟩) 1 1)).run Tryz.prog (w.alloc (.cells #[.int .u8 x] 5)) = .ok (.string ⟨#[c]⟩) (w.alloc (.cells #[.int .u8 x] 5)) := by
  rw [run_convert_bytes_arg (P := Tryz.prog) (w.alloc (.cells #[.int .u8 x] 5)) 58 5 Tryz.underlying58 Tryz.underlying5 w.heap.size 0 1 1 [x] rfl (fun i hi => by
    obtain rfl : i = 0 := by omega
    rw [World.cell?_alloc_at _ _ _ _ (by simp)]; rfl) 9 Tryz.underlying9]
  unfold strOfNums
  simp [h]
theorem upper_hit (b : UInt8) (h1 : 97 ≤ b.toNat) (h2 : b.toNat ≤ 122) : UInt8.ofNat ((b.toNat : Int) - 32).toNat = Lib.upperB b := by
  have hl : Lib.isLowerB b = true := by rw [Lib.isLowerB_int]; simp; omega
  rw [← Lib.upperB_int b hl]; simp
theorem upper_miss (b : UInt8) (h : b.toNat < 97 ∨ 122 < b.toNat) : UInt8.ofNat ((b.toNat : Int)).toNat = Lib.upperB b := by
  have hl : Lib.isLowerB b = false := by rw [Lib.isLowerB_int]; simp; omega
  rw [Lib.upperB_of_not b hl]; simp
theorem lower_hit (b : UInt8) (h1 : 65 ≤ b.toNat) (h2 : b.toNat ≤ 90) : UInt8.ofNat ((b.toNat : Int) + 32).toNat = Lib.lowerB b := by
  have hl : Lib.isUpperB b = true := by rw [Lib.isUpperB_int]; simp; omega
  rw [← Lib.lowerB_int b hl]; simp
theorem lower_miss (b : UInt8) (h : b.toNat < 65 ∨ 90 < b.toNat) : UInt8.ofNat ((b.toNat : Int)).toNat = Lib.lowerB b := by
  have hl : Lib.isUpperB b = false := by rw [Lib.isUpperB_int]; simp; omega
  rw [Lib.lowerB_of_not b hl]; simp

set_option maxRecDepth 100000 in
set_option maxHeartbeats 4000000 in
theorem letters_up (s : ByteArray) (w : World) (hs : s.size ≤ 2147483647) :
    Calls Tryz.prog 35 #[.string s, .bool true] w fun e w' => e = .returned (.string ⟨(Lib.toUpperA s.data.toList).toArray⟩) ∧ Below w.heap.size w w' := by
  go_enter Tryz.func35, Tryz.ntmps35
  go_wp2
  go_loopw [5, 10] (fun v i wr => ∃ (k : Nat) (l : List UInt8), k ≤ s.size ∧ i = .int .i64 k ∧ v = .string ⟨l.toArray⟩ ∧ l.length = k ∧ Hid (l = (s.data.toList.take k).map Lib.upperB) ∧ Below w.heap.size w wr)
    (fun _ i _ => s.size - (intOf i).toNat)
  case atStart => exact ⟨0, [], Nat.zero_le _, rfl, rfl, rfl, rfl, Below.refl _ _⟩
  case round =>
    obtain ⟨k, l, hk, rfl, rfl, hl, HL, hb⟩ := hrel
    have hl' : l.length ≤ k := by omega
    have HLL := hid hl
    clear hl
    by_cases hlt : k < s.size
    · have hbd : s[k].toNat < 256 := UInt8.toNat_lt _
      by_cases h1 : 97 ≤ s[k].toNat
      · by_cases h2 : s[k].toNat ≤ 122
        · obtain ⟨c, hc⟩ : ∃ c, c = Lib.upperB s[k] := ⟨_, rfl⟩
          have hcv := conv_one wr ((s[k].toNat : Int) - 32) c (by rw [hc]; exact upper_hit _ h1 h2)
          have HC := hid hc
          clear hc
          go_wp2
          refine ⟨⟨k + 1, l ++ [c], by omega, by go_num, str_snoc l c, by rw [List.length_append, HLL.out]; rfl, hid (by rw [map_take_succ _ s k hlt, ← HL.out, ← HC.out]), hb.alloc hb.size _⟩, by simp [intOf]; omega⟩
        · obtain ⟨c, hc⟩ : ∃ c, c = Lib.upperB s[k] := ⟨_, rfl⟩
          have hcv := conv_one wr ((s[k].toNat : Int)) c (by rw [hc]; exact upper_miss _ (.inr (by omega)))
          have HC := hid hc
          clear hc
          go_wp2
          refine ⟨⟨k + 1, l ++ [c], by omega, by go_num, str_snoc l c, by rw [List.length_append, HLL.out]; rfl, hid (by rw [map_take_succ _ s k hlt, ← HL.out, ← HC.out]), hb.alloc hb.size _⟩, by simp [intOf]; omega⟩
      · obtain ⟨c, hc⟩ : ∃ c, c = Lib.upperB s[k] := ⟨_, rfl⟩
        have hcv := conv_one wr ((s[k].toNat : Int)) c (by rw [hc]; exact upper_miss _ (.inl (by omega)))
        have HC := hid hc
        clear hc
        go_wp2
        refine ⟨⟨k + 1, l ++ [c], by omega, by go_num, str_snoc l c, by rw [List.length_append, HLL.out]; rfl, hid (by rw [map_take_succ _ s k hlt, ← HL.out, ← HC.out]), hb.alloc hb.size _⟩, by simp [intOf]; omega⟩
    · have HK := hid (show k = s.size by omega)
      go_wp2
      go_ret
      refine ⟨ret_str ?_, hb⟩
      rw [HL.out, HK.out, Lib.size_eq, List.take_length]
      rfl

set_option maxRecDepth 100000 in
set_option maxHeartbeats 4000000 in
theorem letters_low (s : ByteArray) (w : World) (hs : s.size ≤ 2147483647) :
    Calls Tryz.prog 35 #[.string s, .bool false] w fun e w' => e = .returned (.string ⟨(Lib.toLowerA s.data.toList).toArray⟩) ∧ Below w.heap.size w w' := by
  go_enter Tryz.func35, Tryz.ntmps35
  go_wp2
  go_loopw [5, 10] (fun v i wr => ∃ (k : Nat) (l : List UInt8), k ≤ s.size ∧ i = .int .i64 k ∧ v = .string ⟨l.toArray⟩ ∧ l.length = k ∧ Hid (l = (s.data.toList.take k).map Lib.lowerB) ∧ Below w.heap.size w wr)
    (fun _ i _ => s.size - (intOf i).toNat)
  case atStart => exact ⟨0, [], Nat.zero_le _, rfl, rfl, rfl, rfl, Below.refl _ _⟩
  case round =>
    obtain ⟨k, l, hk, rfl, rfl, hl, HL, hb⟩ := hrel
    have hl' : l.length ≤ k := by omega
    have HLL := hid hl
    clear hl
    by_cases hlt : k < s.size
    · have hbd : s[k].toNat < 256 := UInt8.toNat_lt _
      by_cases h1 : 65 ≤ s[k].toNat
      · by_cases h2 : s[k].toNat ≤ 90
        · obtain ⟨c, hc⟩ : ∃ c, c = Lib.lowerB s[k] := ⟨_, rfl⟩
          have hcv := conv_one wr ((s[k].toNat : Int) + 32) c (by rw [hc]; exact lower_hit _ h1 h2)
          have HC := hid hc
          clear hc
          go_wp2
          refine ⟨⟨k + 1, l ++ [c], by omega, by go_num, str_snoc l c, by rw [List.length_append, HLL.out]; rfl, hid (by rw [map_take_succ _ s k hlt, ← HL.out, ← HC.out]), hb.alloc hb.size _⟩, by simp [intOf]; omega⟩
        · obtain ⟨c, hc⟩ : ∃ c, c = Lib.lowerB s[k] := ⟨_, rfl⟩
          have hcv := conv_one wr ((s[k].toNat : Int)) c (by rw [hc]; exact lower_miss _ (.inr (by omega)))
          have HC := hid hc
          clear hc
          go_wp2
          refine ⟨⟨k + 1, l ++ [c], by omega, by go_num, str_snoc l c, by rw [List.length_append, HLL.out]; rfl, hid (by rw [map_take_succ _ s k hlt, ← HL.out, ← HC.out]), hb.alloc hb.size _⟩, by simp [intOf]; omega⟩
      · obtain ⟨c, hc⟩ : ∃ c, c = Lib.lowerB s[k] := ⟨_, rfl⟩
        have hcv := conv_one wr ((s[k].toNat : Int)) c (by rw [hc]; exact lower_miss _ (.inl (by omega)))
        have HC := hid hc
        clear hc
        go_wp2
        refine ⟨⟨k + 1, l ++ [c], by omega, by go_num, str_snoc l c, by rw [List.length_append, HLL.out]; rfl, hid (by rw [map_take_succ _ s k hlt, ← HL.out, ← HC.out]), hb.alloc hb.size _⟩, by simp [intOf]; omega⟩
    · have HK := hid (show k = s.size by omega)
      go_wp2
      go_ret
      refine ⟨ret_str ?_, hb⟩
      rw [HL.out, HK.out, Lib.size_eq, List.take_length]
      rfl
end Go.Proofs.YtlallleahgfdkaaGreatDoor
