/- isASCII, impl.num, impl.Substring: what they return, for strings of ASCII of at most 1000 bytes. -/
import Derived.Test.YtlallleahgfdkaaGreatDoorImpl2
import Derived.Test.YtlallleahgfdkaaGreatDoorPowLt
namespace Go.Proofs.YtlallleahgfdkaaGreatDoor
open Go.RowKit

set_option maxRecDepth 100000 in
set_option maxHeartbeats 4000000 in
theorem isAscii_any (s : ByteArray) (w : World) (hs : s.size ≤ 2147483647) (ha : AllAscii s) :
    Calls Tryz.prog 131 #[.string s] w fun e w' => e = .returned (.bool true) ∧ w = w' := by
  have HA := hid ha
  clear ha
  go_enter Tryz.func131, Tryz.ntmps131
  go_wp2
  go_loop [6] (fun i => ∃ k : Nat, k ≤ s.size ∧ i = .int .i64 k) (fun i => s.size - (intOf i).toNat)
  case atStart => exact ⟨0, Nat.zero_le _, rfl⟩
  case round =>
    obtain ⟨k, hk, rfl⟩ := hrel
    by_cases hlt : k < s.size
    · have hq : decide ((127 : Int) < (s[k].toNat : Int)) = false := decide_eq_false (by
        have h1 := HA.out k hlt; omega)
      go_wp2
      go_round
      case rel => exact ⟨k + 1, by omega, by go_num⟩
      case measure => simp [intOf]; omega
    · go_wp2
      go_ret
      exact ⟨rfl, rfl⟩

set_option maxRecDepth 100000 in
set_option maxHeartbeats 4000000 in
/-- impl.num: a new term that holds the numeral. -/
theorem num_any (n : Int) (h0 : -10000000000000 < n) (h1 : n < 10000000000000) (w : World) (HT : Hid (PowAt w)) :
    Calls Tryz.prog 76 #[.int .i64 n] w fun e w' => ∃ p, e = .returned (.pointer (some ⟨p, 0, none⟩)) ∧ w.heap.size ≤ p ∧ p < w'.heap.size ∧ w'.cell? ⟨p, 0, none⟩ = some (.iface 75 (.string ⟨(Lib.itoa n).toArray⟩)) ∧ Below w.heap.size w w' := by
  go_enter Tryz.func76, Tryz.ntmps76
  go_wp2_with (first
    | (go_at_call 176; refine (itoa_any _ (by omega) (by omega) _ HT.out).mono ?_; rintro e w1 ⟨rfl, hb1⟩)
    | go_in)
  go_ret
  have := hb1.size
  refine ⟨_, rfl, by omega, by simp, ?_, ?_⟩
  · rw [World.cell?_alloc_at _ _ _ _ (by simp)]; rfl
  · exact (Below.refl _ _ |>.trans hb1).alloc this _
/-- What the law's reference returns at an offset that is not negative. -/
def subX (s : ByteArray) (from_ n : Int) : ByteArray :=
  if (s.size : Int) ≤ from_ then ⟨#[]⟩ else if 0 ≤ n ∧ n < s.size - from_ then s.extract from_.toNat (from_ + n).toNat else s.extract from_.toNat s.size
def subR (s : ByteArray) (from_ n : Int) : Value := if from_ < 0 then .tuple #[.string ⟨#[]⟩, .bool false] else .tuple #[.string (subX s from_ n), .bool true]

set_option maxRecDepth 100000 in
set_option maxHeartbeats 4000000 in
theorem sub_core (s : ByteArray) (from_ n : Int) (sf sn : ByteArray) (w : World) (hs : s.size ≤ 1000) (hf1 : from_ ≤ 1099511627776) (hf0 : -1099511627776 ≤ from_) (hn1 : n ≤ 1099511627776) (hn0 : -1099511627776 ≤ n) (HT : Hid (PowAt w))
    (HA : Hid (∀ W, Calls Tryz.prog 131 #[.string s] W fun e w' => e = .returned (.bool true) ∧ W = w'))
    (HF : Hid (∀ W, PowAt W → Calls Tryz.prog 76 #[.int .i64 from_] W fun e w' => ∃ p, e = .returned (.pointer (some ⟨p, 0, none⟩)) ∧ W.heap.size ≤ p ∧ p < w'.heap.size ∧ w'.cell? ⟨p, 0, none⟩ = some (.iface 75 (.string sf)) ∧ Below W.heap.size W w'))
    (HN : Hid (∀ W, PowAt W → Calls Tryz.prog 76 #[.int .i64 n] W fun e w' => ∃ p, e = .returned (.pointer (some ⟨p, 0, none⟩)) ∧ W.heap.size ≤ p ∧ p < w'.heap.size ∧ w'.cell? ⟨p, 0, none⟩ = some (.iface 75 (.string sn)) ∧ Below W.heap.size W w'))
    (HI : Hid (∀ W, Calls Tryz.prog 163 #[.string sf] W fun e w' => e = .returned (.tuple #[.int .i64 from_, .bool true]) ∧ Below W.heap.size W w'))
    (HJ : Hid (∀ W, Calls Tryz.prog 163 #[.string sn] W fun e w' => e = .returned (.tuple #[.int .i64 n, .bool true]) ∧ Below W.heap.size W w')) :
    Calls Tryz.prog 45 #[.string s, .int .i64 from_, .int .i64 n] w fun e w' => e = .returned (subR s from_ n) ∧ Below w.heap.size w w' := by
  go_enter Tryz.func45, Tryz.ntmps45
  go_wp2_with (first | (go_at_call 56; go_in) | (go_at_call 86; go_in))
  refine (HF.out _ (HT.out.of (Below.alloc (Below.refl _ _) (Nat.le_refl _) _))).mono ?_
  rintro e w1 ⟨p1, rfl, hp1, hq1, hr1, hb1⟩
  have k0 : w1.cell? ⟨w.heap.size, 0, none⟩ = some (.iface 73 (.string s)) := by
    rw [hb1.cell (p := ⟨w.heap.size, 0, none⟩) (by simp)]; exact World.cell?_alloc_at _ _ _ _ (by simp)
  have z1 : w.heap.size + 1 ≤ w1.heap.size := by have := hb1.size; simpa using this
  have HB1 := hid (((Below.refl w.heap.size w).alloc (Nat.le_refl _) (.cells #[.iface 73 (.string s), .pointer none] 69)).trans (hb1.mono (by simp)))
  clear hb1 hp1
  go_wp2_with fail
  refine (HN.out _ (HT.out.of HB1.out)).mono ?_
  rintro e w2 ⟨p2, rfl, hp2, hq2, hr2, hb2⟩
  have K0 : w2.cell? ⟨w.heap.size, 0, none⟩ = some (.iface 73 (.string s)) := by
    rw [hb2.cell (p := ⟨w.heap.size, 0, none⟩) (by simp; omega)]; exact k0
  have K1 : w2.cell? ⟨p1, 0, none⟩ = some (.iface 75 (.string sf)) := by
    rw [hb2.cell (p := ⟨p1, 0, none⟩) (by simp; omega)]; exact hr1
  have z2 : w1.heap.size ≤ w2.heap.size := hb2.size
  have HB2 := hid (HB1.out.trans (hb2.mono HB1.out.size))
  clear HB1 hb2 k0 hr1
  have y0 : w.heap.size < w2.heap.size := by omega
  have y1 : p1 < w2.heap.size := by omega
  have y2 : p2 < w2.heap.size := by omega
  clear z1 z2 hq1 hq2 hp2
  have A3 : ∀ o1 o2 o3, (((w2.alloc o1).alloc o2).alloc o3).cell? ⟨w.heap.size, 0, none⟩ = some (.iface 73 (.string s)) := fun o1 o2 o3 => by
    rw [World.cell?_alloc_past _ _ _ (by simp; omega), World.cell?_alloc_past _ _ _ (by simp; omega), World.cell?_alloc_past _ _ _ (by omega)]; exact K0
  have B3 : ∀ o1 o2 o3, (((w2.alloc o1).alloc o2).alloc o3).cell? ⟨p1, 0, none⟩ = some (.iface 75 (.string sf)) := fun o1 o2 o3 => by
    rw [World.cell?_alloc_past _ _ _ (by simp; omega), World.cell?_alloc_past _ _ _ (by simp; omega), World.cell?_alloc_past _ _ _ (by omega)]; exact K1
  have C3 : ∀ o1 o2 o3, (((w2.alloc o1).alloc o2).alloc o3).cell? ⟨p2, 0, none⟩ = some (.iface 75 (.string sn)) := fun o1 o2 o3 => by
    rw [World.cell?_alloc_past _ _ _ (by simp; omega), World.cell?_alloc_past _ _ _ (by simp; omega), World.cell?_alloc_past _ _ _ (by omega)]; exact hr2
  clear K0 K1 hr2
  go_wp2_with (first | (go_at_call 75; go_in) | (go_at_call 84; go_in) | (go_at_call 100; go_in) | (go_at_call 110; go_in) | (go_at_call 128; go_in) | (go_at_call 98; go_in) | (go_at_call 125; go_in))
  obtain ⟨W3, hW3⟩ : ∃ W3, W3 = (((w2.alloc (.cells #[.pointer (some ⟨w.heap.size, 0, none⟩), .pointer (some ⟨p1, 0, none⟩), .pointer (some ⟨p2, 0, none⟩)] 49)).alloc (.cells #[.pointer none] 49)).alloc (.cells #[.nilIface] 80)) := ⟨_, rfl⟩
  have a3 : W3.cell? ⟨w.heap.size, 0, none⟩ = some (.iface 73 (.string s)) := by rw [hW3]; exact A3 _ _ _
  have c3 : W3.cell? ⟨p2, 0, none⟩ = some (.iface 75 (.string sn)) := by rw [hW3]; exact C3 _ _ _
  have d3 : W3.cell? ⟨w2.heap.size, 0, none⟩ = some (.pointer (some ⟨w.heap.size, 0, none⟩)) := by
    rw [hW3, World.cell?_alloc_past _ _ _ (by simp; try omega), World.cell?_alloc_past _ _ _ (by simp), World.cell?_alloc_at _ _ _ _ (by simp)]; rfl
  have e3 : W3.cell? ⟨w2.heap.size, 2, none⟩ = some (.pointer (some ⟨p2, 0, none⟩)) := by
    rw [hW3, World.cell?_alloc_past _ _ _ (by simp; try omega), World.cell?_alloc_past _ _ _ (by simp), World.cell?_alloc_at _ _ _ _ (by simp)]; rfl
  have r3 : W3.cell? ⟨w2.heap.size + 1, 0, none⟩ = some (.pointer none) := by
    rw [hW3, World.cell?_alloc_past _ _ _ (by simp), World.cell?_alloc_at _ _ _ _ (by simp)]; rfl
  have f3 : W3.frozen? ⟨w2.heap.size + 1, 0, none⟩ = false := by
    rw [hW3, World.frozen?_alloc_past _ _ _ (by simp)]; exact World.frozen?_alloc_at _ _ _ _ (by simp)
  have z3 : W3.heap.size = w2.heap.size + 3 := by rw [hW3]; simp
  have HB3 : Hid (Below w.heap.size w W3) := hid (by
    rw [hW3]
    exact ((HB2.out.alloc (Nat.le_of_lt y0) _).alloc (by simp; omega) _).alloc (by simp; omega) _)
  rw [← hW3]
  clear hW3 A3 B3 C3 HB2
  refine (HI.out _).mono ?_
  rintro e w3 ⟨rfl, hb3⟩
  have a4 : w3.cell? ⟨w.heap.size, 0, none⟩ = some (.iface 73 (.string s)) := by rw [hb3.cell (p := ⟨w.heap.size, 0, none⟩) (by simp; omega)]; exact a3
  have c4 : w3.cell? ⟨p2, 0, none⟩ = some (.iface 75 (.string sn)) := by rw [hb3.cell (p := ⟨p2, 0, none⟩) (by simp; omega)]; exact c3
  have d4 : w3.cell? ⟨w2.heap.size, 0, none⟩ = some (.pointer (some ⟨w.heap.size, 0, none⟩)) := by rw [hb3.cell (p := ⟨w2.heap.size, 0, none⟩) (by simp; omega)]; exact d3
  have e4 : w3.cell? ⟨w2.heap.size, 2, none⟩ = some (.pointer (some ⟨p2, 0, none⟩)) := by rw [hb3.cell (p := ⟨w2.heap.size, 2, none⟩) (by simp; omega)]; exact e3
  have r4 : w3.cell? ⟨w2.heap.size + 1, 0, none⟩ = some (.pointer none) := by rw [hb3.cell (p := ⟨w2.heap.size + 1, 0, none⟩) (by simp; omega)]; exact r3
  have f4 : w3.frozen? ⟨w2.heap.size + 1, 0, none⟩ = false := by rw [hb3.frozen (p := ⟨w2.heap.size + 1, 0, none⟩) (by simp; omega)]; exact f3
  have z4 : w2.heap.size + 3 ≤ w3.heap.size := by have := hb3.size; omega
  have HB4 := hid (HB3.out.trans (hb3.mono HB3.out.size))
  clear hb3 a3 c3 d3 e3 r3 f3 z3 HB3
  go_wp2_with (first | (go_at_call 75; go_in) | (go_at_call 84; go_in) | (go_at_call 100; go_in) | (go_at_call 110; go_in) | (go_at_call 128; go_in) | (go_at_call 98; go_in) | (go_at_call 125; go_in))
  refine (HJ.out _).mono ?_
  rintro e w4 ⟨rfl, hb4⟩
  have a5 : ∀ v, (w4.setCell ⟨w2.heap.size + 1, 0, none⟩ v).cell? ⟨w.heap.size, 0, none⟩ = some (.iface 73 (.string s)) := by
    intro v
    rw [World.cell?_setCell_other w4 _ _ v (fun e9 => by injection e9 with e9; omega), hb4.cell (p := ⟨w.heap.size, 0, none⟩) (by simp; omega)]; exact a4
  have d5 : w4.cell? ⟨w2.heap.size, 0, none⟩ = some (.pointer (some ⟨w.heap.size, 0, none⟩)) := by rw [hb4.cell (p := ⟨w2.heap.size, 0, none⟩) (by simp; omega)]; exact d4
  have r5 : w4.cell? ⟨w2.heap.size + 1, 0, none⟩ = some (.pointer none) := by rw [hb4.cell (p := ⟨w2.heap.size + 1, 0, none⟩) (by simp; omega)]; exact r4
  have f5 : w4.frozen? ⟨w2.heap.size + 1, 0, none⟩ = false := by rw [hb4.frozen (p := ⟨w2.heap.size + 1, 0, none⟩) (by simp; omega)]; exact f4
  have z5 : w2.heap.size + 1 < w4.heap.size := by have := hb4.size; omega
  have r6 : ∀ o, (w4.alloc o).cell? ⟨w2.heap.size + 1, 0, none⟩ = some (.pointer none) := fun o => by rw [World.cell?_alloc_past _ _ _ z5, r5]
  have f6 : ∀ o, (w4.alloc o).frozen? ⟨w2.heap.size + 1, 0, none⟩ = false := fun o => by rw [World.frozen?_alloc_past _ _ _ z5, f5]
  have HB5 := hid (HB4.out.trans (hb4.mono HB4.out.size))
  clear hb4 a4 c4 d4 e4 r4 f4 z4 HB4 y1 y2
  by_cases hneg : from_ < 0
  · have HX : Hid (subR s from_ n = .tuple #[.string ⟨#[]⟩, .bool false]) := hid (by unfold subR; rw [if_pos hneg])
    go_wp2_with (first | (go_at_call 131; refine (HA.out _).mono ?_; rintro e w9 ⟨rfl, rfl⟩) | go_in)
    go_ret2
    refine ⟨by rw [HX.out]; rfl, ?_⟩
    repeat (first | exact HB5.out | exact Below.refl _ _ | (refine Below.drew ?_) | (refine Below.alloc ?_ (by first | omega | (simp; done) | (simp; omega)) _) | (refine Below.setCell ?_ (by first | omega | (simp; done) | (simp; omega)) _))
  · have HX0 : Hid (subR s from_ n = .tuple #[.string (subX s from_ n), .bool true]) := hid (by unfold subR; rw [if_neg hneg])
    have hpos : 0 ≤ from_ := by omega
    clear hneg
    cases hem : s.toList.isEmpty with
    | true =>
      have h00 : s.size = 0 := by rw [Lib.size_eq]; rw [Lib.toList_data, List.isEmpty_iff] at hem; rw [hem]; rfl
      have HX : Hid (subR s from_ n = .tuple #[.string ⟨#[]⟩, .bool true]) := hid (by rw [HX0.out]; unfold subX; rw [if_pos (by omega)])
      go_wp2_with (first | (go_at_call 131; refine (HA.out _).mono ?_; rintro e w9 ⟨rfl, rfl⟩) | go_in)
      go_ret2
      refine ⟨by rw [HX.out]; rfl, ?_⟩
      repeat (first | exact HB5.out | exact Below.refl _ _ | (refine Below.drew ?_) | (refine Below.alloc ?_ (by first | omega | (simp; done) | (simp; omega)) _) | (refine Below.setCell ?_ (by first | omega | (simp; done) | (simp; omega)) _))
    | false =>
    by_cases hge : (s.size : Int) ≤ from_
    · have HX : Hid (subR s from_ n = .tuple #[.string ⟨#[]⟩, .bool true]) := hid (by rw [HX0.out]; unfold subX; rw [if_pos hge])
      go_wp2_with (first | (go_at_call 131; refine (HA.out _).mono ?_; rintro e w9 ⟨rfl, rfl⟩) | go_in)
      go_ret2
      refine ⟨by rw [HX.out]; rfl, ?_⟩
      repeat (first | exact HB5.out | exact Below.refl _ _ | (refine Below.drew ?_) | (refine Below.alloc ?_ (by first | omega | (simp; done) | (simp; omega)) _) | (refine Below.setCell ?_ (by first | omega | (simp; done) | (simp; omega)) _))
    · by_cases hn : n < 0
      · have HX : Hid (subR s from_ n = .tuple #[.string (s.extract from_.toNat s.size), .bool true]) := hid (by rw [HX0.out]; unfold subX; rw [if_neg hge, if_neg (by omega)])
        go_wp2_with (first | (go_at_call 131; refine (HA.out _).mono ?_; rintro e w9 ⟨rfl, rfl⟩) | go_in)
        go_ret2
        refine ⟨by rw [HX.out]; rfl, ?_⟩
        repeat (first | exact HB5.out | exact Below.refl _ _ | (refine Below.drew ?_) | (refine Below.alloc ?_ (by first | omega | (simp; done) | (simp; omega)) _) | (refine Below.setCell ?_ (by first | omega | (simp; done) | (simp; omega)) _))
      · by_cases hz : from_ = 0 ∧ (s.size : Int) ≤ n
        · have hne : ¬ s = ByteArray.empty := fun h9 => hge (by rw [h9]; exact hpos)
          obtain ⟨rfl, hzn⟩ := hz
          have HX : Hid (subR s 0 n = .tuple #[.string s, .bool true]) := hid (by
            rw [HX0.out]; unfold subX; rw [if_neg hge, if_neg (by omega)]
            rw [show s.extract (0 : Int).toNat s.size = s from ByteArray.extract_zero_size])
          have hzb : decide ((s.size : Int) ≤ n) = true := decide_eq_true hzn
          go_wp2_with (first | (go_at_call 131; refine (HA.out _).mono ?_; rintro e w9 ⟨rfl, rfl⟩) | go_in)
          go_ret2
          refine ⟨by rw [HX.out]; rfl, ?_⟩
          repeat (first | exact HB5.out | exact Below.refl _ _ | (refine Below.drew ?_) | (refine Below.alloc ?_ (by first | omega | (simp; done) | (simp; omega)) _) | (refine Below.setCell ?_ (by first | omega | (simp; done) | (simp; omega)) _))
        · have hq : from_ = 0 → decide ((s.size : Int) ≤ n) = false := fun h => decide_eq_false (fun h' => hz ⟨h, h'⟩)
          have HX : Hid (subR s from_ n = .tuple #[.string (s.extract from_.toNat (from_ + min n (s.size - from_)).toNat), .bool true]) := hid (by
            rw [HX0.out]; unfold subX; rw [if_neg hge]
            by_cases h9 : n < s.size - from_
            · rw [if_pos ⟨by omega, h9⟩, show min n (s.size - from_) = n by omega]
            · rw [if_neg (by omega), show (from_ + min n (s.size - from_)).toNat = s.size by omega])
          by_cases hf : from_ = 0
          · have hne : ¬ s = ByteArray.empty := fun h9 => hge (by rw [h9]; exact hpos)
            subst hf
            have hq1 := hq rfl
            clear hq
            have HX : Hid (subR s 0 n = .tuple #[.string (s.extract 0 (min n s.size).toNat), .bool true]) := hid (by have h9 := HX.out; rw [Int.zero_add, Int.sub_zero] at h9; exact h9)
            go_wp2_with (first | (go_at_call 131; refine (HA.out _).mono ?_; rintro e w9 ⟨rfl, rfl⟩) | go_in)
            go_ret2
            refine ⟨by rw [HX.out]; rfl, ?_⟩
            repeat (first | exact HB5.out | exact Below.refl _ _ | (refine Below.drew ?_) | (refine Below.alloc ?_ (by first | omega | (simp; done) | (simp; omega)) _) | (refine Below.setCell ?_ (by first | omega | (simp; done) | (simp; omega)) _))
          · clear hq
            go_wp2_with (first | (go_at_call 131; refine (HA.out _).mono ?_; rintro e w9 ⟨rfl, rfl⟩) | go_in)
            go_ret2
            refine ⟨by rw [HX.out]; rfl, ?_⟩
            repeat (first | exact HB5.out | exact Below.refl _ _ | (refine Below.drew ?_) | (refine Below.alloc ?_ (by first | omega | (simp; done) | (simp; omega)) _) | (refine Below.setCell ?_ (by first | omega | (simp; done) | (simp; omega)) _))
end Go.Proofs.YtlallleahgfdkaaGreatDoor
