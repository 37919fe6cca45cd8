/- The laws FnInParts and FnSubstring: called with any arguments, where the table of powers of ten reads as laid, they return true, and make new memory alone. -/
import Derived.Test.YtlallleahgfdkaaGreatDoorSub
namespace Go.Proofs.YtlallleahgfdkaaGreatDoor
open Go.RowKit

theorem sub_any (s : ByteArray) (from_ n : Int) (w : World) (hs : s.size ≤ 1000) (ha : AllAscii s) (hf1 : from_ ≤ 1099511627776) (hf0 : -1099511627776 ≤ from_) (hn1 : n ≤ 1099511627776) (hn0 : -1099511627776 ≤ n) (HT : Hid (PowAt w)) :
    Calls Tryz.prog 45 #[.string s, .int .i64 from_, .int .i64 n] w fun e w' => e = .returned (subR s from_ n) ∧ Below w.heap.size w w' :=
  sub_core s from_ n ⟨(Lib.itoa from_).toArray⟩ ⟨(Lib.itoa n).toArray⟩ w hs hf1 hf0 hn1 hn0 HT (hid fun W => isAscii_any s W (by omega) ha)
    (hid fun W h => num_any from_ (by omega) (by omega) W (hid h)) (hid fun W h => num_any n (by omega) (by omega) W (hid h))
    (hid fun W => atoi_itoa from_ (by omega) (by omega) W) (hid fun W => atoi_itoa n (by omega) (by omega) W)

theorem ext_ext (s : ByteArray) (f k : Nat) (_h : f + k ≤ s.size) : (s.extract f s.size).extract 0 k = s.extract f (f + k) := by
  rw [← Lib.mk_data (ByteArray.extract (ByteArray.extract _ _ _) _ _), ← Lib.mk_data (s.extract f (f + k)), Lib.extract_data, Lib.extract_data, Lib.extract_data]
  rw [Lib.size_eq] at *
  rw [show s.data.toList.length - f = s.data.toList.length - f from rfl]
  congr 2
  simp [List.take_take]

set_option maxRecDepth 100000 in
set_option maxHeartbeats 4000000 in
theorem specSub_any (s : ByteArray) (from_ n : Int) (w : World) (_hs : s.size ≤ 1000) (h0 : 0 ≤ from_) (hn1 : n ≤ 1099511627776) (hn0 : -1099511627776 ≤ n) :
    Calls Tryz.prog 46 #[.string s, .int .i64 from_, .int .i64 n] w fun e w' => e = .returned (.string (subX s from_ n)) ∧ w = w' := by
  by_cases hge : (s.size : Int) ≤ from_
  · have HX : Hid (subX s from_ n = ⟨#[]⟩) := hid (by unfold subX; rw [if_pos hge])
    go_enter Tryz.func46, Tryz.ntmps46
    go_wp2
    go_ret
    exact ⟨ret_str HX.out.symm, rfl⟩
  · obtain ⟨f, rfl⟩ : ∃ f : Nat, from_ = f := ⟨from_.toNat, by omega⟩
    have hfs : f < s.size := by omega
    obtain ⟨t, ht⟩ : ∃ t, t = s.extract f s.size := ⟨_, rfl⟩
    have hts : t.size = s.size - f := by rw [ht, ByteArray.size_extract]; omega
    by_cases hn : 0 ≤ n ∧ n < s.size - f
    · obtain ⟨k, rfl⟩ : ∃ k : Nat, n = k := ⟨n.toNat, by omega⟩
      have HX : Hid (subX s f k = (s.extract f s.size).extract 0 k) := hid (by
        unfold subX; rw [if_neg hge, if_pos hn, ext_ext s f k (by omega)]; rfl)
      have hk : k < s.size - f := by omega
      have hq : decide ((k : Int) < ((s.extract f s.size).size : Int)) = true := decide_eq_true (by rw [← ht, hts]; omega)
      go_enter Tryz.func46, Tryz.ntmps46
      go_wp2
      go_ret
      exact ⟨ret_str (by rw [HX.out]), rfl⟩
    · have HX : Hid (subX s f n = s.extract f s.size) := hid (by unfold subX; rw [if_neg hge, if_neg hn]; rfl)
      by_cases hneg : n < 0
      · go_enter Tryz.func46, Tryz.ntmps46
        go_wp2
        go_ret
        exact ⟨ret_str (by rw [HX.out]), rfl⟩
      · have hq : decide (n < ((s.extract f s.size).size : Int)) = false := decide_eq_false (by rw [← ht, hts]; omega)
        go_enter Tryz.func46, Tryz.ntmps46
        go_wp2
        go_ret
        exact ⟨ret_str (by rw [HX.out]), rfl⟩

theorem parts_eq (s : ByteArray) (n : Int) (h0 : 0 ≤ n) (h1 : n ≤ s.size) : ((subX s 0 n ++ subX s n (-1)).toList == s.toList) = true := by
  obtain ⟨k, rfl⟩ : ∃ k : Nat, n = k := ⟨n.toNat, by omega⟩
  have e1 : (subX s 0 k).data.toList = s.data.toList.take k := by
    unfold subX
    by_cases h : (s.size : Int) ≤ 0
    · rw [if_pos h]
      have h2 : s.data.toList.length = 0 := by rw [← Lib.size_eq]; omega
      rw [List.eq_nil_of_length_eq_zero h2]; simp
    · rw [if_neg h]
      by_cases h9 : (0 : Int) ≤ k ∧ (k : Int) < s.size - 0
      · rw [if_pos h9, Lib.extract_data]; simp
      · rw [if_neg h9, Lib.extract_data]
        rw [show k = s.size by omega]; simp
  have e2 : (subX s k (-1)).data.toList = s.data.toList.drop k := by
    unfold subX
    by_cases h : (s.size : Int) ≤ k
    · rw [if_pos h, List.drop_of_length_le (by rw [← Lib.size_eq]; omega)]
    · rw [if_neg h, if_neg (by omega), Lib.extract_data, List.take_of_length_le (by rw [List.length_drop, ← Lib.size_eq]; exact Nat.le_refl _)]
      simp
  rw [beq_iff_eq, Lib.toList_data, Lib.toList_data, ByteArray.data_append, Array.toList_append, e1, e2, List.take_append_drop]
set_option maxRecDepth 100000 in
set_option maxHeartbeats 4000000 in
theorem fnInParts_any (s : ByteArray) (n : Int) (w : World) (HT : Hid (PowAt w)) :
    Calls Tryz.prog 14 #[.string s, .int .i64 n] w fun e w' => e = .returned (.bool true) ∧ Below w.heap.size w w' := by
  by_cases h1 : 2147483647 < s.size
  · go_enter Tryz.func14, Tryz.ntmps14
    go_wp2
    go_ret
    exact ⟨rfl, Below.refl _ _⟩
  go_enter Tryz.func14, Tryz.ntmps14
  go_wp2_with fail
  refine (ascii_any [s] _ _ (by simp) (fun i hi => ?_) (fun i hi => ?_)).mono ?_
  · match i, hi with
    | 0, _ => show s.size ≤ _; omega
  · match i, hi with
    | 0, _ => simp
  rintro e w1 ⟨asc, rfl, hasc, rfl⟩
  have HB := hid (((Below.refl w.heap.size w).alloc (Nat.le_refl _) (.cells #[.string s] 9)))
  have HASC := hid hasc
  clear hasc
  cases asc with
  | false =>
    go_wp2_with fail
    refine (alive_any _).mono ?_
    rintro e w2 ⟨rfl, hb2⟩
    have HB2 := hid (HB.out.trans (hb2.mono HB.out.size))
    clear hb2
    go_wp2
    go_ret
    exact ⟨rfl, HB2.out⟩
  | true =>
  by_cases h2 : 1000 < s.size
  · clear HASC
    go_wp2_with fail
    refine (alive_any _).mono ?_
    rintro e w2 ⟨rfl, hb2⟩
    have HB2 := hid (HB.out.trans (hb2.mono HB.out.size))
    clear hb2
    go_wp2
    go_ret
    exact ⟨rfl, HB2.out⟩
  by_cases h3 : n < 0
  · clear HASC
    go_wp2_with fail
    refine (alive_any _).mono ?_
    rintro e w2 ⟨rfl, hb2⟩
    have HB2 := hid (HB.out.trans (hb2.mono HB.out.size))
    clear hb2
    go_wp2
    go_ret
    exact ⟨rfl, HB2.out⟩
  by_cases h4 : (s.size : Int) < n
  · clear HASC
    go_wp2_with fail
    refine (alive_any _).mono ?_
    rintro e w2 ⟨rfl, hb2⟩
    have HB2 := hid (HB.out.trans (hb2.mono HB.out.size))
    clear hb2
    go_wp2
    go_ret
    exact ⟨rfl, HB2.out⟩
  have ha : AllAscii s := HASC.out rfl 0 (by simp)
  have HA := hid ha
  clear ha HASC
  have HP := hid (parts_eq s n (by omega) (by omega))
  have HC1 := hid (fun W (h : PowAt W) => sub_any s 0 n W (by omega) HA.out (by omega) (by omega) (by omega) (by omega) (hid h))
  have HC2 := hid (fun W (h : PowAt W) => sub_any s n (-1) W (by omega) HA.out (by omega) (by omega) (by omega) (by omega) (hid h))
  rw [show subR s 0 n = .tuple #[.string (subX s 0 n), .bool true] by unfold subR; rw [if_neg (by omega)]] at HC1
  rw [show subR s n (-1) = .tuple #[.string (subX s n (-1)), .bool true] by unfold subR; rw [if_neg (by omega)]] at HC2
  obtain ⟨x, hx⟩ : ∃ x, x = subX s 0 n := ⟨_, rfl⟩
  obtain ⟨y, hy⟩ : ∃ y, y = subX s n (-1) := ⟨_, rfl⟩
  rw [← hx] at HC1
  rw [← hy] at HC2
  rw [← hx, ← hy] at HP
  clear hx hy
  have hp := HP.out
  have hxy : x.size + y.size = s.size := by
    have h9 := congrArg List.length (beq_iff_eq.1 hp)
    rw [Lib.toList_data, Lib.toList_data, ← Lib.size_eq, ← Lib.size_eq, ByteArray.size_append] at h9
    exact h9
  have hxs : x.size ≤ 1000 := by omega
  have hys : y.size ≤ 1000 := by omega
  clear hxy
  go_wp2_with fail
  refine (HC1.out _ (HT.out.of HB.out)).mono ?_
  rintro e w3 ⟨rfl, hb3⟩
  have HB3 := hid (HB.out.trans (hb3.mono HB.out.size))
  clear hb3 HB
  go_wp2_with fail
  refine (of_any _ _).mono ?_
  rintro e w4 ⟨rfl, rfl⟩
  go_wp2_with fail
  refine (HC2.out _ (HT.out.of HB3.out)).mono ?_
  rintro e w5 ⟨rfl, hb5⟩
  have HB5 := hid (HB3.out.trans (hb5.mono HB3.out.size))
  clear hb5 HB3
  go_wp2_with fail
  refine (of_any _ _).mono ?_
  rintro e w6 ⟨rfl, rfl⟩
  go_wp2
  go_ret
  exact ⟨rfl, HB5.out⟩

set_option maxRecDepth 100000 in
set_option maxHeartbeats 4000000 in
theorem fnSubstring_any (s : ByteArray) (from_ n : Int) (w : World) (HT : Hid (PowAt w)) :
    Calls Tryz.prog 15 #[.string s, .int .i64 from_, .int .i64 n] w fun e w' => e = .returned (.bool true) ∧ Below w.heap.size w w' := by
  by_cases h1 : 2147483647 < s.size
  · go_enter Tryz.func15, Tryz.ntmps15
    go_wp2
    go_ret
    exact ⟨rfl, Below.refl _ _⟩
  go_enter Tryz.func15, Tryz.ntmps15
  go_wp2_with fail
  refine (ascii_any [s] _ _ (by simp) (fun i hi => ?_) (fun i hi => ?_)).mono ?_
  · match i, hi with
    | 0, _ => show s.size ≤ _; omega
  · match i, hi with
    | 0, _ => simp
  rintro e w1 ⟨asc, rfl, hasc, rfl⟩
  have HB := hid (((Below.refl w.heap.size w).alloc (Nat.le_refl _) (.cells #[.string s] 9)))
  have HASC := hid hasc
  clear hasc
  cases asc with
  | false =>
    go_wp2_with fail
    refine (alive_any _).mono ?_
    rintro e w2 ⟨rfl, hb2⟩
    have HB2 := hid (HB.out.trans (hb2.mono HB.out.size))
    clear hb2
    go_wp2
    go_ret
    exact ⟨rfl, HB2.out⟩
  | true =>
  by_cases h2 : 1000 < s.size
  · clear HASC
    go_wp2_with fail
    refine (alive_any _).mono ?_
    rintro e w2 ⟨rfl, hb2⟩
    have HB2 := hid (HB.out.trans (hb2.mono HB.out.size))
    clear hb2
    go_wp2
    go_ret
    exact ⟨rfl, HB2.out⟩
  by_cases h3 : 1099511627776 < from_
  · clear HASC
    go_wp2_with fail
    refine (alive_any _).mono ?_
    rintro e w2 ⟨rfl, hb2⟩
    have HB2 := hid (HB.out.trans (hb2.mono HB.out.size))
    clear hb2
    go_wp2
    go_ret
    exact ⟨rfl, HB2.out⟩
  by_cases h4 : from_ < -1099511627776
  · clear HASC
    go_wp2_with fail
    refine (alive_any _).mono ?_
    rintro e w2 ⟨rfl, hb2⟩
    have HB2 := hid (HB.out.trans (hb2.mono HB.out.size))
    clear hb2
    go_wp2
    go_ret
    exact ⟨rfl, HB2.out⟩
  by_cases h5 : 1099511627776 < n
  · clear HASC
    go_wp2_with fail
    refine (alive_any _).mono ?_
    rintro e w2 ⟨rfl, hb2⟩
    have HB2 := hid (HB.out.trans (hb2.mono HB.out.size))
    clear hb2
    go_wp2
    go_ret
    exact ⟨rfl, HB2.out⟩
  by_cases h6 : n < -1099511627776
  · clear HASC
    go_wp2_with fail
    refine (alive_any _).mono ?_
    rintro e w2 ⟨rfl, hb2⟩
    have HB2 := hid (HB.out.trans (hb2.mono HB.out.size))
    clear hb2
    go_wp2
    go_ret
    exact ⟨rfl, HB2.out⟩
  have ha : AllAscii s := HASC.out rfl 0 (by simp)
  have HA := hid ha
  clear ha HASC
  have HC1 := hid (fun W (h : PowAt W) => sub_any s from_ n W (by omega) HA.out (by omega) (by omega) (by omega) (by omega) (hid h))
  by_cases hneg : from_ < 0
  · rw [show subR s from_ n = .tuple #[.string ⟨#[]⟩, .bool false] by unfold subR; rw [if_pos hneg]] at HC1
    go_wp2_with fail
    refine (HC1.out _ (HT.out.of HB.out)).mono ?_
    rintro e w3 ⟨rfl, hb3⟩
    have HB3 := hid (HB.out.trans (hb3.mono HB.out.size))
    clear hb3 HB
    go_wp2_with fail
    refine (alive_any _).mono ?_
    rintro e w2 ⟨rfl, hb2⟩
    have HB2 := hid (HB3.out.trans (hb2.mono HB3.out.size))
    clear hb2
    go_wp2
    go_ret
    exact ⟨rfl, HB2.out⟩
  · rw [show subR s from_ n = .tuple #[.string (subX s from_ n), .bool true] by unfold subR; rw [if_neg hneg]] at HC1
    have HC2 := hid (fun W => specSub_any s from_ n W (by omega) (by omega) (by omega) (by omega))
    obtain ⟨x, hx⟩ : ∃ x, x = subX s from_ n := ⟨_, rfl⟩
    rw [← hx] at HC1 HC2
    clear hx
    go_wp2_with fail
    refine (HC1.out _ (HT.out.of HB.out)).mono ?_
    rintro e w3 ⟨rfl, hb3⟩
    have HB3 := hid (HB.out.trans (hb3.mono HB.out.size))
    clear hb3 HB
    go_wp2_with fail
    refine (HC2.out _).mono ?_
    rintro e w4 ⟨rfl, rfl⟩
    go_wp2_with fail
    refine (is_yes _ _).mono ?_
    rintro e w5 ⟨rfl, rfl⟩
    go_wp2_with fail
    refine (alive_any _).mono ?_
    rintro e w2 ⟨rfl, hb2⟩
    have HB2 := hid (HB3.out.trans (hb2.mono HB3.out.size))
    clear hb2
    go_wp2
    go_ret
    exact ⟨rfl, HB2.out⟩

end Go.Proofs.YtlallleahgfdkaaGreatDoor
