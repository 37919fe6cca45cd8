/- The two alphabets; stdEncoding, urlEncoding, Encoding.WithPadding without padding, Encoding.EncodeToString, padded and not. Conditions: the Encoding's cells read so, the source is in memory, at most 2^31 - 1 bytes long. -/
import Derived.Test.YtlallleahgfdkaaGreatDoorB64Enc
namespace Go.Proofs.YtlallleahgfdkaaGreatDoor
open Go.RowKit

/-- The standard alphabet. -/
def alStd : ByteArray := ⟨#[65, 66, 67, 68, 69, 70, 71, 72, 73, 74, 75, 76, 77, 78, 79, 80, 81, 82, 83, 84, 85, 86, 87, 88, 89, 90, 97, 98, 99, 100, 101, 102, 103, 104, 105, 106, 107, 108, 109, 110, 111, 112, 113, 114, 115, 116, 117, 118, 119, 120, 121, 122, 48, 49, 50, 51, 52, 53, 54, 55, 56, 57, 43, 47]⟩
/-- The alphabet for URLs. -/
def alUrl : ByteArray := ⟨#[65, 66, 67, 68, 69, 70, 71, 72, 73, 74, 75, 76, 77, 78, 79, 80, 81, 82, 83, 84, 85, 86, 87, 88, 89, 90, 97, 98, 99, 100, 101, 102, 103, 104, 105, 106, 107, 108, 109, 110, 111, 112, 113, 114, 115, 116, 117, 118, 119, 120, 121, 122, 48, 49, 50, 51, 52, 53, 54, 55, 56, 57, 45, 95]⟩
theorem alpha_std : Alpha alStd := ⟨by rfl, by decide +kernel, by decide +kernel⟩
theorem alpha_url : Alpha alUrl := ⟨by rfl, by decide +kernel, by decide +kernel⟩

set_option maxRecDepth 100000 in
set_option maxHeartbeats 4000000 in
theorem std_any (w : World) :
    Calls Tryz.prog 135 #[] w fun e w' => e = .returned (.pointer (some ⟨w.heap.size, 0, none⟩)) ∧ (∃ g, EncF alStd 64 61 g ∧ w'.rowIs w.heap.size 133 322 g) ∧ Below w.heap.size w w' := by
  have HN := hid (fun W => new_any alStd W alpha_std)
  go_enter Tryz.func135, Tryz.ntmps135
  go_wp2_with fail
  refine (HN.out _).mono ?_
  rintro e w1 ⟨rfl, hx, hb⟩
  have HX := hid (And.intro hx hb)
  clear hx hb HN
  go_wp2_with fail
  go_ret
  exact ⟨rfl, HX.out.1, HX.out.2⟩
set_option maxRecDepth 100000 in
set_option maxHeartbeats 4000000 in
theorem url_any (w : World) :
    Calls Tryz.prog 138 #[] w fun e w' => e = .returned (.pointer (some ⟨w.heap.size, 0, none⟩)) ∧ (∃ g, EncF alUrl 64 61 g ∧ w'.rowIs w.heap.size 133 322 g) ∧ Below w.heap.size w w' := by
  have HN := hid (fun W => new_any alUrl W alpha_url)
  go_enter Tryz.func138, Tryz.ntmps138
  go_wp2_with fail
  refine (HN.out _).mono ?_
  rintro e w1 ⟨rfl, hx, hb⟩
  have HX := hid (And.intro hx hb)
  clear hx hb HN
  go_wp2_with fail
  go_ret
  exact ⟨rfl, HX.out.1, HX.out.2⟩
theorem enc_pad {al : ByteArray} {k : Nat} {p p' : Int} {g : Nat → Value} (h : EncF al k p g) : EncF al k p' (fun j => if j = 320 then .int .i32 p' else g j) := by
  refine ⟨fun j hj => ?_, fun j hj => ?_, fun b hb hm => ?_, ?_, ?_⟩
  · show (if _ then _ else _) = _
    rw [if_neg (by omega)]; exact h.enc j hj
  · show (if _ then _ else _) = _
    have := bv_lt al j
    rw [if_neg (by omega)]; exact h.hit j hj
  · show (if _ then _ else _) = _
    rw [if_neg (by omega)]; exact h.miss b hb hm
  · show (if _ then _ else _) = _
    rw [if_pos rfl]
  · show (if _ then _ else _) = _
    rw [if_neg (by omega)]; exact h.strict
set_option maxRecDepth 100000 in
set_option maxHeartbeats 4000000 in
theorem withPad_any (al : ByteArray) (c : Array Value) (g : Nat → Value) (w : World) (hc : c.size = 322) (hcg : ∀ i, i < c.size → c[i]? = some (g i)) (hg : EncF al 64 61 g) :
    Calls Tryz.prog 139 #[.agg c, .int .i32 (-1)] w fun e w' => e = .returned (.pointer (some ⟨w.heap.size, 0, none⟩)) ∧ (∃ g', EncF al 64 (-1) g' ∧ w'.rowIs w.heap.size 133 322 g') ∧ Below w.heap.size w w' := by
  have hrow := World.rowIs_alloc w c 133 g hcg
  rw [hc] at hrow
  have hcell : (w.alloc (.cells c 133)).cell? ⟨w.heap.size, 320, none⟩ = some (.int .i32 61) := by rw [hrow.cell (by omega), hg.padc]
  have hfr := hrow.frozen 320
  have HROW := hid hrow
  have HG := hid hg
  clear hc hcg hg hrow
  go_enter Tryz.func139, Tryz.ntmps139
  go_wp2
  go_ret
  refine ⟨rfl, ⟨_, enc_pad HG.out, ?_⟩, (Below.refl _ _).alloc (Nat.le_refl _) _⟩
  have h := HROW.out.set 320 (.int .i32 (-1))
  have e : (w.alloc (.cells c 133)).setCell ⟨w.heap.size, 320, none⟩ (.int .i32 (-1)) = w.alloc (.cells (c.setIfInBounds 320 (.int .i32 (-1))) 133) := World.setCell_alloc_at _ _ _ _ _ rfl
  rw [e] at h
  exact h

theorem info5 : (Tryz.prog.info? 5).map (fun i => (i.zero, i.size, i.bytes)) = some (some (Value.int .u8 0), 1, 1) := by kernel_rfl
theorem str_of (f : Nat → Nat) (n : Nat) : strOfNums ((List.range n).map fun i => ((f i : Nat) : Int)) = ⟨((List.range n).map fun i => UInt8.ofNat (f i)).toArray⟩ := by
  unfold strOfNums
  rw [List.map_map]
  rfl
/-- A row of bytes as a string. -/
theorem conv_row {w : World} {b N : Nat} (f : Nat → Nat) (h : w.rowIs b 5 N (fun i => .int .u8 (f i))) (n cap : Nat) (hn : n ≤ N) :
    (convert 58 9 (.slice (some ⟨b, 0, none⟩) n cap)).run Tryz.prog w = .ok (.string ⟨((List.range n).map fun i => UInt8.ofNat (f i)).toArray⟩) w := by
  rw [run_convert_bytes_arg (P := Tryz.prog) w 58 5 Tryz.underlying58 Tryz.underlying5 b 0 n cap ((List.range n).map fun i => ((f i : Nat) : Int)) (by simp) (fun i hi => by
    rw [Nat.zero_add, h.cell (by omega)]
    simp [hi]) 9 Tryz.underlying9, str_of]
set_option maxRecDepth 100000 in
set_option maxHeartbeats 4000000 in
theorem encodeAny_pad (al s : ByteArray) (be bs bd cs N : Nat) (f g : Nat → Value) (w : World) (hn : s.size ≤ 2147483647) (hN : N = (s.size + 2) / 3 * 4) (hcs : s.size ≤ cs)
    (hg : EncF al 64 (61) g) (he : w.rowIs be 133 322 g) (hsrc : ∀ i, i < s.size → w.cell? ⟨bs, i, none⟩ = some (.int .u8 (bv s i))) (hd : w.rowIs bd 5 N f) (hbe : be < bd) (hbs : bs < bd) :
    Calls Tryz.prog 169 #[.pointer (some ⟨be, 0, none⟩), .slice (some ⟨bd, 0, none⟩) N N, .slice (some ⟨bs, 0, none⟩) s.size cs] w fun e w' =>
      e = .returned (.tuple #[]) ∧ w'.rowIs bd 5 N (fun i => .int .u8 (encN al s i)) ∧ Below bd w w' := by
  by_cases h0 : 0 < s.size
  · exact encode_pad al s be bs bd cs N f g w h0 hn hN hcs hg he hsrc hd hbe hbs
  · have hs : s.size = 0 := by omega
    have HD := hid (hd.congr (g := fun i => .int .u8 (encN al s i)) (fun i hi => by omega))
    rw [hs]
    clear hd hsrc hg he hN hs h0
    go_enter Tryz.func169, Tryz.ntmps169
    go_wp2
    refine bodyPost_ret (results_none rfl _ _ _) rfl ?_
    exact ⟨rfl, HD.out, Below.refl _ _⟩
set_option maxRecDepth 100000 in
set_option maxHeartbeats 4000000 in
theorem encStr_pad (al s : ByteArray) (be bs cs : Nat) (g : Nat → Value) (w : World) (hn : s.size ≤ 1000) (hcs : s.size ≤ cs)
    (hg : EncF al 64 (61) g) (he : w.rowIs be 133 322 g) (hsrc : ∀ i, i < s.size → w.cell? ⟨bs, i, none⟩ = some (.int .u8 (bv s i))) (hbs : bs < w.heap.size) :
    Calls Tryz.prog 136 #[.pointer (some ⟨be, 0, none⟩), .slice (some ⟨bs, 0, none⟩) s.size cs] w fun e w' => e = .returned (.string (encS al s ((s.size + 2) / 3 * 4))) ∧ Below w.heap.size w w' := by
  obtain ⟨N, hN⟩ : ∃ N, N = (s.size + 2) / 3 * 4 := ⟨_, rfl⟩
  have HL := hid (fun W hp => encLen_pad be s.size W (by omega) hp)
  have hN2 : N ≤ 4000 := by omega
  rw [← hN] at HL ⊢
  have hmk : ∀ w : World, (Instr.makeSlice 58 (.int .i64 (N : Int)) (.int .i64 (N : Int))).run Tryz.prog w = .ok (.slice (some ⟨w.heap.size, 0, none⟩) N N) (w.alloc (.cells (madeCells #[.int .u8 0] N) 5)) := fun w => run_make_row' (P := Tryz.prog) 58 5 (.int .u8 0) 1 Tryz.underlying58 info5 rfl .i64 .i64 N (by omega) (by omega) w
  have hp : w.cell? ⟨be, 320, none⟩ = some (.int .i32 (61)) := by rw [he.cell (by omega), hg.padc]
  have HE := hid (And.intro hg (And.intro he (And.intro hsrc hN)))
  have hbe := he.lt
  clear hg he hsrc hN
  go_enter Tryz.func136, Tryz.ntmps136
  go_wp2_with fail
  refine (HL.out _ hp).mono ?_
  rintro e w1 ⟨rfl, rfl⟩
  clear HL hp
  go_wp2_with fail
  refine (encodeAny_pad al s be bs w.heap.size cs N (fun _ => .int .u8 0) g _ (by omega) HE.out.2.2.2 hcs HE.out.1 (HE.out.2.1.alloc _) (fun i hi => ?_) (World.rowIs_made w _ _ _) hbe hbs).mono ?_
  · rw [World.cell?_alloc_past _ _ _ hbs]; exact HE.out.2.2.1 i hi
  rintro e w2 ⟨rfl, hrow, hb⟩
  have hcv := conv_row _ hrow N N (Nat.le_refl _)
  have HB := hid (((Below.refl _ w).alloc (Nat.le_refl _) (.cells (madeCells #[.int .u8 0] N) 5)).trans hb)
  clear hrow hb hmk
  go_wp2
  go_ret
  exact ⟨rfl, HB.out⟩
set_option maxRecDepth 100000 in
set_option maxHeartbeats 4000000 in
theorem encodeAny_no (al s : ByteArray) (be bs bd cs N : Nat) (f g : Nat → Value) (w : World) (hn : s.size ≤ 2147483647) (hN : N = s.size / 3 * 4 + (s.size % 3 * 8 + 5) / 6) (hcs : s.size ≤ cs)
    (hg : EncF al 64 (-1) g) (he : w.rowIs be 133 322 g) (hsrc : ∀ i, i < s.size → w.cell? ⟨bs, i, none⟩ = some (.int .u8 (bv s i))) (hd : w.rowIs bd 5 N f) (hbe : be < bd) (hbs : bs < bd) :
    Calls Tryz.prog 169 #[.pointer (some ⟨be, 0, none⟩), .slice (some ⟨bd, 0, none⟩) N N, .slice (some ⟨bs, 0, none⟩) s.size cs] w fun e w' =>
      e = .returned (.tuple #[]) ∧ w'.rowIs bd 5 N (fun i => .int .u8 (encN al s i)) ∧ Below bd w w' := by
  by_cases h0 : 0 < s.size
  · exact encode_no al s be bs bd cs N f g w h0 hn hN hcs hg he hsrc hd hbe hbs
  · have hs : s.size = 0 := by omega
    have HD := hid (hd.congr (g := fun i => .int .u8 (encN al s i)) (fun i hi => by omega))
    rw [hs]
    clear hd hsrc hg he hN hs h0
    go_enter Tryz.func169, Tryz.ntmps169
    go_wp2
    refine bodyPost_ret (results_none rfl _ _ _) rfl ?_
    exact ⟨rfl, HD.out, Below.refl _ _⟩
set_option maxRecDepth 100000 in
set_option maxHeartbeats 4000000 in
theorem encStr_no (al s : ByteArray) (be bs cs : Nat) (g : Nat → Value) (w : World) (hn : s.size ≤ 1000) (hcs : s.size ≤ cs)
    (hg : EncF al 64 (-1) g) (he : w.rowIs be 133 322 g) (hsrc : ∀ i, i < s.size → w.cell? ⟨bs, i, none⟩ = some (.int .u8 (bv s i))) (hbs : bs < w.heap.size) :
    Calls Tryz.prog 136 #[.pointer (some ⟨be, 0, none⟩), .slice (some ⟨bs, 0, none⟩) s.size cs] w fun e w' => e = .returned (.string (encS al s (s.size / 3 * 4 + (s.size % 3 * 8 + 5) / 6))) ∧ Below w.heap.size w w' := by
  obtain ⟨N, hN⟩ : ∃ N, N = s.size / 3 * 4 + (s.size % 3 * 8 + 5) / 6 := ⟨_, rfl⟩
  have HL := hid (fun W hp => encLen_no be s.size W (by omega) hp)
  have hN2 : N ≤ 4000 := by omega
  rw [← hN] at HL ⊢
  have hmk : ∀ w : World, (Instr.makeSlice 58 (.int .i64 (N : Int)) (.int .i64 (N : Int))).run Tryz.prog w = .ok (.slice (some ⟨w.heap.size, 0, none⟩) N N) (w.alloc (.cells (madeCells #[.int .u8 0] N) 5)) := fun w => run_make_row' (P := Tryz.prog) 58 5 (.int .u8 0) 1 Tryz.underlying58 info5 rfl .i64 .i64 N (by omega) (by omega) w
  have hp : w.cell? ⟨be, 320, none⟩ = some (.int .i32 (-1)) := by rw [he.cell (by omega), hg.padc]
  have HE := hid (And.intro hg (And.intro he (And.intro hsrc hN)))
  have hbe := he.lt
  clear hg he hsrc hN
  go_enter Tryz.func136, Tryz.ntmps136
  go_wp2_with fail
  refine (HL.out _ hp).mono ?_
  rintro e w1 ⟨rfl, rfl⟩
  clear HL hp
  go_wp2_with fail
  refine (encodeAny_no al s be bs w.heap.size cs N (fun _ => .int .u8 0) g _ (by omega) HE.out.2.2.2 hcs HE.out.1 (HE.out.2.1.alloc _) (fun i hi => ?_) (World.rowIs_made w _ _ _) hbe hbs).mono ?_
  · rw [World.cell?_alloc_past _ _ _ hbs]; exact HE.out.2.2.1 i hi
  rintro e w2 ⟨rfl, hrow, hb⟩
  have hcv := conv_row _ hrow N N (Nat.le_refl _)
  have HB := hid (((Below.refl _ w).alloc (Nat.le_refl _) (.cells (madeCells #[.int .u8 0] N) 5)).trans hb)
  clear hrow hb hmk
  go_wp2
  go_ret
  exact ⟨rfl, HB.out⟩
end Go.Proofs.YtlallleahgfdkaaGreatDoor
