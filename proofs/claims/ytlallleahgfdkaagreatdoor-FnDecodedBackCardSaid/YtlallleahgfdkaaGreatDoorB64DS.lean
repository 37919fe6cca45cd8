/- encoding/base64's Encoding.DecodeString at a padded encoding: the bytes that were encoded, and no error. Conditions: the Encoding's cells read so; at most 1000 bytes were encoded. -/
import Derived.Test.YtlallleahgfdkaaGreatDoorB64Dec
namespace Go.Proofs.YtlallleahgfdkaaGreatDoor
open Go.RowKit

set_option maxRecDepth 100000 in
set_option maxHeartbeats 4000000 in
theorem decodeAny (al s : ByteArray) (be bs bd cs m N3 N4 : Nat) (F g : Nat → Value) (w : World) (ha : Alpha al) (hn : s.size ≤ 2147483647) (hm : m = (s.size + 2) / 3) (h3 : N3 = 3 * m) (h4 : N4 = 4 * m) (hcs : N4 ≤ cs)
    (hg : EncF al 64 61 g) (he : w.rowIs be 133 322 g) (hsrc : ∀ i, i < 4 * m → w.cell? ⟨bs, i, none⟩ = some (.int .u8 (encN al s i))) (hd : w.rowIs bd 5 N3 F) (hbe : be < bd) (hbs2 : bs < w.heap.size) (hbsd : bs ≠ bd) :
    Calls Tryz.prog 171 #[.pointer (some ⟨be, 0, none⟩), .slice (some ⟨bd, 0, none⟩) N3 N3, .slice (some ⟨bs, 0, none⟩) N4 cs] w fun e w' =>
      e = .returned (.tuple #[.int .i64 (s.size : Nat), .nilIface]) ∧ (∃ F', w'.rowIs bd 5 N3 F' ∧ ∀ j, j < s.size → F' j = .int .u8 (bv s j : Nat)) ∧ w.grownBy w' (some bd) := by
  by_cases h0 : 0 < s.size
  · exact decode_any al s be bs bd cs m N3 N4 F g w ha h0 hn hm h3 h4 hcs hg he hsrc hd hbe hbs2 hbsd
  · have hs : s.size = 0 := by omega
    have h40 : N4 = 0 := by omega
    have HD := hid hd
    rw [hs, h40]
    clear hd hsrc hg he hs h0 hm h3 h4 h40 hcs
    go_enter Tryz.func171, Tryz.ntmps171
    go_wp2
    go_ret2
    exact ⟨rfl, ⟨F, HD.out, fun j hj => by omega⟩, grow_refl w bd⟩

theorem bv_row (t : ByteArray) (cap i : Nat) (h : i < t.size) : (bytesRow t cap)[i]? = some (.int .u8 (bv t i : Nat)) := by
  rw [bytesRow_at t cap i h, bv_at t i h]
  rfl
theorem conv_part {w : World} {b n : Nat} (f : Nat → Nat) (h : ∀ i, i < n → w.cell? ⟨b, i, none⟩ = some (.int .u8 (f i : Nat))) (cap : Nat) :
    (convert 58 9 (.slice (some ⟨b, 0, none⟩) n cap)).run Tryz.prog w = .ok (.string ⟨((List.range n).map fun i => UInt8.ofNat (f i)).toArray⟩) w := by
  rw [run_convert_bytes_arg (P := Tryz.prog) w 58 5 Tryz.underlying58 Tryz.underlying5 b 0 n cap ((List.range n).map fun i => ((f i : Nat) : Int)) (by simp) (fun i hi => by
    rw [Nat.zero_add, h i hi]
    simp [hi]) 9 Tryz.underlying9, str_of]
theorem bytes_all (s : ByteArray) : (⟨((List.range s.size).map fun i => UInt8.ofNat (bv s i)).toArray⟩ : ByteArray) = s := by
  apply ByteArray.ext
  apply Array.ext
  · simp
  · intro i h1 h2
    have h3 : i < s.size := h2
    have : ((List.range s.size).map fun i => UInt8.ofNat (bv s i)).toArray[i]? = some s.data[i] := by
      simp [h3, bv_at s i h3]
      rfl
    exact (Array.getElem?_eq_some_iff.1 this).2
set_option maxRecDepth 100000 in
set_option maxHeartbeats 4000000 in
theorem decStr_any (al s t : ByteArray) (be : Nat) (g : Nat → Value) (w : World) (ha : Alpha al) (hn : s.size ≤ 1000) (ht : t = encS al s ((s.size + 2) / 3 * 4)) (hg : EncF al 64 61 g) (he : w.rowIs be 133 322 g) :
    Calls Tryz.prog 137 #[.pointer (some ⟨be, 0, none⟩), .string t] w fun e w' => ∃ cap, e = .returned (.tuple #[.slice (some ⟨w.heap.size, 0, none⟩) s.size cap, .nilIface]) ∧
      (convert 58 9 (.slice (some ⟨w.heap.size, 0, none⟩) s.size cap)).run Tryz.prog w' = .ok (.string s) w' ∧ Below w.heap.size w w' := by
  obtain ⟨m, hm⟩ : ∃ m, m = (s.size + 2) / 3 := ⟨_, rfl⟩
  obtain ⟨N3, h3⟩ : ∃ N3, N3 = 3 * m := ⟨_, rfl⟩
  obtain ⟨N4, h4⟩ : ∃ N4, N4 = t.size := ⟨_, rfl⟩
  have hts : t.size = 4 * m := by rw [ht, encS_size]; omega
  have h4' : N4 = 4 * m := by omega
  have hat : ∀ i, i < t.size → bv t i = encN al s i := fun i hi => by rw [ht]; exact encS_at al s _ i (by rw [hts] at hi; omega)
  have hp : w.cell? ⟨be, 320, none⟩ = some (.int .i32 61) := by rw [he.cell (by omega), hg.padc]
  have hL := decLen_any be t.size w (by omega) hp
  rw [show t.size / 4 * 3 = N3 by omega] at hL
  have HL := hid hL
  have hN3 : N3 ≤ 4000 := by omega
  have hmk : ∀ w : World, (Instr.makeSlice 58 (.int .i64 (N3 : Int)) (.int .i64 (N3 : Int))).run Tryz.prog w = .ok (.slice (some ⟨w.heap.size, 0, none⟩) N3 N3) (w.alloc (.cells (madeCells #[.int .u8 0] N3) 5)) := fun w => run_make_row' (P := Tryz.prog) 58 5 (.int .u8 0) 1 Tryz.underlying58 info5 rfl .i64 .i64 N3 (by omega) (by omega) w
  have hcv := fun w => run_bytes_of_string (P := Tryz.prog) w 9 58 5 t Tryz.underlying9 Tryz.underlying58 Tryz.underlying5
  have HE := hid (And.intro hg (And.intro he (And.intro hat (And.intro hts (And.intro hm h3)))))
  have HA := hid ha
  have hbe := he.lt
  have hsn : s.size ≤ N3 := by omega
  clear hg he ha hat hts hm h3 h4 h4' ht hL hp
  go_enter Tryz.func137, Tryz.ntmps137
  go_wp2_with fail
  refine HL.out.mono ?_
  rintro e w1 ⟨rfl, rfl⟩
  clear HL
  go_wp2_with fail
  have hge := grownCap_ge (w.alloc (.cells (madeCells #[.int .u8 0] N3) 5)) t.size 0 5
  generalize grownCap (w.alloc (.cells (madeCells #[.int .u8 0] N3) 5)) t.size 0 5 = cap at hge ⊢
  have hsz : (w.alloc (.cells (madeCells #[.int .u8 0] N3) 5)).heap.size = w.heap.size + 1 := by simp
  have hB2 : ∀ o, Below w.heap.size w ((w.alloc (.cells (madeCells #[.int .u8 0] N3) 5)).alloc o).drew := fun o => (((Below.refl _ w).alloc (Nat.le_refl _) _).alloc (by simp) o).drew
  refine (decodeAny al s be (w.heap.size + 1) w.heap.size cap m N3 t.size (fun _ => .int .u8 0) g _ HA.out (by omega) HE.out.2.2.2.2.1 HE.out.2.2.2.2.2 HE.out.2.2.2.1 hge HE.out.1 ((HE.out.2.1.alloc _).alloc _).drew (fun i hi => ?_) ((World.rowIs_made w (.int .u8 0) N3 5).alloc _).drew hbe (by simp) (by omega)).mono ?_
  · have hi2 : i < t.size := by have := HE.out.2.2.2.1; omega
    show ((w.alloc (.cells (madeCells #[.int .u8 0] N3) 5)).alloc _).cell? _ = _
    rw [← hsz, World.cell?_alloc_mark, bv_row t cap i hi2, HE.out.2.2.1 i hi2]
  rintro e w2 ⟨rfl, ⟨F', hr, hF⟩, hg⟩
  have HX := hid (conv_part (b := w.heap.size) (n := s.size) (bv s) (fun i hi => by rw [hr.cell (by omega), hF i hi]) N3)
  have HB : Hid (Below w.heap.size w w2) := (hB2 _).grown hg (by simp; omega) (fun k hk => by cases hk; exact Nat.le_refl _)
  have c1 : (0 : Int) ≤ (s.size : Int) := by omega
  have c2 : (s.size : Int) ≤ (N3 : Int) := by omega
  clear hr hF hg hB2 hmk hcv
  go_wp2
  go_ret2
  rw [bytes_all] at HX
  exact ⟨N3, rfl, HX.out, HB.out⟩
end Go.Proofs.YtlallleahgfdkaaGreatDoor
