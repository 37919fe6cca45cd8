/- Contracts over the dump's own small functions: type assertions as closed facts; spec.sign, spec.Valid, laws.ready, spec.ASCII, laws.of, laws.is: what each returns, and that what was in memory stays. No condition but that strings are at most 2^31 - 1 bytes long. -/
import Derived.Test.YtlallleahgfdkaaGreatDoorProg
import Derived.WalkKit
import Derived.WalkSpells
import Derived.WalkLawsBesides
import Derived.Lib.Strings
import Derived.Outline
namespace Go.Proofs.YtlallleahgfdkaaGreatDoor
open Go.RowKit
theorem ta73 (v : Value) (w : World) : (Instr.typeAssert (.iface 73 v) 66 73 true).run Tryz.prog w = .ok (.tuple #[v, .bool true]) w := by kernel_rfl
theorem ta63 (v : Value) (w : World) : (Instr.typeAssert (.iface 63 v) 66 63 true).run Tryz.prog w = .ok (.tuple #[v, .bool true]) w := by kernel_rfl
theorem ta75 (v : Value) (w : World) : (Instr.typeAssert (.iface 75 v) 66 75 true).run Tryz.prog w = .ok (.tuple #[v, .bool true]) w := by kernel_rfl
theorem ta44 (v : Value) (w : World) : (Instr.typeAssert (.iface 4 v) 20 4 true).run Tryz.prog w = .ok (.tuple #[v, .bool true]) w := by kernel_rfl
theorem ta99 (v : Value) (w : World) : (Instr.typeAssert (.iface 9 v) 20 9 true).run Tryz.prog w = .ok (.tuple #[v, .bool true]) w := by kernel_rfl
theorem ta33 (v : Value) (w : World) : (Instr.typeAssert (.iface 3 v) 20 3 true).run Tryz.prog w = .ok (.tuple #[v, .bool true]) w := by kernel_rfl
theorem ta94 (v : Value) (w : World) : (Instr.typeAssert (.iface 9 v) 20 4 true).run Tryz.prog w = .ok (.tuple #[.bool false, .bool false]) w := by kernel_rfl
theorem ta34 (v : Value) (w : World) : (Instr.typeAssert (.iface 3 v) 20 4 true).run Tryz.prog w = .ok (.tuple #[.bool false, .bool false]) w := by kernel_rfl
theorem ta39 (v : Value) (w : World) : (Instr.typeAssert (.iface 3 v) 20 9 true).run Tryz.prog w = .ok (.tuple #[.string ⟨#[]⟩, .bool false]) w := by kernel_rfl
attribute [go_sem] ta73 ta63 ta75 ta44 ta99 ta33 ta94 ta34 ta39
theorem hid {p : Prop} (h : p) : Hid p := h
theorem ret_bool {a b : Bool} (h : a = b) : Ending.returned (.bool a) = .returned (.bool b) := by rw [h]
theorem ret_str {a b : ByteArray} (h : a = b) : Ending.returned (.string a) = .returned (.string b) := by rw [h]
theorem ret_int {k : IntKind} {a b : Int} (h : a = b) : Ending.returned (.int k a) = .returned (.int k b) := by rw [h]
/-- What a contract leaves: all old cells and marks read as before. -/
theorem bcell {W w1 : World} (hb : Below W.heap.size W w1) : (∀ b o, b < W.heap.size → w1.cell? ⟨b, o, none⟩ = W.cell? ⟨b, o, none⟩) ∧ (∀ b o, b < W.heap.size → w1.frozen? ⟨b, o, none⟩ = W.frozen? ⟨b, o, none⟩) :=
  ⟨fun b o h => hb.cell (p := ⟨b, o, none⟩) h, fun b o h => hb.frozen (p := ⟨b, o, none⟩) h⟩

/-! ### spec.sign -/
def SignPost (s : ByteArray) (w : World) (e : Ending) (w' : World) : Prop :=
  ∃ (n : Int) (b : Bool), e = .returned (.tuple #[.int .i64 n, .bool b]) ∧ (b = true → 1 ≤ n ∧ n ≤ s.size) ∧ w = w'

set_option maxRecDepth 100000 in
set_option maxHeartbeats 1000000 in
theorem sign_two (s : ByteArray) (w : World) (hs : s.size ≤ 2147483647) (h0 : 0 < s.size) (hc : 192 ≤ s[0].toNat) (hc2 : s[0].toNat < 224) :
    Calls Tryz.prog 65 #[.string s] w (SignPost s w) := by
  by_cases hl : s.size < 2
  · go_enter Tryz.func65, Tryz.ntmps65
    go_wp2
    go_ret2
    exact ⟨0, false, rfl, by simp, rfl⟩
  · have hd : decide ((s[0].toNat : Int) < 224) = true := by simp; omega
    go_enter Tryz.func65, Tryz.ntmps65
    go_wp2
    go_loop [4, 7] (fun c i => ∃ (k : Nat) (x : Int), 1 ≤ k ∧ k ≤ 2 ∧ i = .int .i64 k ∧ c = .int .i64 x) (fun _ i => 2 - (intOf i).toNat)
    case atStart => exact ⟨1, _, by omega, by omega, rfl, rfl⟩
    case round =>
      obtain ⟨k, x, hk1, hk2, rfl, rfl⟩ := hrel
      by_cases hlt : k < 2
      · go_wp2
        · go_ret2
          exact ⟨_, _, rfl, by simp, rfl⟩
        · go_round
          case rel => first | exact ⟨k + 1, _, by omega, by omega, by go_num, rfl⟩ | ((try refine ⟨trivial, ?_⟩); (repeat apply Exists.intro); exact ⟨⟨k + 1, _, by omega, by omega, by go_num, rfl⟩, rfl⟩)
          case measure => simp [intOf]; omega
      · go_wp2
        all_goals go_ret2
        all_goals exact ⟨_, _, rfl, by intro _; omega, rfl⟩

set_option maxRecDepth 100000 in
set_option maxHeartbeats 1000000 in
theorem sign_three (s : ByteArray) (w : World) (hs : s.size ≤ 2147483647) (h0 : 0 < s.size) (hc : 224 ≤ s[0].toNat) (hc2 : s[0].toNat < 240) :
    Calls Tryz.prog 65 #[.string s] w (SignPost s w) := by
  by_cases hl : s.size < 3
  · go_enter Tryz.func65, Tryz.ntmps65
    go_wp2
    go_ret2
    exact ⟨0, false, rfl, by simp, rfl⟩
  · have hd : decide ((s[0].toNat : Int) < 240) = true := by simp; omega
    go_enter Tryz.func65, Tryz.ntmps65
    go_wp2
    go_loop [4, 7] (fun c i => ∃ (k : Nat) (x : Int), 1 ≤ k ∧ k ≤ 3 ∧ i = .int .i64 k ∧ c = .int .i64 x) (fun _ i => 3 - (intOf i).toNat)
    case atStart => exact ⟨1, _, by omega, by omega, rfl, rfl⟩
    case round =>
      obtain ⟨k, x, hk1, hk2, rfl, rfl⟩ := hrel
      by_cases hlt : k < 3
      · go_wp2
        · go_ret2
          exact ⟨_, _, rfl, by simp, rfl⟩
        · go_round
          case rel => first | exact ⟨k + 1, _, by omega, by omega, by go_num, rfl⟩ | ((try refine ⟨trivial, ?_⟩); (repeat apply Exists.intro); exact ⟨⟨k + 1, _, by omega, by omega, by go_num, rfl⟩, rfl⟩)
          case measure => simp [intOf]; omega
      · go_wp2
        all_goals go_ret2
        all_goals exact ⟨_, _, rfl, by intro _; omega, rfl⟩

set_option maxRecDepth 100000 in
set_option maxHeartbeats 1000000 in
theorem sign_four (s : ByteArray) (w : World) (hs : s.size ≤ 2147483647) (h0 : 0 < s.size) (hc : 240 ≤ s[0].toNat) (hc2 : s[0].toNat < 248) :
    Calls Tryz.prog 65 #[.string s] w (SignPost s w) := by
  by_cases hl : s.size < 4
  · go_enter Tryz.func65, Tryz.ntmps65
    go_wp2
    go_ret2
    exact ⟨0, false, rfl, by simp, rfl⟩
  · have hd : decide ((s[0].toNat : Int) < 248) = true := by simp; omega
    go_enter Tryz.func65, Tryz.ntmps65
    go_wp2
    go_loop [4, 7] (fun c i => ∃ (k : Nat) (x : Int), 1 ≤ k ∧ k ≤ 4 ∧ i = .int .i64 k ∧ c = .int .i64 x) (fun _ i => 4 - (intOf i).toNat)
    case atStart => exact ⟨1, _, by omega, by omega, rfl, rfl⟩
    case round =>
      obtain ⟨k, x, hk1, hk2, rfl, rfl⟩ := hrel
      by_cases hlt : k < 4
      · go_wp2
        · go_ret2
          exact ⟨_, _, rfl, by simp, rfl⟩
        · go_round
          case rel => first | exact ⟨k + 1, _, by omega, by omega, by go_num, rfl⟩ | ((try refine ⟨trivial, ?_⟩); (repeat apply Exists.intro); exact ⟨⟨k + 1, _, by omega, by omega, by go_num, rfl⟩, rfl⟩)
          case measure => simp [intOf]; omega
      · go_wp2
        all_goals go_ret2
        all_goals exact ⟨_, _, rfl, by intro _; omega, rfl⟩

set_option maxRecDepth 100000 in
set_option maxHeartbeats 1000000 in
theorem sign_low (s : ByteArray) (w : World) (_hs : s.size ≤ 2147483647) (h0 : 0 < s.size) (hc : s[0].toNat < 128) :
    Calls Tryz.prog 65 #[.string s] w (SignPost s w) := by
  go_enter Tryz.func65, Tryz.ntmps65
  go_wp2
  go_ret2
  exact ⟨1, true, rfl, by intro _; omega, rfl⟩
set_option maxRecDepth 100000 in
set_option maxHeartbeats 1000000 in
theorem sign_no (s : ByteArray) (w : World) (_hs : s.size ≤ 2147483647) (h0 : 0 < s.size) (hc : 128 ≤ s[0].toNat) (hc2 : s[0].toNat < 192 ∨ 248 ≤ s[0].toNat) :
    Calls Tryz.prog 65 #[.string s] w (SignPost s w) := by
  have hb : s[0].toNat < 256 := UInt8.toNat_lt _
  rcases hc2 with hc2 | hc2
  all_goals
    go_enter Tryz.func65, Tryz.ntmps65
    go_wp2
    go_ret2
    exact ⟨0, false, rfl, by simp, rfl⟩
theorem sign_any (s : ByteArray) (w : World) (hs : s.size ≤ 2147483647) (h0 : 0 < s.size) : Calls Tryz.prog 65 #[.string s] w (SignPost s w) := by
  by_cases h1 : s[0].toNat < 128
  · exact sign_low s w hs h0 h1
  · by_cases h2 : s[0].toNat < 192
    · exact sign_no s w hs h0 (by omega) (.inl h2)
    · by_cases h3 : s[0].toNat < 224
      · exact sign_two s w hs h0 (by omega) h3
      · by_cases h4 : s[0].toNat < 240
        · exact sign_three s w hs h0 (by omega) h4
        · by_cases h5 : s[0].toNat < 248
          · exact sign_four s w hs h0 (by omega) h5
          · exact sign_no s w hs h0 (by omega) (.inr (by omega))

/-! ### spec.Valid, laws.ready, spec.ASCII: a list of strings in memory -/
/-- The cells of a slice of strings. -/
def StrsAt (w : World) (b off : Nat) (l : List ByteArray) : Prop := ∀ i, i < l.length → w.cell? ⟨b, off + i, none⟩ = some (.string (l.getD i ByteArray.empty))
def SomeBool (w : World) (e : Ending) (w' : World) : Prop := ∃ x : Bool, e = .returned (.bool x) ∧ w = w'


set_option maxRecDepth 100000 in
set_option maxHeartbeats 1000000 in
theorem valid_one (s : ByteArray) (b : Nat) (w : World) (hs : s.size ≤ 2147483647) (hc : w.cell? ⟨b, 0, none⟩ = some (.string s)) :
    Calls Tryz.prog 30 #[.slice (some ⟨b, 0, none⟩) 1 1] w (SomeBool w) := by
  go_enter Tryz.func30, Tryz.ntmps30
  go_wp2
  go_loop [10] (fun j => j = .int .i64 0 ∨ j = .int .i64 1) (fun j => 1 - (intOf j).toNat)
  case atStart => exact .inl rfl
  case round =>
    rcases hrel with rfl | rfl
    · go_wp2
      go_loop [5] (fun j => ∃ k : Nat, k ≤ s.size ∧ j = .int .i64 k) (fun j => s.size - (intOf j).toNat)
      case atStart => exact ⟨0, by omega, rfl⟩
      case round =>
        obtain ⟨k, hk, rfl⟩ := hrel
        by_cases hlt : k < s.size
        · have hsz : (s.extract k s.size).size = s.size - k := by simp
          have H1 := hid hsz
          clear hsz
          go_wp2_with fail
          refine (sign_any _ _ (by rw [H1.out]; omega) (by rw [H1.out]; omega)).mono ?_
          rintro e w' ⟨n, ok, rfl, hn, rfl⟩
          rw [H1.out] at hn
          cases ok
          · clear hn
            go_wp2
            go_ret
            exact ⟨_, rfl, rfl⟩
          · obtain ⟨hn1, hn2⟩ := hn rfl
            obtain ⟨m, rfl⟩ : ∃ m : Nat, n = m := ⟨n.toNat, by omega⟩
            go_wp2
            go_round
            case rel => exact ⟨k + m, by omega, by go_num⟩
            case measure => simp [intOf]; omega
        · go_wp2
          go_round
          case rel => exact .inr rfl
          case measure => simp [intOf]
    · go_wp2
      go_ret
      exact ⟨_, rfl, rfl⟩

def ReadyPost (l : List ByteArray) (w : World) (e : Ending) (w' : World) : Prop :=
  ∃ x : Bool, e = .returned (.bool x) ∧ (x = true → ∀ i, i < l.length → (l.getD i ByteArray.empty).size ≤ 1000) ∧ Below w.heap.size w w'

set_option maxRecDepth 100000 in
set_option maxHeartbeats 1000000 in
theorem ready_any (l : List ByteArray) (b : Nat) (w : World) (hl : l.length ≤ 10) (hs : ∀ i, i < l.length → (l.getD i ByteArray.empty).size ≤ 2147483647) (hb : b < w.heap.size)
    (hc : ∀ i, i < l.length → w.cell? ⟨b, i, none⟩ = some (.string (l.getD i ByteArray.empty))) :
    Calls Tryz.prog 17 #[.slice (some ⟨b, 0, none⟩) l.length l.length] w (ReadyPost l w) := by
  have HC := hid hc
  have HS := hid hs
  clear hc hs
  go_enter Tryz.func17, Tryz.ntmps17
  go_wp2
  go_loopw [7] (fun j wr => ∃ k : Nat, k ≤ l.length ∧ j = .int .i64 k ∧ (∀ i, i < k → (l.getD i ByteArray.empty).size ≤ 1000) ∧ Below w.heap.size w wr) (fun j _ => l.length - (intOf j).toNat)
  case atStart => exact ⟨0, by omega, rfl, fun i hi => by omega, Below.refl _ _⟩
  case round =>
    obtain ⟨k, hk, rfl, hall, hbel⟩ := hrel
    have HALL := hid hall
    clear hall
    by_cases hlt : k < l.length
    · have hck : wr.cell? ⟨b, k, none⟩ = some (.string (l.getD k ByteArray.empty)) := by rw [hbel.cell (p := ⟨b, k, none⟩) hb]; exact HC.out k hlt
      have hsk := HS.out k hlt
      obtain ⟨s, hse⟩ : ∃ s, s = l.getD k ByteArray.empty := ⟨_, rfl⟩
      rw [← hse] at hck hsk
      have HSE := hid hse
      clear hse
      by_cases hbig : 1000 < s.size
      · go_wp2
        go_ret
        exact ⟨false, rfl, by simp, hbel⟩
      · go_wp2_with (go_at_call 30; refine (valid_one s _ _ hsk (by simp)).mono ?_; rintro e w' ⟨x, rfl, rfl⟩; cases x)
        · go_ret
          exact ⟨false, rfl, by simp, hbel.alloc hbel.size _⟩
        · refine ⟨⟨k + 1, by omega, by go_num, fun i hi => ?_, hbel.alloc hbel.size _⟩, by simp [intOf]; omega⟩
          by_cases hik : i = k
          · subst hik; rw [← HSE.out]; omega
          · exact HALL.out i (by omega)
    · go_wp2
      go_ret
      exact ⟨true, rfl, fun _ i hi => HALL.out i (by omega), hbel⟩

/-! ### spec.ASCII, laws.of, laws.is -/
def AllAscii (s : ByteArray) : Prop := ∀ i (h : i < s.size), s[i].toNat < 128
def AsciiPost (l : List ByteArray) (w : World) (e : Ending) (w' : World) : Prop :=
  ∃ x : Bool, e = .returned (.bool x) ∧ (x = true → ∀ i, i < l.length → AllAscii (l.getD i ByteArray.empty)) ∧ w = w'

set_option maxRecDepth 100000 in
set_option maxHeartbeats 1000000 in
theorem ascii_any (l : List ByteArray) (b : Nat) (w : World) (hl : l.length ≤ 10) (hs : ∀ i, i < l.length → (l.getD i ByteArray.empty).size ≤ 2147483647)
    (hc : ∀ i, i < l.length → w.cell? ⟨b, i, none⟩ = some (.string (l.getD i ByteArray.empty))) :
    Calls Tryz.prog 32 #[.slice (some ⟨b, 0, none⟩) l.length l.length] w (AsciiPost l w) := by
  have HC := hid hc
  have HS := hid hs
  clear hc hs
  go_enter Tryz.func32, Tryz.ntmps32
  go_wp2
  go_loop [8] (fun j => ∃ k : Nat, k ≤ l.length ∧ j = .int .i64 k ∧ Hid (∀ i, i < k → AllAscii (l.getD i ByteArray.empty))) (fun j => l.length - (intOf j).toNat)
  case atStart => exact ⟨0, by omega, rfl, hid fun i hi => by omega⟩
  case round =>
    obtain ⟨k, hk, rfl, HALL⟩ := hrel
    by_cases hlt : k < l.length
    · have hck := HC.out k hlt
      have hsk := HS.out k hlt
      obtain ⟨s, hse⟩ : ∃ s, s = l.getD k ByteArray.empty := ⟨_, rfl⟩
      rw [← hse] at hck hsk
      have HSE := hid hse
      clear hse
      go_wp2
      go_loop [14] (fun j => ∃ i : Nat, i ≤ s.size ∧ j = .int .i64 i ∧ Hid (∀ m (h : m < s.size), m < i → s[m].toNat < 128)) (fun j => s.size - (intOf j).toNat)
      case atStart => exact ⟨0, by omega, rfl, hid fun m _ hm => by omega⟩
      case round =>
        obtain ⟨i, hi, rfl, HIN⟩ := hrel
        by_cases hil : i < s.size
        · by_cases hbig : 128 ≤ s[i].toNat
          · go_wp2
            go_ret
            exact ⟨false, rfl, by simp, rfl⟩
          · go_wp2
            go_round
            case rel => exact ⟨i + 1, by omega, by go_num, hid fun m h hm => by
              by_cases hmi : m = i
              · subst hmi; omega
              · exact HIN.out m h (by omega)⟩
            case measure => simp [intOf]; omega
        · go_wp2
          go_round
          case rel => exact ⟨k + 1, by omega, by go_num, hid fun m hm => by
            by_cases hmk : m = k
            · subst hmk; rw [← HSE.out]; exact fun q h => HIN.out q h (by omega)
            · exact HALL.out m (by omega)⟩
          case measure => simp [intOf]; omega
    · go_wp2
      go_ret
      exact ⟨true, rfl, fun _ i hi => HALL.out i (by omega), rfl⟩

theorem of_any (s : ByteArray) (w : World) : Calls Tryz.prog 24 #[.string s, .bool true] w fun e w' => e = .returned (.string s) ∧ w = w' := by
  go_enter Tryz.func24, Tryz.ntmps24
  go_wp2
  go_ret
  exact ⟨rfl, rfl⟩

theorem is_yes (s : ByteArray) (w : World) : Calls Tryz.prog 31 #[.string s, .string s, .bool true] w fun e w' => e = .returned (.bool true) ∧ w = w' := by
  go_enter Tryz.func31, Tryz.ntmps31
  go_wp2
  go_ret
  exact ⟨rfl, rfl⟩
end Go.Proofs.YtlallleahgfdkaaGreatDoor
