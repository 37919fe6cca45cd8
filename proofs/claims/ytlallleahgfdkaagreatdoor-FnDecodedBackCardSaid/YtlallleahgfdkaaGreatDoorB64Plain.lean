/- The plain law of base64: sextets of bytes, the encoded text, and the bit operations of encoding/base64 as sums. -/
import Derived.Laws.BitsAllLaws
import Derived.Lib.Strings
namespace Go.Proofs.YtlallleahgfdkaaGreatDoor

/-- Byte i of s, 0 behind the end. -/
def bv (s : ByteArray) (i : Nat) : Nat := if h : i < s.size then s[i].toNat else 0
theorem bv_lt (s : ByteArray) (i : Nat) : bv s i < 256 := by
  unfold bv; split
  · exact UInt8.toNat_lt _
  · omega
theorem bv_at (s : ByteArray) (i : Nat) (h : i < s.size) : bv s i = s[i].toNat := by unfold bv; rw [dif_pos h]
theorem bv_end (s : ByteArray) (i : Nat) (h : s.size ≤ i) : bv s i = 0 := by unfold bv; rw [dif_neg (by omega)]
/-- The 24 bits of quantum q. -/
def qv (s : ByteArray) (q : Nat) : Nat := bv s (3 * q) * 65536 + bv s (3 * q + 1) * 256 + bv s (3 * q + 2)
theorem qv_lt (s : ByteArray) (q : Nat) : qv s q < 16777216 := by
  have h0 := bv_lt s (3 * q); have h1 := bv_lt s (3 * q + 1); have h2 := bv_lt s (3 * q + 2)
  unfold qv; omega
theorem qv_b0 (s : ByteArray) (q : Nat) : qv s q / 65536 = bv s (3 * q) := by
  have h0 := bv_lt s (3 * q); have h1 := bv_lt s (3 * q + 1); have h2 := bv_lt s (3 * q + 2)
  unfold qv; omega
theorem qv_b1 (s : ByteArray) (q : Nat) : qv s q / 256 % 256 = bv s (3 * q + 1) := by
  have h0 := bv_lt s (3 * q); have h1 := bv_lt s (3 * q + 1); have h2 := bv_lt s (3 * q + 2)
  unfold qv; omega
theorem qv_b2 (s : ByteArray) (q : Nat) : qv s q % 256 = bv s (3 * q + 2) := by
  have h0 := bv_lt s (3 * q); have h1 := bv_lt s (3 * q + 1); have h2 := bv_lt s (3 * q + 2)
  unfold qv; omega
/-- Sextet r of 24 bits. -/
def sxv (v r : Nat) : Nat := if r = 0 then v / 262144 else if r = 1 then v / 4096 % 64 else if r = 2 then v / 64 % 64 else v % 64
theorem sxv_lt (v r : Nat) (h : v < 16777216) : sxv v r < 64 := by
  unfold sxv
  by_cases h0 : r = 0
  · rw [if_pos h0]; omega
  · rw [if_neg h0]
    by_cases h1 : r = 1
    · rw [if_pos h1]; omega
    · rw [if_neg h1]
      by_cases h2 : r = 2
      · rw [if_pos h2]; omega
      · rw [if_neg h2]; omega
theorem sxv_sum (v : Nat) : sxv v 0 * 262144 + sxv v 1 * 4096 + sxv v 2 * 64 + sxv v 3 = v := by
  show v / 262144 * 262144 + v / 4096 % 64 * 4096 + v / 64 % 64 * 64 + v % 64 = v
  omega
/-- Sign i of the padded encoding. -/
def encN (al s : ByteArray) (i : Nat) : Nat := if i % 4 ≤ 1 ∨ 3 * (i / 4) + i % 4 ≤ s.size then bv al (sxv (qv s (i / 4)) (i % 4)) else 61
theorem encN_lt (al s : ByteArray) (i : Nat) : encN al s i < 256 := by
  unfold encN; split
  · exact bv_lt _ _
  · omega
theorem encN_sig (al s : ByteArray) (q r : Nat) (hr : r < 4) (h : r ≤ 1 ∨ 3 * q + r ≤ s.size) : encN al s (4 * q + r) = bv al (sxv (qv s q) r) := by
  have e1 : (4 * q + r) % 4 = r := by omega
  have e2 : (4 * q + r) / 4 = q := by omega
  unfold encN; rw [e1, e2, if_pos h]
theorem encN_pad (al s : ByteArray) (q r : Nat) (hr : r < 4) (h1 : 1 < r) (h : s.size < 3 * q + r) : encN al s (4 * q + r) = 61 := by
  have e1 : (4 * q + r) % 4 = r := by omega
  have e2 : (4 * q + r) / 4 = q := by omega
  unfold encN; rw [e1, e2, if_neg (by omega)]
/-- The first n signs of the padded encoding. -/
def encS (al s : ByteArray) (n : Nat) : ByteArray := ⟨((List.range n).map fun i => UInt8.ofNat (encN al s i)).toArray⟩
theorem encS_size (al s : ByteArray) (n : Nat) : (encS al s n).size = n := by rw [Lib.size_eq]; simp [encS]
theorem encS_at (al s : ByteArray) (n i : Nat) (h : i < n) : bv (encS al s n) i = encN al s i := by
  rw [bv_at _ _ (by rw [encS_size]; exact h)]
  have := encN_lt al s i
  have e : (encS al s n)[i]'(by rw [encS_size]; exact h) = UInt8.ofNat (encN al s i) := by
    have : (encS al s n).data[i]? = some (UInt8.ofNat (encN al s i)) := by simp [encS, h]
    exact (Array.getElem?_eq_some_iff.1 this).2
  rw [e, UInt8.toNat_ofNat']
  omega
theorem ext_bv (s t : ByteArray) (hs : s.size = t.size) (h : ∀ i, i < s.size → bv s i = bv t i) : s = t := by
  apply ByteArray.ext
  apply Array.ext
  · exact hs
  · intro i h1 h2
    have := h i h1
    rw [bv_at s i h1, bv_at t i (by rw [← hs]; exact h1)] at this
    exact UInt8.toNat_inj.1 this

/-! ### Bits as sums -/
theorem orsum (i x y : Nat) (hx : x % 2 ^ i = 0) (hy : y < 2 ^ i) (hl : x < 18446744073709551616) (hl2 : y < 18446744073709551616) : bits BinOp.or IntKind.u64 (x : Int) (y : Int) = ((x + y : Nat) : Int) := by
  rw [u64_or_nat x y hl hl2, nat_join i x y hx hy]
theorem orsum32 (i x y : Nat) (hx : x % 2 ^ i = 0) (hy : y < 2 ^ i) (hl : x < 4294967296) (hl2 : y < 4294967296) : bits BinOp.or IntKind.u32 (x : Int) (y : Int) = ((x + y : Nat) : Int) := by
  rw [u32_or_nat x y hl hl2, nat_join i x y hx hy]
theorem or3 (a b c : Nat) (ha : a < 256) (hb : b < 256) (hc : c < 256) : bits BinOp.or IntKind.u64 (bits BinOp.or IntKind.u64 ((a : Int) * 65536) ((b : Int) * 256)) (c : Int) = ((a * 65536 + b * 256 + c : Nat) : Int) := by
  have e1 : (a : Int) * 65536 = ((a * 65536 : Nat) : Int) := by omega
  have e2 : (b : Int) * 256 = ((b * 256 : Nat) : Int) := by omega
  rw [e1, e2, orsum 16 _ _ (by omega) (by omega) (by omega) (by omega), orsum 8 _ _ (by omega) (by omega) (by omega) (by omega)]
theorem or2 (a b : Nat) (ha : a < 256) (hb : b < 256) : bits BinOp.or IntKind.u64 ((a : Int) * 65536) ((b : Int) * 256) = ((a * 65536 + b * 256 : Nat) : Int) := by
  have e1 : (a : Int) * 65536 = ((a * 65536 : Nat) : Int) := by omega
  have e2 : (b : Int) * 256 = ((b * 256 : Nat) : Int) := by omega
  rw [e1, e2, orsum 16 _ _ (by omega) (by omega) (by omega) (by omega)]
theorem or4 (a b c d : Nat) (ha : a < 64) (hb : b < 64) (hc : c < 64) (hd : d < 64) :
    bits BinOp.or IntKind.u64 (bits BinOp.or IntKind.u64 (bits BinOp.or IntKind.u64 ((a : Int) * 262144) ((b : Int) * 4096)) ((c : Int) * 64)) (d : Int) = ((a * 262144 + b * 4096 + c * 64 + d : Nat) : Int) := by
  have e1 : (a : Int) * 262144 = ((a * 262144 : Nat) : Int) := by omega
  have e2 : (b : Int) * 4096 = ((b * 4096 : Nat) : Int) := by omega
  have e3 : (c : Int) * 64 = ((c * 64 : Nat) : Int) := by omega
  rw [e1, e2, e3, orsum 18 _ _ (by omega) (by omega) (by omega) (by omega), orsum 12 _ _ (by omega) (by omega) (by omega) (by omega), orsum 6 _ _ (by omega) (by omega) (by omega) (by omega)]
theorem and63 (v : Nat) (h : v < 16777216) : bits BinOp.and IntKind.u64 (v : Int) 63 = ((v % 64 : Nat) : Int) := by
  rw [show (63 : Int) = ((63 : Nat) : Int) from rfl, u64_and_nat v 63 (by omega) (by omega), nat_mask6]
theorem sx0 (v : Nat) (h : v < 16777216) : bits BinOp.and IntKind.u64 ((v : Int) / 262144) 63 = ((sxv v 0 : Nat) : Int) := by
  have e : (v : Int) / 262144 = ((v / 262144 : Nat) : Int) := by omega
  rw [e, and63 _ (by omega)]; show ((v / 262144 % 64 : Nat) : Int) = ((v / 262144 : Nat) : Int); omega
theorem sx1 (v : Nat) (h : v < 16777216) : bits BinOp.and IntKind.u64 ((v : Int) / 4096) 63 = ((sxv v 1 : Nat) : Int) := by
  have e : (v : Int) / 4096 = ((v / 4096 : Nat) : Int) := by omega
  rw [e, and63 _ (by omega)]; rfl
theorem sx2 (v : Nat) (h : v < 16777216) : bits BinOp.and IntKind.u64 ((v : Int) / 64) 63 = ((sxv v 2 : Nat) : Int) := by
  have e : (v : Int) / 64 = ((v / 64 : Nat) : Int) := by omega
  rw [e, and63 _ (by omega)]; rfl
theorem sx3 (v : Nat) (h : v < 16777216) : bits BinOp.and IntKind.u64 (v : Int) 63 = ((sxv v 3 : Nat) : Int) := by
  rw [and63 _ h]; rfl
theorem or8 (a b : Nat) (ha : a < 64) (hb : b < 64) : ∃ c, c < 64 ∧ bits BinOp.or IntKind.u8 (a : Int) (b : Int) = ((c : Nat) : Int) :=
  ⟨a ||| b, Nat.or_lt_two_pow (n := 6) ha hb, u8_or_nat a b (by omega) (by omega)⟩
theorem asm32 (a b c d : Nat) (ha : a < 64) (hb : b < 64) (hc : c < 64) (hd : d < 64) :
    bits BinOp.or IntKind.u32 (bits BinOp.or IntKind.u32 (bits BinOp.or IntKind.u32 ((a : Int) * 67108864) ((b : Int) * 1048576)) ((c : Int) * 16384)) ((d : Int) * 256) = (((a * 262144 + b * 4096 + c * 64 + d) * 256 : Nat) : Int) := by
  have e1 : (a : Int) * 67108864 = ((a * 67108864 : Nat) : Int) := by omega
  have e2 : (b : Int) * 1048576 = ((b * 1048576 : Nat) : Int) := by omega
  have e3 : (c : Int) * 16384 = ((c * 16384 : Nat) : Int) := by omega
  have e4 : (d : Int) * 256 = ((d * 256 : Nat) : Int) := by omega
  rw [e1, e2, e3, e4, orsum32 26 _ _ (by omega) (by omega) (by omega) (by omega), orsum32 20 _ _ (by omega) (by omega) (by omega) (by omega), orsum32 14 _ _ (by omega) (by omega) (by omega) (by omega)]
  omega
theorem asm64 (a b c d a' b' c' d' : Nat) (ha : a < 64) (hb : b < 64) (hc : c < 64) (hd : d < 64) (ha' : a' < 64) (hb' : b' < 64) (hc' : c' < 64) (hd' : d' < 64) :
    bits BinOp.or IntKind.u64 (bits BinOp.or IntKind.u64 (bits BinOp.or IntKind.u64 (bits BinOp.or IntKind.u64 (bits BinOp.or IntKind.u64 (bits BinOp.or IntKind.u64 (bits BinOp.or IntKind.u64 ((a : Int) * 288230376151711744) ((b : Int) * 4503599627370496)) ((c : Int) * 70368744177664)) ((d : Int) * 1099511627776)) ((a' : Int) * 17179869184)) ((b' : Int) * 268435456)) ((c' : Int) * 4194304)) ((d' : Int) * 65536)
      = (((a * 262144 + b * 4096 + c * 64 + d) * 1099511627776 + (a' * 262144 + b' * 4096 + c' * 64 + d') * 65536 : Nat) : Int) := by
  have e1 : (a : Int) * 288230376151711744 = ((a * 288230376151711744 : Nat) : Int) := by omega
  have e2 : (b : Int) * 4503599627370496 = ((b * 4503599627370496 : Nat) : Int) := by omega
  have e3 : (c : Int) * 70368744177664 = ((c * 70368744177664 : Nat) : Int) := by omega
  have e4 : (d : Int) * 1099511627776 = ((d * 1099511627776 : Nat) : Int) := by omega
  have e5 : (a' : Int) * 17179869184 = ((a' * 17179869184 : Nat) : Int) := by omega
  have e6 : (b' : Int) * 268435456 = ((b' * 268435456 : Nat) : Int) := by omega
  have e7 : (c' : Int) * 4194304 = ((c' * 4194304 : Nat) : Int) := by omega
  have e8 : (d' : Int) * 65536 = ((d' * 65536 : Nat) : Int) := by omega
  rw [e1, e2, e3, e4, e5, e6, e7, e8, orsum 58 _ _ (by omega) (by omega) (by omega) (by omega), orsum 52 _ _ (by omega) (by omega) (by omega) (by omega), orsum 46 _ _ (by omega) (by omega) (by omega) (by omega),
    orsum 40 _ _ (by omega) (by omega) (by omega) (by omega), orsum 34 _ _ (by omega) (by omega) (by omega) (by omega), orsum 28 _ _ (by omega) (by omega) (by omega) (by omega), orsum 22 _ _ (by omega) (by omega) (by omega) (by omega)]
  omega
end Go.Proofs.YtlallleahgfdkaaGreatDoor
