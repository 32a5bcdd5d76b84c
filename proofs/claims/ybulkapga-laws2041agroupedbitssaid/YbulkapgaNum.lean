/- Plain mathematics for LawS2041AGroupedBits: a string of bits as a number X and a length. -/
import Derived.WalkKit
namespace Go.Proofs.Ybulkapga
open Go.RowKit

theorem ofInt_nat64 (a : Nat) (ha : a < 18446744073709551616) : (BitVec.ofInt 64 (a : Int)).toNat = a := by
  rw [BitVec.ofInt_natCast, BitVec.toNat_ofNat]; exact Nat.mod_eq_of_lt (by omega)
theorem ofInt_nat8 (a : Nat) (ha : a < 256) : (BitVec.ofInt 8 (a : Int)).toNat = a := by
  rw [BitVec.ofInt_natCast, BitVec.toNat_ofNat]; exact Nat.mod_eq_of_lt (by omega)

theorem bits_or_u64 (a b : Nat) (ha : a < 18446744073709551616) (hb : b < 18446744073709551616) :
    bits .or .u64 (a : Int) (b : Int) = ((a ||| b : Nat) : Int) := by
  have hx : a ||| b < 2 ^ 64 := Nat.or_lt_two_pow (by omega) (by omega)
  show IntKind.u64.wrap ((BitVec.ofInt 64 (a : Int) ||| BitVec.ofInt 64 (b : Int)).toNat : Int) = _
  rw [BitVec.toNat_or, ofInt_nat64 a ha, ofInt_nat64 b hb, IntKind.wrap_u64]
  omega

theorem bits_and_u64 (a b : Nat) (ha : a < 18446744073709551616) (hb : b < 18446744073709551616) :
    bits .and .u64 (a : Int) (b : Int) = ((a &&& b : Nat) : Int) := by
  have hx : a &&& b < 2 ^ 64 := Nat.and_lt_two_pow a (by omega)
  show IntKind.u64.wrap ((BitVec.ofInt 64 (a : Int) &&& BitVec.ofInt 64 (b : Int)).toNat : Int) = _
  rw [BitVec.toNat_and, ofInt_nat64 a ha, ofInt_nat64 b hb, IntKind.wrap_u64]
  omega

theorem bits_and_u8 (a b : Nat) (ha : a < 256) (hb : b < 256) :
    bits .and .u8 (a : Int) (b : Int) = ((a &&& b : Nat) : Int) := by
  have hx : a &&& b < 2 ^ 8 := Nat.and_lt_two_pow a (by omega)
  show IntKind.u8.wrap ((BitVec.ofInt 8 (a : Int) &&& BitVec.ofInt 8 (b : Int)).toNat : Int) = _
  rw [BitVec.toNat_and, ofInt_nat8 a ha, ofInt_nat8 b hb, IntKind.wrap_u8]
  omega

/-- Bits above. -/
theorem div_far (X v len a : Nat) (h : a ≤ len) : (X + v * 2 ^ len) / 2 ^ a = X / 2 ^ a + v * 2 ^ (len - a) := by
  have e : v * 2 ^ len = 2 ^ a * (v * 2 ^ (len - a)) := by
    have : 2 ^ len = 2 ^ a * 2 ^ (len - a) := by rw [← Nat.pow_add]; congr 1; omega
    rw [this, Nat.mul_left_comm]
  rw [e, Nat.add_mul_div_left _ _ (Nat.two_pow_pos a)]

theorem mod_far (X v len a b : Nat) (h : a + b ≤ len) : (X + v * 2 ^ len) / 2 ^ a % 2 ^ b = X / 2 ^ a % 2 ^ b := by
  rw [div_far X v len a (by omega)]
  have e : v * 2 ^ (len - a) = 2 ^ b * (v * 2 ^ (len - a - b)) := by
    have : 2 ^ (len - a) = 2 ^ b * 2 ^ (len - a - b) := by rw [← Nat.pow_add]; congr 1; omega
    rw [this, Nat.mul_left_comm]
  rw [e, Nat.add_mul_mod_self_left]

theorem lt_far (X v len k : Nat) (hX : X < 2 ^ len) (hv : v < 2 ^ k) : X + v * 2 ^ len < 2 ^ (len + k) := by
  have h1 : v + 1 ≤ 2 ^ k := hv
  have h2 : (v + 1) * 2 ^ len ≤ 2 ^ k * 2 ^ len := Nat.mul_le_mul_right _ h1
  rw [Nat.pow_add, Nat.mul_comm (2 ^ len)]
  rw [Nat.add_mul] at h2
  omega

theorem or_far (a v n : Nat) (h : a < 2 ^ n) : a ||| v * 2 ^ n = a + v * 2 ^ n := by
  have := Nat.two_pow_add_eq_or_of_lt h v
  rw [Nat.or_comm, Nat.mul_comm v, ← this, Nat.add_comm]

theorem div_div_pow (X a b : Nat) : X / 2 ^ a / 2 ^ b = X / 2 ^ (a + b) := by
  rw [Nat.div_div_eq_div_mul, ← Nat.pow_add]

/-- The bytes that have been put out. -/
def byts (X m : Nat) : List Value := (List.range m).map fun i => .int .u8 ((X / 2 ^ (8 * i) % 256 : Nat) : Int)
/-- The bits. -/
def bitsOf (X len : Nat) : List Value := (List.range len).map fun i => .int .u8 ((X / 2 ^ i % 2 : Nat) : Int)

theorem byts_far (X v len m : Nat) (h : 8 * m ≤ len) : byts (X + v * 2 ^ len) m = byts X m := by
  unfold byts
  apply List.map_congr_left
  intro i hi
  have hi := List.mem_range.1 hi
  have := mod_far X v len (8 * i) 8 (by omega)
  rw [show (256 : Nat) = 2 ^ 8 from rfl, this]
theorem byts_succ (X m : Nat) : byts X (m + 1) = byts X m ++ [.int .u8 ((X / 2 ^ (8 * m) % 256 : Nat) : Int)] := by
  simp [byts, List.range_succ]
theorem bitsOf_put (X v len : Nat) (hX : X < 2 ^ len) (hv : v < 2) : bitsOf (X + v * 2 ^ len) (len + 1) = bitsOf X len ++ [.int .u8 (v : Int)] := by
  unfold bitsOf
  rw [List.range_succ, List.map_append]
  congr 1
  · apply List.map_congr_left
    intro i hi
    have hi := List.mem_range.1 hi
    have := mod_far X v len i 1 (by omega)
    rw [show (2 : Nat) ^ 1 = 2 from rfl] at this
    rw [this]
  · have : (X + v * 2 ^ len) / 2 ^ len % 2 = v := by
      rw [div_far X v len len (Nat.le_refl _), Nat.div_eq_of_lt hX, Nat.sub_self]
      omega
    simp only [List.map_cons, List.map_nil, this]

end Go.Proofs.Ybulkapga
