/- Plain mathematics for LawS2036AGreedyTopo: words of 64 bits. No Go program in sight. -/
import Derived.WalkKit
namespace Go.Proofs.Ybulkapdi
open Go.RowKit

theorem ofInt_nat64 (a : Nat) (ha : a < 18446744073709551616) : (BitVec.ofInt 64 (a : Int)).toNat = a := by
  rw [BitVec.ofInt_natCast, BitVec.toNat_ofNat]; exact Nat.mod_eq_of_lt (by omega)

theorem bits_or_u64 (a b : Nat) (ha : a < 18446744073709551616) (hb : b < 18446744073709551616) :
    bits .or .u64 (a : Int) (b : Int) = ((a ||| b : Nat) : Int) := by
  have hx : a ||| b < 2 ^ 64 := Nat.or_lt_two_pow (by omega) (by omega)
  show IntKind.u64.wrap ((BitVec.ofInt 64 (a : Int) ||| BitVec.ofInt 64 (b : Int)).toNat : Int) = _
  rw [BitVec.toNat_or, ofInt_nat64 a ha, ofInt_nat64 b hb, IntKind.wrap_u64]
  omega

theorem bits_and_u64 (a b : Nat) (ha : a < 18446744073709551616) (hb : b < 18446744073709551616) :
    bits .and .u64 (a : Int) (b : Int) = ((a &&& b : Nat) : Int) := by
  have hx : a &&& b < 2 ^ 64 := Nat.and_lt_two_pow a (by omega)
  show IntKind.u64.wrap ((BitVec.ofInt 64 (a : Int) &&& BitVec.ofInt 64 (b : Int)).toNat : Int) = _
  rw [BitVec.toNat_and, ofInt_nat64 a ha, ofInt_nat64 b hb, IntKind.wrap_u64]
  omega

theorem pow_lt64 (k : Nat) (hk : k < 64) : 2 ^ k < 18446744073709551616 :=
  Nat.pow_lt_pow_right (by decide) hk

theorem shl_u64 (k : Nat) (hk : k < 64) : IntKind.u64.wrap ((2 : Int) ^ k) = ((2 ^ k : Nat) : Int) := by
  have h := pow_lt64 k hk
  have e : ((2 : Int) ^ k) = ((2 ^ k : Nat) : Int) := by simp
  rw [e, IntKind.wrap_u64]
  generalize 2 ^ k = y at h
  omega

theorem bit_word (x k : Nat) (hx : x < 18446744073709551616) (hk : k < 64) :
    (bits .and .u64 (x : Int) (IntKind.u64.wrap ((2 : Int) ^ k)) != 0) = x.testBit k := by
  rw [shl_u64 k hk, bits_and_u64 x _ hx (pow_lt64 k hk)]
  cases h : x.testBit k
  · have : x &&& 2 ^ k = 0 := by
      apply Nat.eq_of_testBit_eq
      intro i
      rw [Nat.testBit_and, Nat.testBit_two_pow, Nat.zero_testBit]
      by_cases e : k = i
      · subst e; simp [h]
      · simp [e]
    simp [this]
  · have : x &&& 2 ^ k ≠ 0 := by
      intro e
      have := congrArg (fun y => Nat.testBit y k) e
      simp [Nat.testBit_and, h] at this
    simp only [bne_iff_ne, ne_eq]
    exact_mod_cast this

end Go.Proofs.Ybulkapdi
