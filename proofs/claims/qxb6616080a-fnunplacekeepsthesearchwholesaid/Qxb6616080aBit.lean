/- THE MODEL's BITWISE OPERATIONS ON uint64, as the plain ones on numbers. -/
import Derived.Test.Qxb6616080aMem
namespace Go.Proofs.Qxb6616080a
open Go.RowKit
set_option linter.unusedVariables false

theorem wrapu {x : Nat} (h : x < 2 ^ 64) : IntKind.u64.wrap (x : Int) = (x : Int) := by
  simp [IntKind.wrap, IntKind.bits, IntKind.signed]
  omega
theorem wrapu_mod (x : Nat) : IntKind.u64.wrap (x : Int) = ((x % 2 ^ 64 : Nat) : Int) := by
  simp [IntKind.wrap, IntKind.bits, IntKind.signed]
theorem ofInt64 (x : Nat) : (BitVec.ofInt IntKind.u64.bits (x : Int)).toNat = x % 2 ^ 64 := by
  show (BitVec.ofInt 64 (x : Int)).toNat = _
  rw [BitVec.ofInt_natCast, BitVec.toNat_ofNat]
theorem bits_and {x y : Nat} (hx : x < 2 ^ 64) (hy : y < 2 ^ 64) : bits .and .u64 (x : Int) (y : Int) = ((x &&& y : Nat) : Int) := by
  have h : x &&& y < 2 ^ 64 := Nat.and_lt_two_pow x hy
  unfold bits
  simp only [BitVec.toNat_and, ofInt64, Nat.mod_eq_of_lt hx, Nat.mod_eq_of_lt hy]
  exact wrapu h
theorem bits_or {x y : Nat} (hx : x < 2 ^ 64) (hy : y < 2 ^ 64) : bits .or .u64 (x : Int) (y : Int) = ((x ||| y : Nat) : Int) := by
  have h : x ||| y < 2 ^ 64 := Nat.or_lt_two_pow hx hy
  unfold bits
  simp only [BitVec.toNat_or, ofInt64, Nat.mod_eq_of_lt hx, Nat.mod_eq_of_lt hy]
  exact wrapu h
theorem bits_xor {x y : Nat} (hx : x < 2 ^ 64) (hy : y < 2 ^ 64) : bits .xor .u64 (x : Int) (y : Int) = ((x ^^^ y : Nat) : Int) := by
  have h : x ^^^ y < 2 ^ 64 := Nat.xor_lt_two_pow hx hy
  unfold bits
  simp only [BitVec.toNat_xor, ofInt64, Nat.mod_eq_of_lt hx, Nat.mod_eq_of_lt hy]
  exact wrapu h
theorem bits_andNot {x k : Nat} (hx : x < 2 ^ 64) (hk : k < 64) : bits .andNot .u64 (x : Int) ((2 ^ k : Nat) : Int) = ((clr x k : Nat) : Int) := by
  have hy : 2 ^ k < 2 ^ 64 := Nat.pow_lt_pow_right (by omega) hk
  have e : (BitVec.ofInt IntKind.u64.bits (x : Int) &&& ~~~(BitVec.ofInt IntKind.u64.bits ((2 ^ k : Nat) : Int))).toNat = clr x k := by
    apply Nat.eq_of_testBit_eq
    intro i
    rw [BitVec.toNat_and, BitVec.toNat_not, ofInt64, ofInt64, Nat.mod_eq_of_lt hx, Nat.mod_eq_of_lt hy, testBit_clr, Nat.testBit_and]
    show (x.testBit i && (2 ^ 64 - 1 - 2 ^ k).testBit i) = _
    by_cases hi : i < 64
    · have : (2 ^ 64 - 1 - 2 ^ k).testBit i = !(2 ^ k).testBit i := by
        have h1 : 2 ^ 64 - 1 - 2 ^ k = 2 ^ 64 - (2 ^ k + 1) := by omega
        rw [h1, Nat.testBit_two_pow_sub_succ hy]
        simp [hi]
      rw [this]
      by_cases e : i = k
      · subst e; simp
      · rw [Nat.testBit_two_pow_of_ne (fun h => e h.symm)]; simp [e]
    · have : x.testBit i = false := Nat.testBit_lt_two_pow (Nat.lt_of_lt_of_le hx (Nat.pow_le_pow_right (by omega) (by omega)))
      simp [this]
  unfold bits
  simp only [e]
  exact wrapu (clr_lt hx)
/-- The bit as the program reads it. -/
theorem bit_read {x r : Nat} (hx : x < 2 ^ 64) : bits .and .u64 ((x : Int) / 2 ^ r) 1 = if x.testBit r then 1 else 0 := by
  have e : ((x : Int) / 2 ^ r) = ((x / 2 ^ r : Nat) : Int) := by simp
  have h1 : x / 2 ^ r < 2 ^ 64 := Nat.lt_of_le_of_lt (Nat.div_le_self _ _) hx
  rw [e]
  have := bits_and h1 (show 1 < 2 ^ 64 by decide)
  rw [show ((1 : Nat) : Int) = 1 from rfl] at this
  rw [this, Nat.and_one_is_mod]
  have h2 : x.testBit r = decide (x / 2 ^ r % 2 = 1) := by rw [Nat.testBit_eq_decide_div_mod_eq]
  rw [h2]
  by_cases h : x / 2 ^ r % 2 = 1
  · simp [h]
  · have : x / 2 ^ r % 2 = 0 := by omega
    simp [this]
end Go.Proofs.Qxb6616080a
