/-
  HOW THE WALK SPELLS '1 << f', '&' AND '|' ON A uint32, in the words of 'testBit'.
-/
import Derived.Test.YbulkiePlain
import Derived.WalkKit
import Derived.Laws.BitsAllLaws
namespace Go.Proofs.Ybulkie
open Go.RowKit

theorem pow_lt32 {f : Nat} (hf : f < 8) : (2 : Nat) ^ f < 256 := by
  have := Nat.pow_lt_pow_right (a := 2) (by omega) hf
  simpa using this

theorem shift_nat {f : Nat} (hf : f < 8) : (2 : Int) ^ min f 32 % 4294967296 = ((2 ^ f : Nat) : Int) := by
  rw [Nat.min_eq_left (by omega)]
  have h := pow_lt32 hf
  have e : ((2 ^ f : Nat) : Int) = (2 : Int) ^ f := by simp
  rw [← e]
  generalize (2 : Nat) ^ f = x at h
  omega

/-- .. as it stands where the bound is known. -/
theorem shift8 {f : Nat} (hf : f < 8) : (2 : Int) ^ f % 4294967296 = ((2 ^ f : Nat) : Int) := by
  have := shift_nat hf
  rwa [Nat.min_eq_left (by omega)] at this

/-- A remainder, named. -/
theorem mod_nat (x n : Nat) : (x : Int) % (n : Int) = ((x % n : Nat) : Int) := (Int.natCast_emod x n).symm
theorem mod_nat1 (x n : Nat) : (x : Int) % ((n : Int) + 1) = ((x % (n + 1) : Nat) : Int) := by
  rw [Int.natCast_emod]; simp

theorem shift_mod (x N : Nat) (hN0 : 0 < N) (hN : N ≤ 8) : (2 : Int) ^ min (IntKind.u64.wrap ((x : Int) % (N : Int))).toNat 32 % 4294967296 = ((2 ^ (x % N) : Nat) : Int) := by
  have h := Nat.mod_lt x hN0
  have e : IntKind.u64.wrap ((x : Int) % (N : Int)) = ((x % N : Nat) : Int) := by
    rw [← Int.natCast_emod]
    simp [IntKind.wrap, IntKind.signed, IntKind.bits]
    omega
  rw [e, Int.toNat_natCast]
  exact shift_nat (by omega)

theorem and_bit (m f : Nat) : m &&& 2 ^ f = if m.testBit f = true then 2 ^ f else 0 := by
  apply Nat.eq_of_testBit_eq
  intro q
  rw [Nat.testBit_and, Nat.testBit_two_pow]
  by_cases h : f = q
  · subst h
    cases hm : m.testBit f <;> simp [Nat.testBit_two_pow_self]
  · split <;> simp [h]

/-- 'm & (1 << f)': is the bit set? -/
theorem and_yes {m f : Nat} (hm : m < 256) (hf : f < 8) (h : m.testBit f = true) : ¬ bits .and .u32 (m : Int) ((2 ^ f : Nat) : Int) = 0 := by
  have hp := pow_lt32 hf
  rw [u32_and_nat m (2 ^ f) (by omega) (by omega), and_bit, if_pos h]
  have := Nat.two_pow_pos f
  omega
theorem and_no {m f : Nat} (hm : m < 256) (hf : f < 8) (h : m.testBit f = false) : bits .and .u32 (m : Int) ((2 ^ f : Nat) : Int) = 0 := by
  have hp := pow_lt32 hf
  rw [u32_and_nat m (2 ^ f) (by omega) (by omega), and_bit, if_neg (by rw [h]; decide)]
  rfl
theorem or_bit {m f : Nat} (hm : m < 256) (hf : f < 8) : bits .or .u32 (m : Int) ((2 ^ f : Nat) : Int) = ((m ||| 2 ^ f : Nat) : Int) := by
  have hp := pow_lt32 hf
  exact u32_or_nat m (2 ^ f) (by omega) (by omega)

theorem or_lt {m f : Nat} (hm : m < 256) (hf : f < 8) : m ||| 2 ^ f < 256 := Nat.or_lt_two_pow (n := 8) hm (pow_lt32 hf)

end Go.Proofs.Ybulkie
