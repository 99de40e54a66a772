import Derived.Test.Qxb6612592aDoorAtom
import Derived.Laws.Bits64b
namespace Go.Proofs.Qxb6612592aDoor
open Go.RowKit

theorem pow_lt (r : Nat) (h : r < 64) : 2 ^ r < 18446744073709551616 := by
  have := Nat.pow_lt_pow_right (a := 2) (by decide) h
  simpa using this

theorem wrap_pow (r : Nat) (h : r < 64) : IntKind.u64.wrap (2 ^ r) = ((2 ^ r : Nat) : Int) := by
  have h1 := pow_lt r h
  have e : ((2 : Int) ^ r) = ((2 ^ r : Nat) : Int) := by simp
  rw [e]
  generalize 2 ^ r = q at h1
  simp only [IntKind.wrap_u64]
  omega

theorem and_pow (x r : Nat) : (x &&& 2 ^ r = 0) ↔ x.testBit r = false := by
  constructor
  · intro h
    have e : (x &&& 2 ^ r).testBit r = x.testBit r := by rw [Nat.testBit_and, Nat.testBit_two_pow]; simp
    rw [← e, h]; simp
  · intro h
    apply Nat.eq_of_testBit_eq
    intro t
    rw [Nat.testBit_and, Nat.testBit_two_pow]
    by_cases ht : r = t
    · subst ht; simp [h]
    · simp [ht]

theorem and_bit (x r : Nat) (hx : x < 18446744073709551616) (h : r < 64) : (bits .and .u64 (x : Int) (IntKind.u64.wrap (2 ^ r)) != 0) = x.testBit r := by
  rw [wrap_pow r h, bits_and_u64_nat x (2 ^ r) hx (pow_lt r h)]
  have e := and_pow x r
  cases hb : x.testBit r
  · rw [e.2 hb]; rfl
  · have n0 : x &&& 2 ^ r ≠ 0 := fun h0 => by rw [e.1 h0] at hb; cases hb
    rw [bne_iff_ne]
    omega

theorem or_bit (x r : Nat) (hx : x < 18446744073709551616) (h : r < 64) :
    ∃ y : Nat, bits .or .u64 (x : Int) (IntKind.u64.wrap (2 ^ r)) = (y : Int) ∧ y < 18446744073709551616 ∧ ∀ t, y.testBit t = (x.testBit t || decide (r = t)) := by
  refine ⟨x ||| 2 ^ r, ?_, ?_, ?_⟩
  · rw [wrap_pow r h, bits_or_u64_nat x (2 ^ r) hx (pow_lt r h)]
  · exact Nat.or_lt_two_pow (n := 64) hx (pow_lt r h)
  · intro t
    rw [Nat.testBit_or, Nat.testBit_two_pow]
end Go.Proofs.Qxb6612592aDoor
