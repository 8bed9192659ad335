/-
  PLAIN LAWS FOR 'LawS1564CWords': masks of the low r bits of a uint64. No Go text in sight but the model's own 'bits' and 'wrap'.
-/
import Derived.WalkKit
namespace Go.Proofs.Ybulkafje.Words
open Go

/-- The number whose low r bits are set. -/
def mk (r : Nat) : Int := ((2 ^ r - 1 : Nat) : Int)

theorem or_step (r : Nat) : (2 ^ r - 1) ||| 2 ^ r = 2 ^ (r + 1) - 1 := by
  apply Nat.eq_of_testBit_eq
  intro i
  rw [Nat.testBit_or, Nat.testBit_two_pow_sub_one, Nat.testBit_two_pow_sub_one, Nat.testBit_two_pow]
  by_cases h1 : i < r
  · simp [h1]; omega
  · by_cases h2 : r = i
    · subst h2; simp
    · simp [h1, h2]; omega

theorem pow_lt (r : Nat) (h : r < 64) : (2 : Nat) ^ r < 18446744073709551616 := by
  have : (2 : Nat) ^ r < 2 ^ 64 := Nat.pow_lt_pow_right (by omega) h
  omega

theorem cast_pow (r : Nat) : ((2 : Int) ^ r) = ((2 ^ r : Nat) : Int) := by
  simp

theorem wrap_pow (r : Nat) (h : r < 64) : IntKind.u64.wrap ((2 : Int) ^ r) = ((2 ^ r : Nat) : Int) := by
  have hp := pow_lt r h
  rw [IntKind.wrap_u64, cast_pow]
  generalize (2 : Nat) ^ r = x at hp ⊢
  omega

theorem mk_or (r : Nat) (h : r < 64) : bits .or .u64 (mk r) (IntKind.u64.wrap ((2 : Int) ^ r)) = mk (r + 1) := by
  have hp := pow_lt r h
  rw [wrap_pow r h]
  unfold mk
  rw [u64_or_nat _ _ (by omega) hp, or_step]

theorem mk_sub (r : Nat) (h : r < 64) : IntKind.u64.wrap (IntKind.u64.wrap ((2 : Int) ^ r) - 1) = mk r := by
  have hp := pow_lt r h
  have h1 : 1 ≤ 2 ^ r := Nat.one_le_two_pow
  rw [wrap_pow r h, IntKind.wrap_u64]
  unfold mk
  omega

theorem mk_full : mk 64 = 18446744073709551615 := by
  unfold mk
  decide

/-- The number of items in the last word. -/
def rest (n : Int) : Nat := if (n + 1) % 64 = 0 then 64 else ((n + 1) % 64).toNat

theorem rest_eq (n k : Int) (h1 : n + 1 ≤ k * 64) (h2 : k ≤ (n + 64) / 64) : (rest n : Int) = n + 1 - (k - 1) * 64 := by
  unfold rest
  split <;> omega

theorem rest_le (n : Int) : 1 ≤ rest n ∧ rest n ≤ 64 := by
  unfold rest
  split <;> omega

end Go.Proofs.Ybulkafje.Words
