/- Plain facts on the bits of a word: its exponent field, its fraction, its sign. Conditions: as each states. -/
import Derived.Test.YtnegjfdaijnadaaMth
namespace Go.Proofs.Ytnegjfdaijnadaa
open Flt Ieee Go.RowKit

/-! ### bits -/
theorem and_high {a d : Nat} (h : a < 2 ^ 64) (hd : d ≤ 64) : a &&& (2 ^ 64 - 2 ^ d) = a / 2 ^ d * 2 ^ d := by
  have e1 : 2 ^ 64 - 2 ^ d = (2 ^ (64 - d) - 1) <<< d := by
    rw [Nat.shiftLeft_eq, Nat.sub_mul, Nat.one_mul, ← Nat.pow_add, Nat.sub_add_cancel hd]
  have e2 : a &&& ((2 ^ (64 - d) - 1) <<< d) = ((a >>> d) &&& (2 ^ (64 - d) - 1)) <<< d := by
    apply Nat.eq_of_testBit_eq
    intro i
    simp only [Nat.testBit_and, Nat.testBit_shiftLeft, Nat.testBit_shiftRight]
    by_cases c : d ≤ i
    · rw [show d + (i - d) = i by omega]; simp [c]
    · simp [c]
  rw [e1, e2, Nat.and_two_pow_sub_one_eq_mod, Nat.shiftLeft_eq, Nat.shiftRight_eq_div_pow, Nat.mod_eq_of_lt]
  rw [Nat.div_lt_iff_lt_mul (Nat.two_pow_pos d), ← Nat.pow_add, Nat.sub_add_cancel hd]
  exact h

/-- The exponent field. -/
def expo (b : Nat) : Nat := rg b / 2 ^ 52
theorem expo_lt (b : Nat) : expo b < 2048 := by have := rg_lt b; unfold expo; omega
theorem expo_bits {b : Nat} (h : b < 2 ^ 64) : bits .and .u64 ((b : Int) / 4503599627370496) 2047 = (expo b : Int) := by
  have e1 : ((b : Int) / 4503599627370496) = ((b / 4503599627370496 : Nat) : Int) := by omega
  rw [e1]
  have e2 := u64_and_nat (b / 4503599627370496) 2047 (by omega) (by omega)
  rw [show ((2047 : Nat) : Int) = 2047 from rfl] at e2
  rw [e2, show b / 4503599627370496 &&& 2047 = (b / 4503599627370496) % 2 ^ 11 from Nat.and_two_pow_sub_one_eq_mod _ 11]
  unfold expo rg
  omega

theorem rg_expo (b : Nat) : rg b = expo b * 2 ^ 52 + rg b % 2 ^ 52 := by unfold expo; omega


/-! ### fields taken apart and put together -/
theorem sg_mod (b : Nat) : b % 2 ^ 52 = rg b % 2 ^ 52 := by unfold rg; omega
theorem wd_or (s : Bool) {r : Nat} (h : r < 2 ^ 63) : (if s then 2 ^ 63 else 0) ||| r = wd s r := by
  cases s
  · rw [if_neg Bool.false_ne_true, Nat.zero_or]; rfl
  · rw [if_pos rfl]; exact (or_top h).symm
/-- The exponent field cleared. -/
theorem clear_expo {b : Nat} (h : b < 2 ^ 64) : bits .andNot .u64 (b : Int) 9218868437227405312 = (wd (sg b) (rg b % 2 ^ 52) : Int) := by
  have e1 := u64_andNot_nat b 9218868437227405312 h (by omega)
  have e2 : b &&& (18446744073709551615 - 9218868437227405312) = wd (sg b) (rg b % 2 ^ 52) := by
    have a1 : 18446744073709551615 - 9218868437227405312 = 2 ^ 63 ||| (2 ^ 52 - 1) := by
      rw [← or_top (by omega)]
    rw [a1, Nat.and_or_distrib_left, Nat.and_two_pow_sub_one_eq_mod, show b &&& 2 ^ 63 = _ from and_top h, sg_mod]
    exact wd_or (sg b) (by omega)
  rw [e2] at e1
  exact e1
theorem sg_wd' (s : Bool) {r : Nat} (h : r < 2 ^ 63) : sg (wd s r) = s := sg_wd s h
/-- An exponent field put in. -/
theorem put_expo (s : Bool) {f E : Nat} (hf : f < 2 ^ 52) (hE : E < 2048) : wd s f ||| E * 2 ^ 52 = wd s (E * 2 ^ 52 + f) := by
  have h1 : E * 2 ^ 52 + f = E * 2 ^ 52 ||| f := by
    have := Nat.two_pow_add_eq_or_of_lt hf E
    rw [Nat.mul_comm] at this
    exact this
  rw [← wd_or s (r := f) (by omega), ← wd_or s (r := E * 2 ^ 52 + f) (by omega), h1, Nat.or_assoc, Nat.or_comm f]
theorem put_expo_bits (s : Bool) {f E : Nat} (hf : f < 2 ^ 52) (hE : E < 2048) : bits .or .u64 (wd s f : Int) ((E * 2 ^ 52 : Nat) : Int) = (wd s (E * 2 ^ 52 + f) : Int) := by
  rw [u64_or_nat (wd s f) (E * 2 ^ 52) (wd_lt s (by omega)) (by omega), put_expo s hf hE]
theorem expo_wd (s : Bool) {f E : Nat} (hf : f < 2 ^ 52) (hE : E < 2048) : expo (wd s (E * 2 ^ 52 + f)) = E := by
  unfold expo; rw [rg_wd s (by omega)]; omega
theorem frac_wd (s : Bool) {f E : Nat} (hf : f < 2 ^ 52) (hE : E < 2048) : rg (wd s (E * 2 ^ 52 + f)) % 2 ^ 52 = f := by
  rw [rg_wd s (by omega)]; omega
end Go.Proofs.Ytnegjfdaijnadaa
