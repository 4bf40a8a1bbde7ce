/- The contract of the reference's twice. Conditions: as each states. -/
import Derived.Test.YtnegjfdaijnadaaMnw
namespace Go.Proofs.Ytnegjfdaijnadaa
open Flt Ieee Go.RowKit

/-- A digit at a place that may be below 0. -/
def idg (N : Nat) (i : Int) : Nat := if i < 0 then 0 else dgt N i.toNat
theorem idg_lt (N : Nat) (i : Int) : idg N i < 4294967296 := by unfold idg; split; omega; exact dgt_lt _ _
theorem twice_digit (A s r i : Nat) (hr : r < 32) : dgt (A * 2 ^ (32 * s + r)) i = (idg A ((i : Int) - (s : Int)) * 2 ^ r + idg A ((i : Int) - (s : Int) - 1) * 2 ^ r / 4294967296) % 4294967296 := by
  have hp := Nat.two_pow_pos r
  rcases Nat.lt_or_ge i s with c | c
  · have e : dgt (A * 2 ^ (32 * s + r)) i = 0 := by
      unfold dgt
      obtain ⟨d, hd⟩ : ∃ d, 32 * s + r = 32 * i + (32 + d) := ⟨32 * s + r - 32 * i - 32, by omega⟩
      rw [hd, Nat.pow_add, Nat.mul_comm (2 ^ (32 * i)), ← Nat.mul_assoc, Nat.mul_div_cancel _ (Nat.two_pow_pos _), Nat.pow_add, Nat.mul_comm (2 ^ 32), ← Nat.mul_assoc]
      exact Nat.mul_mod_left _ _
    unfold idg
    rw [e, if_pos (by omega), if_pos (by omega)]
    simp
  · obtain ⟨j, rfl⟩ : ∃ j, i = s + j := ⟨i - s, by omega⟩
    have e1 : A * 2 ^ (32 * s + r) / 2 ^ (32 * (s + j)) = A * 2 ^ r / 2 ^ (32 * j) := by
      rw [Nat.pow_add, Nat.mul_add, Nat.pow_add, Nat.mul_comm (2 ^ (32 * s)) (2 ^ r), ← Nat.mul_assoc, Nat.mul_comm (2 ^ (32 * s)), Nat.mul_div_mul_right _ _ (Nat.two_pow_pos _)]
    have i1 : ((s + j : Nat) : Int) - (s : Int) = (j : Int) := by omega
    rw [i1]
    have eL : dgt (A * 2 ^ (32 * s + r)) (s + j) = A * 2 ^ r / 2 ^ (32 * j) % 4294967296 := by unfold dgt; rw [e1]
    have eJ : idg A (j : Int) = dgt A j := by unfold idg; rw [if_neg (by omega), Int.toNat_natCast]
    rw [eL, eJ]
    rcases j with _ | j
    · have e0 : idg A (((0 : Nat) : Int) - 1) = 0 := by unfold idg; rw [if_pos (by omega)]
      rw [e0, Nat.zero_mul, Nat.zero_div, Nat.add_zero, Nat.mul_zero, Nat.pow_zero, Nat.div_one]
      unfold dgt
      rw [Nat.mul_zero, Nat.pow_zero, Nat.div_one, Nat.mod_mul_mod]
    · have e0 : idg A (((j + 1 : Nat) : Int) - 1) = dgt A j := by
        unfold idg
        rw [if_neg (by omega)]
        congr 1
        omega
      rw [e0]
      have hsp := dgt_split A j
      have hq : A * 2 ^ r / 2 ^ (32 * (j + 1)) = A / 2 ^ (32 * j) / 2 ^ (32 - r) := by
        obtain ⟨d, hd⟩ : ∃ d, 32 = r + d := ⟨32 - r, by omega⟩
        rw [Nat.div_div_eq_div_mul, show 32 - r = d by omega, show 32 * (j + 1) = 32 * j + d + r by omega, Nat.pow_add _ _ r, Nat.mul_div_mul_right _ _ hp, Nat.pow_add]
      rw [hq, hsp]
      have ea : dgt A (j + 1) = A / 2 ^ (32 * (j + 1)) % 4294967296 := rfl
      rw [ea]
      generalize A / 2 ^ (32 * (j + 1)) = q
      generalize dgt A j = b
      obtain ⟨d, hd⟩ : ∃ d, 32 = r + d := ⟨32 - r, by omega⟩
      have e2 : (4294967296 : Nat) = 2 ^ r * 2 ^ d := by rw [← Nat.pow_add, ← hd]
      have hpd := Nat.two_pow_pos d
      have e3 : (q * 4294967296 + b) / 2 ^ (32 - r) = q * 2 ^ r + b / 2 ^ d := by
        rw [show 32 - r = d by omega]
        have e5 : q * 4294967296 = 2 ^ d * (q * 2 ^ r) := by rw [e2, ← Nat.mul_assoc, Nat.mul_comm]
        rw [e5, Nat.mul_add_div hpd]
      have e4 : b * 2 ^ r / 4294967296 = b / 2 ^ d := by
        rw [e2, Nat.mul_comm (2 ^ r), Nat.mul_div_mul_right _ _ hp]
      rw [e3, e4]
      generalize b / 2 ^ d = c
      rw [Nat.add_mod, ← Nat.mod_mul_mod, ← Nat.add_mod]
theorem u64_join (p y r : Nat) (hr : r < 32) (hp : p < 4294967296) (hy : y < 2 ^ r) : bits .or .u64 ((p * 2 ^ r : Nat) : Int) (y : Int) = ((p * 2 ^ r + y : Nat) : Int) := by
  have h1 : 2 ^ r ≤ 2147483648 := Nat.pow_le_pow_right (n := 2) (by omega) (show r ≤ 31 by omega)
  have h2 : p * 2 ^ r ≤ 4294967295 * 2147483648 := Nat.mul_le_mul (by omega) h1
  rw [u64_or_nat (p * 2 ^ r) y (by omega) (by omega)]
  have e := Nat.two_pow_add_eq_or_of_lt hy p
  rw [Nat.mul_comm] at e
  rw [← e]
theorem twice_step (A s r i : Nat) (hr : r < 32) : ∃ wh y rs o : Nat, IntKind.u64.wrap ((idg A ((i : Int) - (s : Int)) : Int) * 2 ^ r) = (wh : Int) ∧ IntKind.u64.wrap ((idg A ((i : Int) - (s : Int) - 1) : Int) * 2 ^ r) = (y : Int) ∧ (y : Int) / 4294967296 = (rs : Int) ∧ bits .or .u64 (wh : Int) (rs : Int) = (o : Int) ∧ o < 18446744073709551616 ∧ o % 4294967296 = dgt (A * 2 ^ (32 * s + r)) i := by
  have hd := twice_digit A s r i hr
  have la := idg_lt A ((i : Int) - (s : Int))
  have lb := idg_lt A ((i : Int) - (s : Int) - 1)
  generalize idg A ((i : Int) - (s : Int)) = p at *
  generalize idg A ((i : Int) - (s : Int) - 1) = q at *
  have h1 : 2 ^ r ≤ 2147483648 := Nat.pow_le_pow_right (n := 2) (by omega) (show r ≤ 31 by omega)
  have h2 : p * 2 ^ r ≤ 4294967295 * 2147483648 := Nat.mul_le_mul (by omega) h1
  have h3 : q * 2 ^ r ≤ 4294967295 * 2147483648 := Nat.mul_le_mul (by omega) h1
  have hy : q * 2 ^ r / 4294967296 < 2 ^ r := by
    rw [Nat.div_lt_iff_lt_mul (by omega), Nat.mul_comm]
    exact (Nat.mul_lt_mul_left (Nat.two_pow_pos r)).2 lb
  have c1 : ∀ x : Nat, (x : Int) * 2 ^ r = ((x * 2 ^ r : Nat) : Int) := by
    intro x; rw [Int.natCast_mul, Int.natCast_pow]; rfl
  refine ⟨p * 2 ^ r, q * 2 ^ r, q * 2 ^ r / 4294967296, p * 2 ^ r + q * 2 ^ r / 4294967296, ?_, ?_, ?_, u64_join p _ r hr la hy, ?_, hd.symm⟩
  · rw [c1, IntKind.wrap_u64]; generalize p * 2 ^ r = X at *; omega
  · rw [c1, IntKind.wrap_u64]; generalize q * 2 ^ r = X at *; omega
  · generalize q * 2 ^ r = X at *; omega
  · generalize q * 2 ^ r = X at *; generalize p * 2 ^ r = Y at *; omega
end Go.Proofs.Ytnegjfdaijnadaa
