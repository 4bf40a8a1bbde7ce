/- Plain facts on powers of 2: the normal form of a magnitude, products that are exact. Conditions: as each states. -/
import Derived.Test.YtnegjfdaijnadaaVal
namespace Go.Proofs.Ytnegjfdaijnadaa
open Flt Ieee Go.RowKit

/-- The normal form of a magnitude that is not 0: 53 binary digits. -/
theorem norm_form {r : Nat} (h0 : r ≠ 0) : ∃ M e, 2 ^ 52 ≤ M ∧ M < 2 ^ 53 ∧ mag r * 2 ^ 52 = M * 2 ^ e ∧ (r < INF → e ≤ 2097) := by
  obtain ⟨m, k, hm, hlt, hk, hi⟩ := mag_form r
  by_cases c : 2 ^ 52 ≤ m
  · exact ⟨m, k + 52, c, hlt, by rw [hm, Nat.pow_add, Nat.mul_assoc], fun h => by have := hi h; omega⟩
  · have hk0 : k = 0 := by omega
    subst hk0
    have hm0 : m ≠ 0 := by
      intro e
      rw [e, Nat.zero_mul] at hm
      exact h0 (mag_eq_zero.1 hm)
    have h1 := Nat.log2_self_le hm0
    have h2 := lt_pow_log2 m
    have h3 : m.log2 < 52 := (Nat.log2_lt hm0).2 (by omega)
    refine ⟨m * 2 ^ (52 - m.log2), m.log2, ?_, ?_, ?_, fun _ => by omega⟩
    · have := Nat.mul_le_mul_right (2 ^ (52 - m.log2)) h1
      rw [← Nat.pow_add, Nat.add_sub_cancel' (by omega)] at this
      exact this
    · have := (Nat.mul_lt_mul_right (Nat.two_pow_pos (52 - m.log2))).2 h2
      rw [← Nat.pow_add, show m.log2 + 1 + (52 - m.log2) = 53 by omega] at this
      exact this
    · rw [hm, Nat.pow_zero, Nat.mul_one, Nat.mul_assoc, ← Nat.pow_add, Nat.sub_add_cancel (by omega)]
theorem norm_unique {M N e f : Nat} (h1 : 2 ^ 52 ≤ M) (h2 : M < 2 ^ 53) (h3 : 2 ^ 52 ≤ N) (h4 : N < 2 ^ 53) (h : M * 2 ^ e = N * 2 ^ f) : M = N ∧ e = f := by
  have a := log2_scale (m := M) (by omega) e
  have b := log2_scale (m := N) (by omega) f
  rw [h, b, log2_between (n := M) (k := 52) h1 h2, log2_between (n := N) (k := 52) h3 h4] at a
  have e1 : e = f := by omega
  subst e1
  exact ⟨Nat.eq_of_mul_eq_mul_right (Nat.two_pow_pos e) h, rfl⟩

/-- The rung of a normal form. -/
theorem mag_norm {M e : Nat} (h1 : 2 ^ 52 ≤ M) (h2 : M < 2 ^ 53) : mag ((e + 1) * 2 ^ 52 + (M - 2 ^ 52)) = M * 2 ^ e := by
  rw [mag_of _ _ (by omega), show 2 ^ 52 + (M - 2 ^ 52) = M by omega]

theorem mul_exact {a b t : Nat} (ha : Fnt a) (hb : Fnt b) (ht : mag (rg a) * mag (rg b) = mag t * U) (hi : t ≤ INF) : double.mul a b = some (wd (sg a ^^ sg b) t) := by
  obtain ⟨m, i, ra, va, -⟩ := read_fin ha
  obtain ⟨n, j, rb, vb, -⟩ := read_fin hb
  unfold Format.mul
  rw [ra, rb]
  simp only [Datum.product, Option.map_some, Format.write]
  have e1 : m * n * 2 ^ (i + j) = mag t * 2 ^ UE := by
    rw [show mag t * 2 ^ UE = mag t * U from rfl, ← ht, va, vb, Nat.pow_add, Nat.mul_assoc, Nat.mul_assoc, ← Nat.mul_assoc n, Nat.mul_comm n (2 ^ i), Nat.mul_assoc]
  have h1 := nearest_scale (sg a ^^ sg b) (m * n) (-1074 + (i : Int) + (-1074 + (j : Int))) (i + j)
  have h2 := nearest_scale (sg a ^^ sg b) (mag t) (-1074) UE
  rw [e1] at h1
  rw [show -1074 + (i : Int) + (-1074 + (j : Int)) - ((i + j : Nat) : Int) = -1074 - (UE : Nat) by rw [UE_eq]; omega] at h1
  rw [← h1, h2, nearest_unit, rd_mag, Nat.min_eq_left hi, wd_eq]
end Go.Proofs.Ytnegjfdaijnadaa
