/- Plain facts on the integer and the fractional part of a finite word: 1 added or taken away, the fraction, the half. Conditions: as each states. -/
import Derived.Test.YtnegjfdaijnadaaWhl
namespace Go.Proofs.Ytnegjfdaijnadaa
open Flt Ieee Go.RowKit

theorem near_isInt (s0 : Bool) {z : Int} {k : Nat} (hz : z.natAbs = k * U) (hk : k ≤ 2 ^ 53) : IsInt (near s0 z) (if z = 0 then s0 else decide (z < 0)) k := by
  have h := near_int (if z = 0 then s0 else decide (z < 0)) hk
  unfold near
  rw [hz]
  exact h

theorem qf (n : Nat) : n = n / U * U + n % U := by rw [Nat.mul_comm]; exact (Nat.div_add_mod n U).symm
theorem succ_U (k : Nat) : (k + 1) * U = k * U + U := by rw [Nat.add_mul, Nat.one_mul]

/-- 'r - 1' of a negative integer. -/
theorem sub_one {r k : Nat} (h : IsInt r true k) (hk : k < 2 ^ 53) : ∃ g, double.sub r 4607182418800017408 = some g ∧ IsInt g true (k + 1) := by
  have hv := isInt_val h
  have hU := U_pos
  refine ⟨_, sub_fin h.2.1 fin_one, ?_⟩
  have hz : val r - val 4607182418800017408 = -(((k + 1) * U : Nat) : Int) := by
    rw [hv, val_one, succ_U]; simp; omega
  have h1 := near_isInt (sg r && !sg 4607182418800017408) (z := val r - val 4607182418800017408) (k := k + 1) (by rw [hz]; omega) (by omega)
  have hp : 0 < (k + 1) * U := Nat.mul_pos (by omega) hU
  rw [if_neg (by rw [hz]; omega), decide_eq_true (show val r - val 4607182418800017408 < 0 by rw [hz]; omega)] at h1
  exact h1
/-- 'r + 1' of an integer that is not negative. -/
theorem add_one {r k : Nat} (h : IsInt r false k) (hk : k < 2 ^ 53) : ∃ g, double.add r 4607182418800017408 = some g ∧ IsInt g false (k + 1) := by
  have hv := isInt_val h
  have hU := U_pos
  refine ⟨_, add_fin h.2.1 fin_one, ?_⟩
  have hz : val r + val 4607182418800017408 = (((k + 1) * U : Nat) : Int) := by
    rw [hv, val_one, succ_U]; simp
  have h1 := near_isInt (sg r && sg 4607182418800017408) (z := val r + val 4607182418800017408) (k := k + 1) (by rw [hz]; omega) (by omega)
  have hp : 0 < (k + 1) * U := Nat.mul_pos (by omega) hU
  rw [if_neg (by rw [hz]; omega), decide_eq_false (show ¬ val r + val 4607182418800017408 < 0 by rw [hz]; omega)] at h1
  exact h1

theorem frac_rung (n : Nat) : ∃ r, mag r = mag n % U ∧ r < INF := by
  have key : ∃ r, mag r = mag n % U := by
    obtain ⟨m, k, e, hm, -, -⟩ := mag_form n
    rcases Nat.lt_or_ge k UE with c | c
    · obtain ⟨r, hr⟩ := exists_rung k (m % 2 ^ (UE - k)) (Nat.lt_of_le_of_lt (Nat.mod_le _ _) hm)
      refine ⟨r, ?_⟩
      rw [hr, e]
      have := mod_scale m (UE - k) k
      rw [Nat.sub_add_cancel (Nat.le_of_lt c)] at this
      exact this.symm
    · exact ⟨0, by rw [e, mag_mod_of_ge c, mag_zero]⟩
  obtain ⟨r, hr⟩ := key
  refine ⟨r, hr, ?_⟩
  rw [← mag_lt_iff, hr]
  have h1 := Nat.mod_lt (mag n) U_pos
  have h2 := big_lt_INF
  have h3 : 1 * U ≤ 2 ^ 53 * U := Nat.mul_le_mul_right _ (by omega)
  omega

/-- The fraction of a word, without its sign. -/
def fracW (b : Nat) : Nat := near false ((mag (rg b) % U : Nat) : Int)
theorem fracW_spec (b : Nat) : Fnt (fracW b) ∧ val (fracW b) = ((mag (rg b) % U : Nat) : Int) ∧ sg (fracW b) = false ∧ mag (rg (fracW b)) = mag (rg b) % U ∧ fracW b < 2 ^ 64 := by
  obtain ⟨r, hr, hi⟩ := frac_rung (rg b)
  obtain ⟨h1, h2, h3, h4⟩ := near_val false (z := ((mag (rg b) % U : Nat) : Int)) (r := r) (by rw [Int.natAbs_natCast]; exact hr) hi
  refine ⟨h1, h2, ?_, ?_, near_lt _ _⟩
  · rw [show fracW b = near false ((mag (rg b) % U : Nat) : Int) from rfl, h3]
    split
    · rfl
    · simp; omega
  · rw [show fracW b = near false ((mag (rg b) % U : Nat) : Int) from rfl, h4, hr]
theorem sub_frac {b : Nat} (h : Fnt b) (h64 : b < 2 ^ 64) : double.sub (absW b) (absW (intW .zero b)) = some (fracW b) := by
  have ht := truncW_int h h64
  rw [sub_fin (fin_absW.2 h) (fin_absW.2 ht.2.1), sg_absW, val_absW, val_absW, ht.2.2.2]
  have := qf (mag (rg b))
  unfold fracW
  rw [show (mag (rg b) : Int) - ((mag (rg b) / U * U : Nat) : Int) = ((mag (rg b) % U : Nat) : Int) by omega]
  rfl

theorem fin_half : Fnt 4602678819172646912 := by unfold Fnt rg INF; omega
theorem mag_half : mag (rg 4602678819172646912) = HU := by
  have h : rg 4602678819172646912 = (1021 + 1) * 2 ^ 52 := by unfold rg; omega
  rw [h]
  refine (mag_of0 1021).trans ?_
  have : ∀ e : Nat, UE - 1 = 52 + e → 2 ^ 52 * 2 ^ e = HU := by
    intro e he
    unfold HU; rw [he, Nat.pow_add]
  exact this 1021 (by rw [UE_eq])
theorem val_half : val 4602678819172646912 = (HU : Int) := by
  unfold val
  rw [show sg 4602678819172646912 = false from rfl, mag_half]; rfl
theorem ord_half_lt (b : Nat) (h : 2 * (mag (rg b) % U) < U) : FloatKind.f64.format.order (fracW b) 4602678819172646912 = some .lt := by
  have := U_two
  exact ord_lt (fracW_spec b).1 fin_half (by rw [(fracW_spec b).2.1, val_half]; omega)
theorem ord_half_eq (b : Nat) (h : 2 * (mag (rg b) % U) = U) : FloatKind.f64.format.order (fracW b) 4602678819172646912 = some .eq := by
  have := U_two
  exact ord_eq (fracW_spec b).1 fin_half (by rw [(fracW_spec b).2.1, val_half]; omega)
theorem ord_half_gt (b : Nat) (h : U < 2 * (mag (rg b) % U)) : FloatKind.f64.format.order (fracW b) 4602678819172646912 = some .gt := by
  have := U_two
  exact ord_gt (fracW_spec b).1 fin_half (by rw [(fracW_spec b).2.1, val_half]; omega)

/-- How a number stands to what is left of it without its places behind the point. -/
theorem ord_trunc_eq {b : Nat} (h : Fnt b) (h64 : b < 2 ^ 64) (c : mag (rg b) % U = 0) : FloatKind.f64.format.order (intW .zero b) b = some .eq := by
  rw [truncW_of_mod h h64 c]; exact ord_self (fin_nan h)
theorem val_eq {b : Nat} {s : Bool} (hs : sg b = s) : val b = if s then -(mag (rg b) : Int) else (mag (rg b) : Int) := by unfold val; rw [hs]
theorem ord_trunc_gt {b : Nat} (h : Fnt b) (h64 : b < 2 ^ 64) (hs : sg b = true) (c : mag (rg b) % U ≠ 0) : FloatKind.f64.format.order (intW .zero b) b = some .gt := by
  have ht := truncW_int h h64
  have := qf (mag (rg b))
  refine ord_gt ht.2.1 h ?_
  rw [isInt_val ht, val_eq hs, hs, if_pos rfl, if_pos rfl]
  omega
theorem ord_trunc_lt {b : Nat} (h : Fnt b) (h64 : b < 2 ^ 64) (hs : sg b = false) (c : mag (rg b) % U ≠ 0) : FloatKind.f64.format.order (intW .zero b) b = some .lt := by
  have ht := truncW_int h h64
  have := qf (mag (rg b))
  refine ord_lt ht.2.1 h ?_
  rw [isInt_val ht, val_eq hs, hs, if_neg Bool.false_ne_true, if_neg Bool.false_ne_true]
  omega
/-- The nearest integer, halves away from 0. -/
def awayW (b : Nat) : Nat := wd (sg b) (min (rd (Kaway (mag (rg b)) * U)) INF)
theorem awayW_int {b : Nat} (h : Fnt b) (h64 : b < 2 ^ 64) : IsInt (awayW b) (sg b) (Kaway (mag (rg b))) := round_int h h64 (Kaway_form _)
end Go.Proofs.Ytnegjfdaijnadaa
