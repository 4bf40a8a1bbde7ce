/- Plain facts for the laws of Remainder. Conditions: as each states. -/
import Derived.Test.YtnegjfdaijnadaaRmw
namespace Go.Proofs.Ytnegjfdaijnadaa
open Flt Ieee Go.RowKit

theorem remZ_small {A Y : Nat} (hY : 0 < Y) (h : 2 * A ≤ Y) : remZ A Y = (A : Int) := by
  have e1 : A % Y = A := Nat.mod_eq_of_lt (by omega)
  have e2 : A / Y = 0 := Nat.div_eq_of_lt (by omega)
  unfold remZ
  rw [e1, e2, if_pos (by omega)]
theorem remZ_le (X Y : Nat) (hY : 0 < Y) : 2 * (remZ X Y).natAbs ≤ Y ∧ (remZ X Y).natAbs ≤ X := by
  have hm := Nat.mod_lt X hY
  have hl := Nat.mod_le X Y
  rcases remZ_abs X Y hY with ⟨e, c⟩ | ⟨e, c⟩
  · rw [e]; omega
  · rw [e]; omega
theorem mag_pos {y : Nat} (hz : y ≠ 0) : 0 < mag y := Nat.pos_of_ne_zero (fun q => hz (mag_eq_zero.1 q))
/-- Where twice the first is not above the second, the remainder is the first. -/
theorem remW_keep {x y : Nat} (hx : Fnt x) (hx0 : x < 2 ^ 64) (hz : rg y ≠ 0) (h : 2 * mag (rg x) ≤ mag (rg y)) : remW x y = x := by
  unfold remW
  rw [remZ_small (mag_pos hz) h]
  exact (word_near hx0 hx (val_eq rfl) (fun _ => rfl)).symm
theorem remW_again {x y : Nat} (hx : Fnt x) (hz : rg y ≠ 0) : remW (remW x y) y = remW x y := by
  obtain ⟨h1, h2, h3, h4, h5⟩ := remW_spec hx hz
  refine remW_keep h1 h3 hz ?_
  rw [h5]; exact (remZ_le _ _ (mag_pos hz)).1
theorem remW_right {x y : Nat} (h : y < 2 ^ 64) : remW x (negW y) = remW x y := by unfold remW; rw [rg_negW h]
theorem remW_left {x y : Nat} (hx : Fnt x) (h : x < 2 ^ 64) (hz : rg y ≠ 0) : remW (negW x) y = negW (remW x y) := by
  obtain ⟨h1, h2, h3, h4, h5⟩ := remW_spec hx hz
  refine (word_near (negW_lt h3) ((fin_negW h3).2 h1) ?_ ?_).symm
  · rw [val_negW h3, h2, sg_negW h, rg_negW h]
    cases sg x
    · rfl
    · exact Int.neg_neg _
  · intro e
    rw [sg_negW h, rg_negW h] at e
    rw [sg_negW h3, sg_negW h, h4 ?_]
    cases hs : sg x
    · rw [hs] at e
      exact Int.neg_eq_zero.1 e
    · rw [hs] at e; exact e

/-- The nearest word to a number that is not negative and not too great. -/
theorem near_nonneg (s : Bool) {z t : Nat} (h : z ≤ mag t) (ht : t < INF) : Fnt (near s (z : Int)) ∧ val (near s (z : Int)) = (mag (rd z) : Int) ∧ rd z ≤ t := by
  have hl := INF_lt
  have h1 : rd z ≤ t := rd_le h
  have h2 : rd z < INF := Nat.lt_of_le_of_lt h1 ht
  have h3 : rd z < 9223372036854775808 := Nat.lt_trans h2 hl
  have e : near s (z : Int) = wd (if (z : Int) = 0 then s else decide ((z : Int) < 0)) (rd z) := by
    unfold near
    rw [Int.natAbs_natCast, Nat.min_eq_left (Nat.le_of_lt h2)]
  rw [e]
  refine ⟨by unfold Fnt; rw [rg_wd _ h3]; exact h2, ?_, h1⟩
  rw [val_wd _ h3]
  by_cases c : z = 0
  · subst c; rw [rd_zero, mag_zero]; simp
  · rw [if_neg (show ¬ (z : Int) = 0 by omega), decide_eq_false (show ¬ (z : Int) < 0 by omega), if_neg Bool.false_ne_true]
theorem near_neg (s : Bool) {z t : Nat} (h : z ≤ mag t) (ht : t < INF) : Fnt (near s (-(z : Int))) ∧ val (near s (-(z : Int))) ≤ 0 := by
  have hl := INF_lt
  have h1 : rd z ≤ t := rd_le h
  have h2 : rd z < INF := Nat.lt_of_le_of_lt h1 ht
  have h3 : rd z < 9223372036854775808 := Nat.lt_trans h2 hl
  have e : near s (-(z : Int)) = wd (if (-(z : Int)) = 0 then s else decide (-(z : Int) < 0)) (rd z) := by
    unfold near
    rw [Int.natAbs_neg, Int.natAbs_natCast, Nat.min_eq_left (Nat.le_of_lt h2)]
  rw [e]
  refine ⟨by unfold Fnt; rw [rg_wd _ h3]; exact h2, ?_⟩
  rw [val_wd _ h3]
  by_cases c : z = 0
  · subst c; rw [rd_zero, mag_zero]; simp
  · rw [if_neg (show ¬ -(z : Int) = 0 by omega), decide_eq_true (show -(z : Int) < 0 by omega), if_pos rfl]; omega
theorem mag_rd_ge {z r : Nat} (h : mag r ≤ z) : mag r ≤ mag (rd z) := mag_le (rd_ge h)
theorem mag_rd_exact (t : Nat) : mag (rd (mag t)) = mag t := by rw [rd_mag]
/-- Y - X, rounded, against X. -/
theorem diff_cmp {y x : Nat} (s : Bool) (hy : y < INF) (hx : x < INF) (hz : y ≠ 0) : Fnt (near s ((mag y : Int) - (mag x : Int))) ∧ (2 * mag x ≤ mag y → (mag x : Int) ≤ val (near s ((mag y : Int) - (mag x : Int)))) ∧ (mag y < 2 * mag x → val (near s ((mag y : Int) - (mag x : Int))) < (mag x : Int)) := by
  have hp := mag_pos hz
  rcases Nat.le_total (mag x) (mag y) with c | c
  · have e : (mag y : Int) - (mag x : Int) = ((mag y - mag x : Nat) : Int) := (Int.ofNat_sub c).symm
    rw [e]
    obtain ⟨n1, n2, -⟩ := near_nonneg s (z := mag y - mag x) (t := y) (Nat.sub_le _ _) hy
    rw [n2]
    refine ⟨n1, fun h => Int.ofNat_le.2 (mag_rd_ge (by omega)), fun h => ?_⟩
    obtain ⟨u, hu⟩ := diff_rung c (Nat.le_of_lt h)
    rw [← hu, mag_rd_exact, hu]
    omega
  · have e : (mag y : Int) - (mag x : Int) = -((mag x - mag y : Nat) : Int) := by omega
    rw [e]
    obtain ⟨n1, n2⟩ := near_neg s (z := mag x - mag y) (t := x) (Nat.sub_le _ _) hx
    exact ⟨n1, fun h => by omega, fun h => by omega⟩
end Go.Proofs.Ytnegjfdaijnadaa
