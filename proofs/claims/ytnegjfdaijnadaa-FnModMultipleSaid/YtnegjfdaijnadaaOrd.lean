/- How finite words, zeros and infinities stand to each other, in the forms that a walk meets; 1 divided by a zero; integers to words and back. No condition. -/
import Derived.Test.YtnegjfdaijnadaaInt
import Derived.Laws.FloatArith
namespace Flt
open Ieee Go

theorem fin_zero : Fnt 0 := by unfold Fnt rg INF; omega
theorem val_zero : val 0 = 0 := val_eq_zero.2 (by unfold rg; rfl)
theorem cmp_lt {x y : Int} (h : x < y) : compare x y = .lt := by simp only [compare, compareOfLessAndEq]; rw [if_pos h]
theorem cmp_eq {x y : Int} (h : x = y) : compare x y = .eq := by simp only [compare, compareOfLessAndEq]; rw [if_neg (by omega), if_pos h]
theorem cmp_gt {x y : Int} (h : y < x) : compare x y = .gt := by simp only [compare, compareOfLessAndEq]; rw [if_neg (by omega), if_neg (by omega)]
theorem ord_lt {a b : Nat} (ha : Fnt a) (hb : Fnt b) (h : val a < val b) : FloatKind.f64.format.order a b = some .lt := by
  rw [← cmp_lt h]; exact order_fin ha hb
theorem ord_eq {a b : Nat} (ha : Fnt a) (hb : Fnt b) (h : val a = val b) : FloatKind.f64.format.order a b = some .eq := by
  rw [← cmp_eq h]; exact order_fin ha hb
theorem ord_gt {a b : Nat} (ha : Fnt a) (hb : Fnt b) (h : val b < val a) : FloatKind.f64.format.order a b = some .gt := by
  rw [← cmp_gt h]; exact order_fin ha hb
theorem ord_nan_left {a : Nat} (b : Nat) (h : NaN a) : FloatKind.f64.format.order a b = none := order_nan_left b h
theorem ord_nan_right (a : Nat) {b : Nat} (h : NaN b) : FloatKind.f64.format.order a b = none := order_nan_right a h
theorem ord_inf_fin {a b : Nat} (ha : Inf a) (hb : Fnt b) : FloatKind.f64.format.order a b = some (if sg a then .lt else .gt) := order_inf_fin ha hb
theorem ord_fin_inf {a b : Nat} (ha : Fnt a) (hb : Inf b) : FloatKind.f64.format.order a b = some (if sg b then .gt else .lt) := order_fin_inf ha hb
theorem ord_inf_inf {a b : Nat} (ha : Inf a) (hb : Inf b) : FloatKind.f64.format.order a b = some (compare (sg b).toNat (sg a).toNat) := order_inf_inf ha hb
theorem ord_self {a : Nat} (h : ¬ NaN a) : FloatKind.f64.format.order a a = some .eq := by
  rcases kinds a with h1 | h1 | h1
  · exact ord_eq h1 h1 rfl
  · rw [ord_inf_inf h1 h1]; cases sg a <;> rfl
  · exact absurd h1 h

theorem inf_wd (s : Bool) : Inf (wd s INF) := rg_wd s INF_lt
theorem sg_inf (s : Bool) : sg (wd s INF) = s := sg_wd s INF_lt
def ONE : Nat := 4607182418800017408
theorem fin_one : Fnt 4607182418800017408 := by unfold Fnt rg INF; omega
theorem sg_one : sg 4607182418800017408 = false := rfl
theorem mag_one : mag (rg 4607182418800017408) = U := by
  have h : rg 4607182418800017408 = (1022 + 1) * 2 ^ 52 := by unfold rg; omega
  rw [h]
  refine (mag_of0 1022).trans ?_
  have : ∀ e : Nat, UE = 52 + e → 2 ^ 52 * 2 ^ e = U := by
    intro e he
    unfold U; rw [he, Nat.pow_add]
  exact this 1022 (by rw [UE_eq])
theorem val_one : val 4607182418800017408 = (U : Int) := by unfold val; rw [sg_one, mag_one]; rfl

/-- '1 / x' at a zero. -/
theorem div_one_zero {b : Nat} (h : rg b = 0) : double.div 4607182418800017408 b = some (wd (sg b) INF) := by
  have e : double.read b = .number (sg b) 0 (-1074) := by
    rw [read_eq, h]; rfl
  unfold Format.div
  rw [e]
  cases sg b <;> rfl
theorem order_inf_zero (s : Bool) : FloatKind.f64.format.order (wd s INF) 0 = some (if s then .lt else .gt) := by
  rw [ord_inf_fin (inf_wd s) fin_zero, sg_inf]

/-! ### integers to words and back -/
theorem nearest_int (n : Int) : floatOfInt .f64 n = wd (decide (n < 0)) (min (rd (n.natAbs * U)) INF) := by
  have h := nearest_at (decide (n < 0)) n.natAbs UE
  rw [show (-1074 : Int) + (UE : Nat) = 0 by rw [UE_eq]; rfl, wd_eq] at h
  exact h
theorem ofInt_int {n : Int} (h : n.natAbs ≤ 2 ^ 53) : IsInt (floatOfInt .f64 n) (decide (n < 0)) n.natAbs := by
  rw [nearest_int]; exact near_int _ h

theorem toInt_fin {b : Nat} (hb : Fnt b) : (FloatKind.f64.decode b).toInt .zero = some (if sg b then -((mag (rg b) / U : Nat) : Int) else ((mag (rg b) / U : Nat) : Int)) := by
  obtain ⟨m, k, rb, vb, -, -, -⟩ := read_fin hb
  show (double.read b).toInt .zero = _
  rw [rb]
  simp only [Datum.toInt, Datum.integral, cut_zero]
  have key : m <<< (-1074 + (k : Int)).toNat / 2 ^ (-(-1074 + (k : Int))).toNat = mag (rg b) / U := by
    rw [vb, Nat.shiftLeft_eq]
    unfold U
    by_cases c : UE ≤ k
    · have c' : 1074 ≤ k := by rwa [UE_eq] at c
      rw [show (-1074 + (k : Int)).toNat = k - UE by rw [UE_eq]; omega, show (-(-1074 + (k : Int))).toNat = 0 by omega]
      have := div_scale (m * 2 ^ (k - UE)) 0 UE
      rw [← this, Nat.mul_assoc, ← Nat.pow_add, Nat.sub_add_cancel c, Nat.zero_add]
    · have c' : ¬ 1074 ≤ k := by rwa [UE_eq] at c
      rw [show (-1074 + (k : Int)).toNat = 0 by omega, show (-(-1074 + (k : Int))).toNat = UE - k by rw [UE_eq]; omega]
      have := div_scale m (UE - k) k
      rw [show UE - k + k = UE by omega] at this
      rw [this, Nat.pow_zero, Nat.mul_one]
  rw [key, signed_eq]
  simp

theorem toI64 {b : Nat} (hb : Fnt b) (h : mag (rg b) / U < 2 ^ 63) : floatToIntVal .f64 b .i64 = some (if sg b then -((mag (rg b) / U : Nat) : Int) else ((mag (rg b) / U : Nat) : Int)) := by
  unfold floatToIntVal
  rw [toInt_fin hb]
  simp only
  rw [if_pos]
  have e1 : IntKind.i64.min = -9223372036854775808 := rfl
  have e2 : IntKind.i64.max = 9223372036854775807 := rfl
  rw [e1, e2]
  generalize mag (rg b) / U = q at h ⊢
  split <;> omega
theorem toU64 {b : Nat} (hb : Fnt b) (hs : sg b = false) (h : mag (rg b) / U < 2 ^ 64) : floatToIntVal .f64 b .u64 = some ((mag (rg b) / U : Nat) : Int) := by
  unfold floatToIntVal
  rw [toInt_fin hb, hs]
  simp only [Bool.false_eq_true, if_false]
  rw [if_pos]
  have e1 : IntKind.u64.min = 0 := rfl
  have e2 : IntKind.u64.max = 18446744073709551615 := rfl
  rw [e1, e2]
  generalize mag (rg b) / U = q at h ⊢
  omega
end Flt
