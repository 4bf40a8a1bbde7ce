/- Plain facts for the laws on values: a number against its rounding; the product of two words of one sign; half of an even integer. Conditions: as each states. -/
import Derived.Test.YtnegjfdaijnadaaFrc
namespace Go.Proofs.Ytnegjfdaijnadaa
open Flt Ieee Go.RowKit

/-! ### products -/
theorem nearest_form (s : Bool) (m : Nat) (p : Int) : ∃ k, k ≤ INF ∧ double.nearest s m p = wd s k := by
  unfold Format.nearest
  by_cases h : m = 0
  · rw [if_pos h]; exact ⟨0, by unfold INF; omega, rfl⟩
  · rw [if_neg h]; exact ⟨_, Nat.min_le_right _ _, rfl⟩
theorem mul_form {a b : Nat} (ha : Fnt a) (hb : Fnt b) : ∃ k, k ≤ INF ∧ double.mul a b = some (wd (sg a ^^ sg b) k) := by
  obtain ⟨m, i, ra, -⟩ := read_fin ha
  obtain ⟨n, j, rb, -⟩ := read_fin hb
  obtain ⟨k, hk, e⟩ := nearest_form (sg a ^^ sg b) (m * n) (-1074 + (i : Int) + (-1074 + (j : Int)))
  refine ⟨k, hk, ?_⟩
  unfold Format.mul
  rw [ra, rb, ← e]
  rfl
theorem ord_pos {k : Nat} (h : k ≤ INF) : FloatKind.f64.format.order (wd false k) 0 = some .eq ∨ FloatKind.f64.format.order (wd false k) 0 = some .gt := by
  have hl := INF_lt
  have hk : k < 9223372036854775808 := by omega
  by_cases h0 : k = 0
  · subst h0; exact .inl (ord_zero (rg_wd false hk))
  by_cases hi : k = INF
  · subst hi; exact .inr (order_inf_zero false)
  · have hf : Fnt (wd false k) := by unfold Fnt; rw [rg_wd false hk]; omega
    refine .inr (ord_gt hf fin_zero ?_)
    rw [val_zero, val_wd false hk]
    have := @mag_eq_zero k
    simp only [Bool.false_eq_true, if_false]
    omega
/-- The product of two numbers of one sign is not negative. -/
theorem mul_same {a b : Nat} (ha : Fnt a) (hb : Fnt b) (h : sg a = sg b) : ∃ r, double.mul a b = some r ∧ (FloatKind.f64.format.order r 0 = some .eq ∨ FloatKind.f64.format.order r 0 = some .gt) := by
  obtain ⟨k, hk, e⟩ := mul_form ha hb
  rw [h, Bool.xor_self] at e
  exact ⟨_, e, ord_pos hk⟩

/-! ### exact sums -/
/-- A sum or difference whose exact value is a rung's. -/
theorem add_exact {a b t : Nat} (ha : Fnt a) (hb : Fnt b) (ht : mag t = (val a + val b).natAbs) (hi : t < INF) : ∃ g, double.add a b = some g ∧ Fnt g ∧ val g = val a + val b ∧ g < 2 ^ 64 ∧ (val a + val b = 0 → sg g = (sg a && sg b)) :=
  ⟨_, add_fin ha hb, (near_val _ ht hi).1, (near_val _ ht hi).2.1, near_lt _ _, fun h => by rw [sg_near, if_pos h]⟩
theorem sub_exact {a b t : Nat} (ha : Fnt a) (hb : Fnt b) (ht : mag t = (val a - val b).natAbs) (hi : t < INF) : ∃ g, double.sub a b = some g ∧ Fnt g ∧ val g = val a - val b ∧ g < 2 ^ 64 ∧ (val a - val b = 0 → sg g = (sg a && !sg b)) :=
  ⟨_, sub_fin ha hb, (near_val _ ht hi).1, (near_val _ ht hi).2.1, near_lt _ _, fun h => by rw [sg_near, if_pos h]⟩
theorem int_rung {k : Nat} (h : k ≤ 2 ^ 53) : ∃ t, mag t = k * U ∧ t < INF := by
  obtain ⟨r, hr⟩ := exists_rung' UE k h
  refine ⟨r, hr, ?_⟩
  rw [← mag_lt_iff, hr]
  have h2 : k * U ≤ 2 ^ 53 * U := Nat.mul_le_mul_right _ h
  exact Nat.lt_of_le_of_lt h2 big_lt_INF

/-- What is missing to the next integer, where it is at most a half. -/
theorem rest_rung (n : Nat) (h : U ≤ 2 * (mag n % U)) : ∃ t, mag t = U - mag n % U ∧ t < INF := by
  have hU := U_pos
  have key : ∃ t, mag t = U - mag n % U := by
    obtain ⟨m, k, e, hm, -, -⟩ := mag_form n
    rcases Nat.lt_or_ge k UE with c | c
    · have e1 := mod_scale m (UE - k) k
      rw [Nat.sub_add_cancel (Nat.le_of_lt c)] at e1
      have e2 : U = 2 ^ (UE - k) * 2 ^ k := by rw [← Nat.pow_add, Nat.sub_add_cancel (Nat.le_of_lt c)]; rfl
      have e3 : mag n % U = m % 2 ^ (UE - k) * 2 ^ k := by rw [e]; exact e1
      have hp := Nat.two_pow_pos k
      have h1 : 2 ^ (UE - k) ≤ 2 * (m % 2 ^ (UE - k)) := by
        rw [e3, e2, ← Nat.mul_assoc] at h
        exact Nat.le_of_mul_le_mul_right h hp
      have h2 := Nat.mod_le m (2 ^ (UE - k))
      obtain ⟨t, ht⟩ := exists_rung k (2 ^ (UE - k) - m % 2 ^ (UE - k)) (by omega)
      exact ⟨t, by rw [ht, Nat.sub_mul, ← e2, ← e3]⟩
    · rw [e, mag_mod_of_ge c] at h; omega
  obtain ⟨t, ht⟩ := key
  refine ⟨t, ht, ?_⟩
  rw [← mag_lt_iff, ht]
  have h2 := big_lt_INF
  have h3 : 1 * U ≤ 2 ^ 53 * U := Nat.mul_le_mul_right _ (by omega)
  omega

/-- A word against its rounding: the difference is exact. -/
theorem sub_round {b r k : Nat} (h : Fnt b) (hr : IsInt r (sg b) k) (hk : (k = mag (rg b) / U) ∨ (k = mag (rg b) / U + 1 ∧ U ≤ 2 * (mag (rg b) % U))) :
    ∃ g, double.sub r b = some g ∧ Fnt g ∧ g < 2 ^ 64 ∧ (mag (rg g) = mag (rg b) % U ∧ k = mag (rg b) / U ∨ mag (rg g) = U - mag (rg b) % U ∧ k = mag (rg b) / U + 1) := by
  have hq := qf (mag (rg b))
  have hm := Nat.mod_lt (mag (rg b)) U_pos
  have hv : (val r - val b).natAbs = (if k = mag (rg b) / U then mag (rg b) % U else U - mag (rg b) % U) := by
    rw [isInt_val hr, val_eq rfl]
    rcases hk with hk | ⟨hk, -⟩
    · rw [if_pos hk, hk]
      cases sg b
      · rw [if_neg Bool.false_ne_true, if_neg Bool.false_ne_true]; omega
      · rw [if_pos rfl, if_pos rfl]; omega
    · rw [if_neg (show ¬ k = mag (rg b) / U by omega), hk, succ_U]
      cases sg b
      · rw [if_neg Bool.false_ne_true, if_neg Bool.false_ne_true]; omega
      · rw [if_pos rfl, if_pos rfl]; omega
  have hex : ∃ t, mag t = (val r - val b).natAbs ∧ t < INF := by
    rcases hk with hk | ⟨hk, hu⟩
    · rw [hv, if_pos hk]; exact frac_rung (rg b)
    · rw [hv, if_neg (by omega)]; exact rest_rung (rg b) hu
  obtain ⟨t, ht, hi⟩ := hex
  obtain ⟨g, hg, h1, h2, h3, -⟩ := sub_exact hr.2.1 h ht hi
  refine ⟨g, hg, h1, h3, ?_⟩
  have hn := natAbs_val g
  rw [h2, hv] at hn
  rcases hk with hk | ⟨hk, -⟩
  · rw [if_pos hk] at hn; exact .inl ⟨hn.symm, hk⟩
  · rw [if_neg (by omega)] at hn; exact .inr ⟨hn.symm, hk⟩

/-! ### halves -/
theorem read_two : double.read 4611686018427387904 = .number false 4503599627370496 (-51) := rfl
/-- 'x / 2'. -/
theorem div_two_nearest {b m k : Nat} (hr : double.read b = .number (sg b) m (-1074 + (k : Nat))) (hm : m < 2 ^ 53) : double.div b 4611686018427387904 = some (double.nearest (sg b) m (-1074 + (k : Int) - 1)) := by
  unfold Format.div
  rw [hr, read_two]
  simp only [Datum.quotient]
  rw [if_neg (by omega)]
  have hl : (4503599627370496 : Nat).log2 = 52 := log2_between (by omega) (by omega)
  have hl2 : m.log2 ≤ 52 := by
    by_cases h0 : m = 0
    · subst h0; rw [Nat.log2_zero]; omega
    · have := (Nat.log2_lt h0).2 hm; omega
  rw [hl, show double.fractionBits + 2 + 52 = 106 from rfl, Nat.shiftLeft_eq]
  obtain ⟨q, hq⟩ : ∃ q, 106 - m.log2 = q + 52 := ⟨106 - m.log2 - 52, by omega⟩
  rw [hq]
  have e : m * 2 ^ (q + 52) = m * 2 ^ q * 4503599627370496 := by rw [Nat.pow_add, Nat.mul_assoc]
  rw [e, Nat.mul_div_cancel _ (by omega), Nat.mul_mod_left]
  simp only [Option.map_some, Format.write, Bool.xor_false, bne_self_eq_false, Bool.toNat_false, Nat.add_zero]
  have h1 := nearest_scale (sg b) m (-1074 + (k : Int) - 1) (q + 1)
  rw [← h1]
  have e2 : 2 * (m * 2 ^ q) = m * 2 ^ (q + 1) := by rw [Nat.pow_succ, Nat.mul_comm 2, Nat.mul_assoc]
  have e3 : -1074 + (k : Int) - -51 - ((q + 52 : Nat) : Int) - 1 = -1074 + (k : Int) - 1 - ((q + 1 : Nat) : Int) := by omega
  rw [e2, e3]
theorem div_two_even {b k : Nat} {s : Bool} (h : IsInt b s (2 * k)) : ∃ g, double.div b 4611686018427387904 = some g ∧ IsInt g s k := by
  obtain ⟨m, j, hr, hm, hm2, hj, hn⟩ := read_fin h.2.1
  refine ⟨_, div_two_nearest hr hm2, ?_⟩
  have h4 := h.2.2.2
  rw [hm] at h4
  -- the half is a rung's magnitude
  have key : ∃ t, mag t = k * U ∧ t < INF ∧ double.nearest (sg b) m (-1074 + (j : Int) - 1) = wd (sg b) (min (rd (k * U)) INF) := by
    rcases Nat.eq_zero_or_pos j with c | c
    · subst c
      rw [Nat.pow_zero, Nat.mul_one] at h4
      have hU := U_two
      have hz : k = 0 := by
        apply Classical.byContradiction
        intro hk
        have h1 : 1 * U ≤ k * U := Nat.mul_le_mul_right _ (by omega)
        have h2 : 2 ^ 53 ≤ U := by unfold U; exact Nat.pow_le_pow_right (by omega) (by rw [UE_eq]; omega)
        rw [Nat.mul_assoc] at h4
        omega
      subst hz
      rw [Nat.mul_zero, Nat.zero_mul] at h4
      subst h4
      refine ⟨0, by rw [mag_zero, Nat.zero_mul], by unfold INF; omega, ?_⟩
      rw [Nat.zero_mul, rd_zero]
      rfl
    · obtain ⟨i, rfl⟩ : ∃ i, j = i + 1 := ⟨j - 1, by omega⟩
      have e : m * 2 ^ i = k * U := by
        rw [Nat.pow_succ, Nat.mul_assoc 2] at h4
        have : 2 * (m * 2 ^ i) = 2 * (k * U) := by rw [← h4, Nat.mul_comm (2 ^ i) 2, ← Nat.mul_assoc m, Nat.mul_comm m 2, Nat.mul_assoc]
        omega
      obtain ⟨t, ht⟩ := exists_rung i m hm2
      refine ⟨t, by rw [ht, e], ?_, ?_⟩
      · have hf : rg b < INF := h.2.1
        rw [← mag_lt_iff] at hf ⊢
        have hp : 2 ^ i ≤ 2 ^ (i + 1) := Nat.pow_le_pow_right (by omega) (by omega)
        have := Nat.mul_le_mul_left m hp
        rw [ht]; omega
      · have hh := nearest_at (sg b) m i
        rw [show (-1074 : Int) + ((i + 1 : Nat) : Int) - 1 = -1074 + (i : Int) by omega, hh, wd_eq, e]
  obtain ⟨t, ht, hi, hnr⟩ := key
  have hl := INF_lt
  rw [hnr, ← ht, rd_mag, Nat.min_eq_left (by omega), h.2.2.1]
  exact ⟨wd_lt s (by omega), by unfold Fnt; rw [rg_wd s (by omega)]; exact hi, sg_wd s (by omega), by rw [rg_wd s (by omega)]; exact ht⟩
end Go.Proofs.Ytnegjfdaijnadaa
