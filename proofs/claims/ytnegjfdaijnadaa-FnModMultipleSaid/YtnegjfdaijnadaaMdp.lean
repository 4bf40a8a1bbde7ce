/- Plain facts for Mod: one step of its loop, on magnitudes. Conditions: as each states. -/
import Derived.Test.YtnegjfdaijnadaaLdx
namespace Go.Proofs.Ytnegjfdaijnadaa
open Flt Ieee Go.RowKit

/-- The difference of two magnitudes of which one is at most twice the other is a magnitude. -/
theorem diff_rung {r t : Nat} (h1 : mag t ≤ mag r) (h2 : mag r ≤ 2 * mag t) : ∃ u, mag u = mag r - mag t := by
  obtain ⟨m, i, hm, hm53, -, -⟩ := mag_form r
  obtain ⟨n, j, hn, hn53, -, -⟩ := mag_form t
  rcases Nat.le_total i j with c | c
  · -- the grid of r is the finer one
    have e : mag t = n * 2 ^ (j - i) * 2 ^ i := by rw [hn, Nat.mul_assoc, ← Nat.pow_add, Nat.sub_add_cancel c]
    have e2 : mag r - mag t = (m - n * 2 ^ (j - i)) * 2 ^ i := by rw [hm, e, Nat.sub_mul]
    obtain ⟨u, hu⟩ := exists_rung i (m - n * 2 ^ (j - i)) (Nat.lt_of_le_of_lt (Nat.sub_le _ _) hm53)
    exact ⟨u, by rw [hu, e2]⟩
  · have e : mag r = m * 2 ^ (i - j) * 2 ^ j := by rw [hm, Nat.mul_assoc, ← Nat.pow_add, Nat.sub_add_cancel c]
    have e2 : mag r - mag t = (m * 2 ^ (i - j) - n) * 2 ^ j := by rw [hn, e, Nat.sub_mul]
    have hle : m * 2 ^ (i - j) - n ≤ n := by
      have : (m * 2 ^ (i - j) - n) * 2 ^ j ≤ n * 2 ^ j := by
        rw [← e2, ← hn]
        generalize mag r = A at h1 h2
        generalize mag t = B at h1 h2
        omega
      exact Nat.le_of_mul_le_mul_right this (Nat.two_pow_pos j)
    obtain ⟨u, hu⟩ := exists_rung j (m * 2 ^ (i - j) - n) (Nat.lt_of_le_of_lt hle hn53)
    exact ⟨u, by rw [hu, e2]⟩
theorem scale_rung (y j : Nat) : ∃ t, mag t = mag y * 2 ^ j := by
  obtain ⟨m, k, hm, hm53, -, -⟩ := mag_form y
  obtain ⟨t, ht⟩ := exists_rung (k + j) m hm53
  exact ⟨t, by rw [ht, hm, Nat.pow_add, Nat.mul_assoc]⟩

/-- The power of two of one step. -/
theorem step_pow {M N e f : Nat} (m1 : 2 ^ 52 ≤ M) (m2 : M < 2 ^ 53) (n1 : 2 ^ 52 ≤ N) (n2 : N < 2 ^ 53) (h : N * 2 ^ f ≤ M * 2 ^ e) :
    ∃ j : Nat, f + j + (if M < N then 1 else 0) = e ∧ N * 2 ^ f * 2 ^ j ≤ M * 2 ^ e ∧ M * 2 ^ e ≤ 2 * (N * 2 ^ f * 2 ^ j) := by
  by_cases c : M < N
  · rw [if_pos c]
    have he : f + 1 ≤ e := by
      rcases Nat.lt_or_ge f e with k | k
      · omega
      · exfalso
        have h1 : M * 2 ^ e ≤ M * 2 ^ f := Nat.mul_le_mul_left _ (Nat.pow_le_pow_right (by omega) k)
        have h2 : M * 2 ^ f < N * 2 ^ f := (Nat.mul_lt_mul_right (Nat.two_pow_pos f)).2 c
        exact absurd h (Nat.not_le_of_lt (Nat.lt_of_le_of_lt h1 h2))
    refine ⟨e - f - 1, by omega, ?_, ?_⟩
    · rw [Nat.mul_assoc, ← Nat.pow_add, show f + (e - f - 1) = e - 1 by omega]
      obtain ⟨g, rfl⟩ : ∃ g, e = g + 1 := ⟨e - 1, by omega⟩
      rw [Nat.add_sub_cancel, Nat.pow_succ, Nat.mul_comm (2 ^ g) 2, ← Nat.mul_assoc]
      exact Nat.mul_le_mul_right _ (by omega)
    · rw [Nat.mul_assoc N, ← Nat.pow_add, show f + (e - f - 1) = e - 1 by omega]
      obtain ⟨g, rfl⟩ : ∃ g, e = g + 1 := ⟨e - 1, by omega⟩
      rw [Nat.add_sub_cancel, Nat.pow_succ, Nat.mul_comm (2 ^ g) 2, ← Nat.mul_assoc, ← Nat.mul_assoc]
      exact Nat.mul_le_mul_right _ (by omega)
  · rw [if_neg c]
    have he : f ≤ e := by
      rcases Nat.lt_or_ge e f with k | k
      · exfalso
        have h1 : M * 2 ^ e < 2 ^ 53 * 2 ^ e := (Nat.mul_lt_mul_right (Nat.two_pow_pos e)).2 m2
        have h2 : 2 ^ 52 * 2 ^ (e + 1) ≤ N * 2 ^ f := Nat.mul_le_mul n1 (Nat.pow_le_pow_right (by omega) k)
        have e' : 2 ^ (e + 1) = 2 * 2 ^ e := by rw [Nat.pow_succ]; omega
        rw [e', ← Nat.mul_assoc] at h2
        have h3 : 2 ^ 53 * 2 ^ e ≤ N * 2 ^ f := h2
        exact absurd h (Nat.not_le_of_lt (Nat.lt_of_lt_of_le h1 h3))
      · exact k
    refine ⟨e - f, by omega, ?_, ?_⟩
    · rw [Nat.mul_assoc, ← Nat.pow_add, Nat.add_sub_cancel' he]
      exact Nat.mul_le_mul_right _ (by omega)
    · rw [Nat.mul_assoc N, ← Nat.pow_add, Nat.add_sub_cancel' he, ← Nat.mul_assoc]
      exact Nat.mul_le_mul_right _ (by omega)

/-- One step of the loop, on rungs. -/
theorem mod_step {r y N f : Nat} (hy : y ≠ 0) (hr : r < INF) (h : mag y ≤ mag r) (n1 : 2 ^ 52 ≤ N) (n2 : N < 2 ^ 53) (n3 : mag y * 2 ^ 52 = N * 2 ^ f) :
    ∃ M e j t u, r ≠ 0 ∧ 2 ^ 52 ≤ M ∧ M < 2 ^ 53 ∧ mag r * 2 ^ 52 = M * 2 ^ e ∧ f + j + (if M < N then 1 else 0) = e ∧ e ≤ 2097 ∧ mag t = mag y * 2 ^ j ∧ t < INF ∧ mag u = mag r - mag t ∧ mag t ≤ mag r ∧ u < r ∧ mag u % mag y = mag r % mag y := by
  have hr0 : r ≠ 0 := by
    intro e0
    rw [e0, mag_zero] at h
    exact hy (mag_eq_zero.1 (Nat.le_zero.1 h))
  obtain ⟨M, e, m1, m2, m3, m4⟩ := norm_form hr0
  have h52 : N * 2 ^ f ≤ M * 2 ^ e := by rw [← n3, ← m3]; exact Nat.mul_le_mul_right _ h
  obtain ⟨j, hj, hj1, hj2⟩ := step_pow m1 m2 n1 n2 h52
  obtain ⟨t, ht⟩ := scale_rung y j
  have htr : mag t ≤ mag r := by
    have : mag y * 2 ^ j * 2 ^ 52 ≤ mag r * 2 ^ 52 := by rw [Nat.mul_right_comm, n3, m3]; exact hj1
    rw [ht]; exact Nat.le_of_mul_le_mul_right this (Nat.two_pow_pos 52)
  have htr2 : mag r ≤ 2 * mag t := by
    have : mag r * 2 ^ 52 ≤ 2 * (mag y * 2 ^ j) * 2 ^ 52 := by rw [Nat.mul_assoc 2, Nat.mul_right_comm, n3, m3]; exact hj2
    rw [ht]; exact Nat.le_of_mul_le_mul_right this (Nat.two_pow_pos 52)
  obtain ⟨u, hu⟩ := diff_rung htr htr2
  have hti : t < INF := Nat.lt_of_le_of_lt (mag_le_iff.1 htr) hr
  have htp : 0 < mag t := by
    rw [ht]
    have h1 : mag y ≠ 0 := fun q => hy (mag_eq_zero.1 q)
    exact Nat.mul_pos (Nat.pos_of_ne_zero h1) (Nat.two_pow_pos j)
  refine ⟨M, e, j, t, u, hr0, m1, m2, m3, hj, m4 hr, ht, hti, hu, htr, ?_, ?_⟩
  · rw [← mag_lt_iff, hu]; exact Nat.sub_lt (Nat.lt_of_lt_of_le htp htr) htp
  · rw [hu, ht]
    exact Nat.sub_mul_mod (by rw [← ht]; exact htr)
theorem mod_rung (x y : Nat) (hx : x < INF) (hy : y ≠ 0) : ∃ r, mag r = mag x % mag y ∧ r < INF ∧ r ≤ x := by
  induction x using Nat.strongRecOn with
  | ind x ih =>
    rcases Nat.lt_or_ge (mag x) (mag y) with c | c
    · exact ⟨x, (Nat.mod_eq_of_lt c).symm, hx, Nat.le_refl _⟩
    · obtain ⟨N, f, n1, n2, n3, -⟩ := norm_form hy
      obtain ⟨M, e, j, t, u, -, -, -, -, -, -, -, -, -, -, hu, hm⟩ := mod_step hy hx c n1 n2 n3
      obtain ⟨r, h1, h2, h3⟩ := ih u hu (Nat.lt_trans hu hx)
      exact ⟨r, by rw [h1, hm], h2, by omega⟩
/-- What Mod gives. -/
def modW (x y : Nat) : Nat := wd (sg x) (rd (mag (rg x) % mag (rg y)))
theorem modW_eq {x y r : Nat} (h : mag r = mag (rg x) % mag (rg y)) : modW x y = wd (sg x) r := by
  unfold modW; rw [← h, rd_mag]
theorem modW_spec {x y : Nat} (hx : Fnt x) (hy : rg y ≠ 0) : Fnt (modW x y) ∧ sg (modW x y) = sg x ∧ mag (rg (modW x y)) = mag (rg x) % mag (rg y) ∧ modW x y < 2 ^ 64 := by
  obtain ⟨r, h1, h2, -⟩ := mod_rung (rg x) (rg y) hx hy
  have hl := INF_lt
  have hr : r < 9223372036854775808 := Nat.lt_trans h2 hl
  rw [modW_eq h1]
  exact ⟨by unfold Fnt; rw [rg_wd _ hr]; exact h2, sg_wd _ hr, by rw [rg_wd _ hr]; exact h1, wd_lt _ hr⟩

/-- Fractions of Frexp against each other. -/
def W53 : Nat := 2 ^ (UE - 53)
theorem W53_pos : 0 < W53 := Nat.two_pow_pos _
theorem fr_mag {M q : Nat} (m1 : 2 ^ 52 ≤ M) (m2 : M < 2 ^ 53) (hq : UE - 53 = q) : mag ((q + 1) * 2 ^ 52 + (M - 2 ^ 52)) = M * W53 := by
  rw [mag_norm m1 m2]; unfold W53; rw [hq]
theorem frW_spec {M : Nat} (m1 : 2 ^ 52 ≤ M) (m2 : M < 2 ^ 53) : Fnt (frW false M) ∧ val (frW false M) = ((M * W53 : Nat) : Int) := by
  unfold frW
  have hr : 1022 * 2 ^ 52 + (M - 2 ^ 52) < 9223372036854775808 := by omega
  have h := fr_mag (q := 1021) m1 m2 (by rw [UE_eq])
  refine ⟨by unfold Fnt INF; rw [rg_wd _ hr]; omega, ?_⟩
  rw [val_wd _ hr, if_neg Bool.false_ne_true]
  exact congrArg _ h
theorem ord_fr_lt {M N : Nat} (m1 : 2 ^ 52 ≤ M) (m2 : M < 2 ^ 53) (n1 : 2 ^ 52 ≤ N) (n2 : N < 2 ^ 53) (h : M < N) : FloatKind.f64.format.order (frW false M) (frW false N) = some .lt := by
  refine ord_lt (frW_spec m1 m2).1 (frW_spec n1 n2).1 ?_
  rw [(frW_spec m1 m2).2, (frW_spec n1 n2).2]
  exact Int.ofNat_lt.2 ((Nat.mul_lt_mul_right W53_pos).2 h)
theorem ord_fr_ge {M N : Nat} (m1 : 2 ^ 52 ≤ M) (m2 : M < 2 ^ 53) (n1 : 2 ^ 52 ≤ N) (n2 : N < 2 ^ 53) (h : ¬ M < N) : FloatKind.f64.format.order (frW false M) (frW false N) = some .eq ∨ FloatKind.f64.format.order (frW false M) (frW false N) = some .gt := by
  by_cases e : M = N
  · subst e; exact .inl (ord_self (fin_nan (frW_spec m1 m2).1))
  · refine .inr (ord_gt (frW_spec m1 m2).1 (frW_spec n1 n2).1 ?_)
    rw [(frW_spec m1 m2).2, (frW_spec n1 n2).2]
    exact Int.ofNat_lt.2 ((Nat.mul_lt_mul_right W53_pos).2 (by omega))
/-- The difference of two words that are not negative. -/
theorem sub_words {r t u : Nat} (hr : r < INF) (ht : t < INF) (hu : mag u = mag r - mag t) (hle : mag t ≤ mag r) (hui : u < INF) : double.sub (wd false r) (wd false t) = some (wd false u) := by
  have hl := INF_lt
  have h1 : r < 9223372036854775808 := Nat.lt_trans hr hl
  have h2 : t < 9223372036854775808 := Nat.lt_trans ht hl
  have f1 : Fnt (wd false r) := by unfold Fnt; rw [rg_wd _ h1]; exact hr
  have f2 : Fnt (wd false t) := by unfold Fnt; rw [rg_wd _ h2]; exact ht
  have hz : val (wd false r) - val (wd false t) = ((mag u : Nat) : Int) := by
    rw [val_wd _ h1, val_wd _ h2, if_neg Bool.false_ne_true, if_neg Bool.false_ne_true, hu]
    exact (Int.ofNat_sub hle).symm
  rw [sub_fin f1 f2, hz, sg_wd _ h1, near_exact _ (r := u) (Int.natAbs_natCast _).symm hui]
  congr 2
  by_cases e : ((mag u : Nat) : Int) = 0
  · rw [if_pos e]; rfl
  · rw [if_neg e]; exact decide_eq_false (by omega)
end Go.Proofs.Ytnegjfdaijnadaa
