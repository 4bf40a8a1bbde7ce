/- Plain facts for sums with an integer: rounding on a grid; Floor and Ceil as divisions of integers. Conditions: as each states. -/
import Derived.Test.YtaabgcncacdnoaaRnk
namespace Go.Proofs.Ytaabgcncacdnoaa
open Flt Ieee Go.RowKit

/-- Rounding of a number of more than 53 digits: a multiple of the grid, at most half of it away. -/
theorem rd_grid {N : Nat} (h : 53 ≤ N.log2) : mag (rd N) = hEven N (N.log2 - 52) * 2 ^ (N.log2 - 52) ∧ hEven N (N.log2 - 52) ≤ 2 ^ 53 ∧ 2 * (hEven N (N.log2 - 52) * 2 ^ (N.log2 - 52)) ≤ 2 * N + 2 ^ (N.log2 - 52) ∧ 2 * N ≤ 2 * (hEven N (N.log2 - 52) * 2 ^ (N.log2 - 52)) + 2 ^ (N.log2 - 52) := by
  have hN : N ≠ 0 := by
    intro e; subst e; rw [Nat.log2_zero] at h; omega
  have h1 := Nat.log2_self_le hN
  have h2 := lt_pow_log2 N
  obtain ⟨p, hp⟩ : ∃ p, N.log2 = 52 + p := ⟨N.log2 - 52, by omega⟩
  have e1 : N.log2 - 52 = p := by omega
  rw [e1]
  rw [hp] at h1 h2
  have hpp : 0 < 2 ^ p := Nat.two_pow_pos p
  have q1 : 2 ^ 52 ≤ N / 2 ^ p := by rw [Nat.le_div_iff_mul_le hpp, ← Nat.pow_add]; exact h1
  have q2 : N / 2 ^ p < 2 ^ 53 := by rw [Nat.div_lt_iff_lt_mul hpp, ← Nat.pow_add, show 53 + p = 52 + p + 1 by omega]; exact h2
  have hd := Nat.div_add_mod N (2 ^ p)
  have hm : N % 2 ^ p < 2 ^ p := Nat.mod_lt _ hpp
  have ed : rd N = p * 2 ^ 52 + hEven N p := by
    unfold rd; rw [if_neg hN, e1]
  have k1 : N / 2 ^ p ≤ hEven N p := by unfold hEven; omega
  have k2 : hEven N p ≤ N / 2 ^ p + 1 := by unfold hEven; split <;> omega
  have hmag : mag (rd N) = hEven N p * 2 ^ p := by
    rw [ed]
    generalize hEven N p = M at k1 k2 ⊢
    by_cases c : M < 2 ^ 53
    · rw [show p * 2 ^ 52 + M = (p + 1) * 2 ^ 52 + (M - 2 ^ 52) by omega, mag_of _ _ (by omega), show 2 ^ 52 + (M - 2 ^ 52) = M by omega]
    · have : M = 2 ^ 53 := by omega
      rw [show p * 2 ^ 52 + M = (p + 1 + 1) * 2 ^ 52 by omega, mag_of0, this, show 2 ^ (p + 1) = 2 * 2 ^ p by (rw [Nat.pow_succ]; omega), ← Nat.mul_assoc]
  refine ⟨hmag, by omega, ?_, ?_⟩
  · unfold hEven
    rw [Nat.add_mul, Nat.mul_comm (N / 2 ^ p)]
    split
    · rename_i c; omega
    · omega
  · unfold hEven
    rw [Nat.add_mul, Nat.mul_comm (N / 2 ^ p)]
    split
    · omega
    · rename_i c; omega

theorem small_rung {N : Nat} (h : N.log2 < 53) : ∃ t, mag t = N := by
  by_cases h0 : N = 0
  · exact ⟨0, by rw [h0, mag_zero]⟩
  · obtain ⟨t, ht⟩ := exists_rung 0 N ((Nat.log2_lt h0).1 h)
    exact ⟨t, by rw [ht, Nat.pow_zero, Nat.mul_one]⟩

/-- A multiple of the grid, as an integer. -/
theorem grid_abs {A : Int} {p : Nat} : (A * ((2 ^ p : Nat) : Int)).natAbs = A.natAbs * 2 ^ p := by rw [Int.natAbs_mul, Int.natAbs_natCast]
theorem bound_A {A x P : Nat} (hx : x < 2 ^ 52 * P) (h : 2 * (A * P) ≤ 2 * x + P) : A ≤ 2 ^ 52 := by
  apply Classical.byContradiction
  intro c
  have : (2 ^ 52 + 1) * P ≤ A * P := Nat.mul_le_mul_right _ (by omega)
  rw [Nat.add_mul, Nat.one_mul] at this
  omega

/-- The sum of a word and an integer, taken back by the integer, is a rung's value. -/
theorem back_rung {x : Nat} {n : Int} (hx : Fnt x) (hn : n.natAbs ≤ 2 ^ 52) (hm : mag (rg x) < 2 ^ 52 * U) :
    ∃ t s, mag t = (s - n * (U : Int)).natAbs ∧ t < INF ∧ mag (rd (val x + n * (U : Int)).natAbs) = s.natAbs ∧ (s = 0 ∨ (s < 0 ↔ val x + n * (U : Int) < 0)) := by
  generalize hz : val x + n * (U : Int) = z
  by_cases hrep : ∃ t, mag t = z.natAbs
  · obtain ⟨t, ht⟩ := hrep
    refine ⟨rg x, z, ?_, hx, ?_, .inr Iff.rfl⟩
    · rw [← natAbs_val, ← hz]; congr 1; omega
    · rw [← ht, rd_mag, ht]
  · have hlog : 53 ≤ z.natAbs.log2 := by
      rcases Nat.lt_or_ge z.natAbs.log2 53 with c | c
      · exact absurd (small_rung c) hrep
      · exact c
    obtain ⟨g1, g2, g3, g4⟩ := rd_grid hlog
    obtain ⟨p, hp⟩ : ∃ p, z.natAbs.log2 - 52 = p := ⟨_, rfl⟩
    rw [hp] at g1 g2 g3 g4
    generalize hEven z.natAbs p = H at g1 g2 g3 g4
    have hN0 : z.natAbs ≠ 0 := by intro e; rw [e, Nat.log2_zero] at hlog; omega
    have hU := U_pos
    have hzb : z.natAbs < 2 ^ 53 * U := by
      have h1 : (n * (U : Int)).natAbs ≤ 2 ^ 52 * U := by rw [Int.natAbs_mul, Int.natAbs_natCast]; exact Nat.mul_le_mul_right _ hn
      have h2 := natAbs_val x
      omega
    have hpU : p ≤ UE := by
      have h1 : z.natAbs < 2 ^ (53 + UE) := by rw [Nat.pow_add]; exact hzb
      have h2 : z.natAbs.log2 < 53 + UE := (Nat.log2_lt hN0).2 h1
      omega
    have hUp : U = 2 ^ (UE - p) * 2 ^ p := by rw [← Nat.pow_add, Nat.sub_add_cancel hpU]; rfl
    have hpp : 0 < 2 ^ p := Nat.two_pow_pos p
    -- x is less than 2 ^ 52 grids
    have hxb : mag (rg x) < 2 ^ 52 * 2 ^ p := by
      obtain ⟨m, q, hmq, hm53, -, -⟩ := mag_form (rg x)
      rcases Nat.lt_or_ge q p with c | c
      · have h1 : 2 ^ (q + 1) ≤ 2 ^ p := Nat.pow_le_pow_right (by omega) (by omega)
        have h2 : m * 2 ^ q < 2 ^ 53 * 2 ^ q := (Nat.mul_lt_mul_right (Nat.two_pow_pos q)).2 hm53
        rw [Nat.pow_succ] at h1
        rw [hmq]; omega
      · exfalso
        have hdv : ∃ c : Int, z = c * ((2 ^ p : Nat) : Int) := by
          have e1 : mag (rg x) = m * 2 ^ (q - p) * 2 ^ p := by rw [hmq, Nat.mul_assoc, ← Nat.pow_add, Nat.sub_add_cancel c]
          have e2 : ∃ d : Int, val x = d * ((2 ^ p : Nat) : Int) := by
            rw [val_eq (b := x) rfl, e1]
            cases sg x
            · exact ⟨((m * 2 ^ (q - p) : Nat) : Int), by rw [if_neg Bool.false_ne_true, Int.natCast_mul]⟩
            · exact ⟨-((m * 2 ^ (q - p) : Nat) : Int), by rw [if_pos rfl, Int.natCast_mul, Int.neg_mul]⟩
          obtain ⟨d, hd⟩ := e2
          exact ⟨d + n * ((2 ^ (UE - p) : Nat) : Int), by rw [← hz, hd, hUp, Int.natCast_mul, Int.add_mul, Int.mul_assoc]⟩
        obtain ⟨c', hc'⟩ := hdv
        have e3 : z.natAbs = c'.natAbs * 2 ^ p := by rw [hc', grid_abs]
        have h53 : c'.natAbs < 2 ^ 53 := by
          have := lt_pow_log2 z.natAbs
          have e4 : z.natAbs.log2 + 1 = 53 + p := by omega
          rw [e4, Nat.pow_add, e3] at this
          exact Nat.lt_of_mul_lt_mul_right this
        obtain ⟨t, ht⟩ := exists_rung p c'.natAbs h53
        exact hrep ⟨t, by rw [ht, e3]⟩
    -- the sum, as a multiple of the grid
    let S : Int := if z < 0 then -(H : Int) else (H : Int)
    have hS : S = if z < 0 then -(H : Int) else (H : Int) := rfl
    have hSa : (S * ((2 ^ p : Nat) : Int)).natAbs = H * 2 ^ p := by
      rw [grid_abs, hS]; split
      · rw [Int.natAbs_neg, Int.natAbs_natCast]
      · rw [Int.natAbs_natCast]
    have hdiff : S * ((2 ^ p : Nat) : Int) - n * (U : Int) = (S - n * ((2 ^ (UE - p) : Nat) : Int)) * ((2 ^ p : Nat) : Int) := by
      rw [hUp, Int.natCast_mul, Int.sub_mul, Int.mul_assoc]
    have hclose : 2 * ((S * ((2 ^ p : Nat) : Int) - n * (U : Int)).natAbs) ≤ 2 * mag (rg x) + 2 ^ p := by
      have hx2 := natAbs_val x
      have e5 : S * ((2 ^ p : Nat) : Int) = if z < 0 then -((H * 2 ^ p : Nat) : Int) else ((H * 2 ^ p : Nat) : Int) := by
        rw [hS, Int.natCast_mul]; split
        · rw [Int.neg_mul]
        · rfl
      rw [e5]
      generalize H * 2 ^ p = B at g3 g4
      generalize 2 ^ p = P at g3 g4
      generalize n * (U : Int) = V at hz
      generalize mag (rg x) = mx at hx2
      split <;> omega
    rw [hdiff, grid_abs] at hclose
    have hA := bound_A hxb hclose
    obtain ⟨t, ht⟩ := exists_rung' p (S - n * ((2 ^ (UE - p) : Nat) : Int)).natAbs (by omega)
    refine ⟨t, S * ((2 ^ p : Nat) : Int), by rw [hdiff, grid_abs]; exact ht, ?_, by rw [hSa]; exact g1, ?_⟩
    · rw [← mag_lt_iff, ht]
      have h1 : (S - n * ((2 ^ (UE - p) : Nat) : Int)).natAbs * 2 ^ p ≤ 2 ^ 53 * U := by
        rw [show U = 2 ^ UE from rfl]
        exact Nat.mul_le_mul (by omega) (Nat.pow_le_pow_right (by omega) hpU)
      exact Nat.lt_of_le_of_lt h1 big_lt_INF
    · have e5 : S * ((2 ^ p : Nat) : Int) = if z < 0 then -((H * 2 ^ p : Nat) : Int) else ((H * 2 ^ p : Nat) : Int) := by
        rw [hS, Int.natCast_mul]; split
        · rw [Int.neg_mul]
        · rfl
      rw [e5]
      generalize H * 2 ^ p = B
      by_cases c : z < 0
      · rw [if_pos c]
        by_cases hB : B = 0
        · left; omega
        · right; omega
      · rw [if_neg c]
        right; omega

theorem ofInt_mul {n : Int} (h : n.natAbs ≤ 2 ^ 53) : val (floatOfInt .f64 n) = n * (U : Int) := by
  rw [isInt_val (ofInt_int h), Int.natCast_mul, ← Int.neg_mul]
  by_cases c : n < 0
  · rw [if_pos (decide_eq_true c), show -((n.natAbs : Nat) : Int) = n by omega]
  · rw [if_neg (by rw [decide_eq_false c]; exact Bool.false_ne_true), show ((n.natAbs : Nat) : Int) = n by omega]

theorem shift_exact {x : Nat} {n : Int} (hx : Fnt x) (hn : n.natAbs ≤ 2 ^ 52) (hm : mag (rg x) < 2 ^ 52 * U) :
    ∃ y d, double.add x (floatOfInt .f64 n) = some y ∧ Fnt y ∧ y < 2 ^ 64 ∧ double.sub y (floatOfInt .f64 n) = some d ∧ Fnt d ∧ val d = val y - n * (U : Int) := by
  have hk := ofInt_int (n := n) (by omega)
  have hkv := ofInt_mul (n := n) (by omega)
  obtain ⟨t, s, h1, h2, h3, h4⟩ := back_rung hx hn hm
  have hzb : (val x + n * (U : Int)).natAbs ≤ 2 ^ 53 * U := by
    have k1 : (n * (U : Int)).natAbs ≤ 2 ^ 52 * U := by rw [Int.natAbs_mul, Int.natAbs_natCast]; exact Nat.mul_le_mul_right _ hn
    have k2 := natAbs_val x
    omega
  have hrd : rd (val x + n * (U : Int)).natAbs < INF := by
    obtain ⟨u, hu, hui⟩ := int_rung (k := 2 ^ 53) (by omega)
    have := rd_le (n := (val x + n * (U : Int)).natAbs) (r := u) (by rw [hu]; exact hzb)
    omega
  have hadd := add_fin hx hk.2.1
  rw [hkv] at hadd
  generalize hb : (sg x && sg (floatOfInt .f64 n)) = b0 at hadd
  have hrg : rg (near b0 (val x + n * (U : Int))) = rd (val x + n * (U : Int)).natAbs := by rw [rg_near, Nat.min_eq_left (by omega)]
  have hf : Fnt (near b0 (val x + n * (U : Int))) := by unfold Fnt; rw [hrg]; exact hrd
  have hv : val (near b0 (val x + n * (U : Int))) = s := by
    rw [val_eq (b := near b0 (val x + n * (U : Int))) rfl, hrg, h3, sg_near]
    generalize val x + n * (U : Int) = z at h3 h4
    by_cases z0 : z = 0
    · have : s.natAbs = 0 := by rw [← h3, z0]; rw [Int.natAbs_zero, rd_zero, mag_zero]
      rw [if_pos z0, this]; cases b0 <;> simp <;> omega
    · rw [if_neg z0]
      by_cases c : z < 0
      · rw [if_pos (decide_eq_true c)]; omega
      · rw [if_neg (by rw [decide_eq_false c]; exact Bool.false_ne_true)]; omega
  obtain ⟨d, hd, hd1, hd2, -⟩ := sub_exact (t := t) hf hk.2.1 (by rw [hv, hkv]; exact h1) h2
  exact ⟨_, d, hadd, hf, near_lt _ _, hd, hd1, by rw [hd2, hkv]⟩

/-! ### Floor and Ceil as divisions -/
theorem ediv_of {v q V : Int} (hV : 0 < V) (h1 : q * V ≤ v) (h2 : v < q * V + V) : v / V = q := by
  have := (Int.ediv_emod_unique hV (a := v) (r := v - V * q) (q := q)).2 ⟨by omega, by rw [Int.mul_comm V q]; omega, by rw [Int.mul_comm V q]; omega⟩
  exact this.1
theorem U_posI : (0 : Int) < (U : Int) := Int.ofNat_lt.2 U_pos
theorem fl1 {m A F V : Nat} (h : m = A + F) (hm : F < V) : (A : Int) ≤ (m : Int) ∧ (m : Int) < (A : Int) + (V : Int) ∧ -(m : Int) ≤ -(A : Int) := by omega
theorem fl2 {m A B F V : Nat} (h : m = A + F) (c : F ≠ 0) (hm : F < V) (hB : B = A + V) : -(B : Int) ≤ -(m : Int) ∧ -(m : Int) < -(B : Int) + (V : Int) := by omega
theorem fl3 {m A F V : Nat} (h : m = A + F) (c : F = 0) (hV : 0 < V) : -(A : Int) ≤ -(m : Int) ∧ -(m : Int) < -(A : Int) + (V : Int) := by omega
theorem floor_val {x : Nat} (h : Fnt x) (h0 : x < 2 ^ 64) : val (intW .down x) = val x / (U : Int) * (U : Int) := by
  have hd := intW_int .down h h0
  rw [K_down] at hd
  have hq := qf (mag (rg x))
  have hm := Nat.mod_lt (mag (rg x)) U_pos
  have hvx := val_eq (b := x) rfl
  cases hs : sg x
  · rw [hs] at hd hvx
    rw [if_neg (fun k => Bool.false_ne_true k.1), Nat.add_zero] at hd
    rw [if_neg Bool.false_ne_true] at hvx
    have hv := isInt_val hd
    rw [if_neg Bool.false_ne_true, Int.natCast_mul] at hv
    have hl := fl1 hq hm
    rw [Int.natCast_mul] at hl
    rw [hv, hvx, ediv_of U_posI hl.1 hl.2.1]
  · rw [hs] at hd hvx
    rw [if_pos rfl] at hvx
    by_cases c : mag (rg x) % U = 0
    · rw [if_neg (fun k => k.2 c), Nat.add_zero] at hd
      have hv := isInt_val hd
      rw [if_pos rfl, Int.natCast_mul, ← Int.neg_mul] at hv
      have hl := fl3 hq c U_pos
      rw [Int.natCast_mul, ← Int.neg_mul] at hl
      rw [hv, hvx, ediv_of U_posI hl.1 hl.2]
    · rw [if_pos ⟨rfl, c⟩] at hd
      have hv := isInt_val hd
      rw [if_pos rfl, Int.natCast_mul, ← Int.neg_mul] at hv
      have hl := fl2 hq c hm (succ_U _)
      rw [Int.natCast_mul, ← Int.neg_mul] at hl
      rw [hv, hvx, ediv_of U_posI hl.1 hl.2]
theorem ceil_val {x : Nat} (h : Fnt x) (h0 : x < 2 ^ 64) : val (intW .up x) = -(-val x / (U : Int) * (U : Int)) := by
  have h1 := intW_int .down ((fin_negW h0).2 h) (negW_lt h0)
  have h2 := isInt_neg h1
  rw [K_down, sg_negW h0, rg_negW h0, Bool.not_not] at h2
  have h3 := intW_int .up h h0
  rw [K_up] at h3
  have e : (if (!sg x) = true ∧ mag (rg x) % U ≠ 0 then 1 else 0) = (if sg x = false ∧ mag (rg x) % U ≠ 0 then 1 else 0) := by
    cases sg x <;> simp
  rw [e] at h2
  have e2 := isInt_eq h3 h2
  rw [e2, val_negW h1.1, floor_val ((fin_negW h0).2 h) (negW_lt h0), val_negW h0]
theorem floor_shift {x y : Nat} {n : Int} (hx : Fnt x) (hx0 : x < 2 ^ 64) (hy : Fnt y) (hy0 : y < 2 ^ 64) (h : val y = val x + n * (U : Int)) : val (intW .down y) = val (intW .down x) + n * (U : Int) := by
  rw [floor_val hy hy0, floor_val hx hx0, h, Int.add_mul_ediv_right _ _ (by have := U_posI; omega), Int.add_mul]
theorem ceil_shift {x y : Nat} {n : Int} (hx : Fnt x) (hx0 : x < 2 ^ 64) (hy : Fnt y) (hy0 : y < 2 ^ 64) (h : val y = val x + n * (U : Int)) : val (intW .up y) = val (intW .up x) + n * (U : Int) := by
  have e : -(val x + n * (U : Int)) = -val x + (-n) * (U : Int) := by rw [Int.neg_add, Int.neg_mul]
  rw [ceil_val hy hy0, ceil_val hx hx0, h, e, Int.add_mul_ediv_right _ _ (by have := U_posI; omega), Int.add_mul, Int.neg_mul n]
  generalize -val x / (U : Int) * (U : Int) = A
  generalize n * (U : Int) = B
  omega
/-- The sum of the rounding and the integer. -/
theorem add_back {r t : Nat} {n : Int} (hr : Fnt r) (ht : Fnt t) (hn : n.natAbs ≤ 2 ^ 52) (h : val t = val r + n * (U : Int)) : ∃ g, double.add r (floatOfInt .f64 n) = some g ∧ FloatKind.f64.format.order t g = some .eq := by
  have hk := ofInt_int (n := n) (by omega)
  have hkv := ofInt_mul (n := n) (by omega)
  obtain ⟨g, hg, h1, h2, -⟩ := add_exact (t := rg t) hr hk.2.1 (by rw [hkv, ← h, natAbs_val]) ht
  exact ⟨g, hg, ord_eq ht h1 (by rw [h2, hkv, h])⟩
end Go.Proofs.Ytaabgcncacdnoaa
