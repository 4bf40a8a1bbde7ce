/- Contracts of the reference's parts, power, shift and scaled. Conditions: as each states. -/
import Derived.Test.YtnegjfdaijnadaaRml
namespace Go.Proofs.Ytnegjfdaijnadaa
open Flt Ieee Go.RowKit

/-! ### twice and half of a word -/
theorem fin_two : Fnt 4611686018427387904 := by unfold Fnt rg INF; omega
theorem mag_two : mag (rg 4611686018427387904) = 2 * U := by
  have h : rg 4611686018427387904 = rg 4607182418800017408 + 2 ^ 52 := by unfold rg; omega
  rw [h, mag_double (by unfold rg; omega), mag_one, Nat.mul_comm]
theorem mul_min {a b t : Nat} (ha : Fnt a) (hb : Fnt b) (ht : mag (rg a) * mag (rg b) = mag t * U) : double.mul a b = some (wd (sg a ^^ sg b) (min t INF)) := by
  obtain ⟨m, i, ra, va, -⟩ := read_fin ha
  obtain ⟨n, j, rb, vb, -⟩ := read_fin hb
  unfold Format.mul
  rw [ra, rb]
  simp only [Datum.product, Option.map_some, Format.write]
  have e1 : m * n * 2 ^ (i + j) = mag t * 2 ^ UE := by
    rw [show mag t * 2 ^ UE = mag t * U from rfl, ← ht, va, vb, Nat.pow_add, Nat.mul_assoc, Nat.mul_assoc, ← Nat.mul_assoc n, Nat.mul_comm n (2 ^ i), Nat.mul_assoc]
  have h1 := nearest_scale (sg a ^^ sg b) (m * n) (-1074 + (i : Int) + (-1074 + (j : Int))) (i + j)
  have h2 := nearest_scale (sg a ^^ sg b) (mag t) (-1074) UE
  rw [e1] at h1
  rw [show -1074 + (i : Int) + (-1074 + (j : Int)) - ((i + j : Nat) : Int) = -1074 - (UE : Nat) by rw [UE_eq]; omega] at h1
  rw [← h1, h2, nearest_unit, rd_mag, wd_eq]
theorem twice_word {s : Bool} {r t : Nat} (hr : r < INF) (ht : mag t = mag r * 2) : double.mul (wd s r) 4611686018427387904 = some (wd s (min t INF)) := by
  have hl := INF_lt
  have hrl : r < 9223372036854775808 := Nat.lt_trans hr hl
  have hf : Fnt (wd s r) := by unfold Fnt; rw [rg_wd _ hrl]; exact hr
  have := mul_min (t := t) hf fin_two (by rw [rg_wd _ hrl, mag_two, ht, Nat.mul_assoc])
  rw [sg_wd _ hrl, show sg 4611686018427387904 = false from rfl, Bool.xor_false] at this
  exact this
theorem half_of {s : Bool} {r t : Nat} (hr : r < INF) (ht : mag r = mag t * 2) : double.div (wd s r) 4611686018427387904 = some (wd s t) := by
  have hl := INF_lt
  have hrl : r < 9223372036854775808 := Nat.lt_trans hr hl
  have hf : Fnt (wd s r) := by unfold Fnt; rw [rg_wd _ hrl]; exact hr
  have hti : t < INF := by
    refine Nat.lt_of_le_of_lt (mag_le_iff.1 ?_) hr
    rw [ht]; omega
  obtain ⟨m, k, rb, vb, h53, -, -⟩ := read_fin hf
  rw [div_two_nearest rb h53, sg_wd _ hrl]
  rw [rg_wd _ hrl, ht] at vb
  have h1 := nearest_scale s m (-1074 + (k : Int) - 1) k
  have h2 := nearest_scale s (mag t) (-1074) 1
  rw [← vb] at h1
  rw [Nat.pow_one] at h2
  rw [show -1074 + (k : Int) - 1 - (k : Int) = -1074 - ((1 : Nat) : Int) by omega] at h1
  rw [← h1, h2, nearest_unit, rd_mag, Nat.min_eq_left (Nat.le_of_lt hti), wd_eq]
theorem double_rung (r : Nat) : ∃ t, mag t = mag r * 2 := by
  obtain ⟨t, ht⟩ := scale_rung r 1
  exact ⟨t, by rw [ht, Nat.pow_one]⟩

/-! ### parts -/
theorem fin_over : Fnt 4845873199050653696 := by unfold Fnt rg INF; omega
theorem rg_over : rg 4845873199050653696 = rg 4841369599423283200 + 2 ^ 52 := by unfold rg; omega
theorem mag_over : mag (rg 4845873199050653696) = 2 ^ 53 * U := by
  rw [rg_over, mag_double (by unfold rg; omega), mag_lead]
  generalize U = V
  omega
theorem val_over : val 4845873199050653696 = ((2 ^ 53 * U : Nat) : Int) := by
  rw [val_eq (b := 4845873199050653696) (s := false) rfl, if_neg Bool.false_ne_true, mag_over]
theorem val_pos_word {r : Nat} (h : r < INF) : Fnt (wd false r) ∧ val (wd false r) = (mag r : Int) := by
  have hrl : r < 9223372036854775808 := Nat.lt_trans h INF_lt
  exact ⟨by unfold Fnt; rw [rg_wd _ hrl]; exact h, by rw [val_wd _ hrl]; rfl⟩
theorem ge_over {r : Nat} (h : r < INF) : (FloatKind.f64.format.order (wd false r) 4845873199050653696 == some .gt || FloatKind.f64.format.order (wd false r) 4845873199050653696 == some .eq) = decide (2 ^ 53 * U ≤ mag r) := by
  obtain ⟨h1, h2⟩ := val_pos_word h
  rw [b_ge h1 fin_over, h2, val_over]
  exact decide_eq_decide.2 Int.ofNat_le
theorem lt_lead {r : Nat} (h : r < INF) : (FloatKind.f64.format.order (wd false r) 4841369599423283200 == some .lt) = decide (mag r < 2 ^ 52 * U) := by
  obtain ⟨h1, h2⟩ := val_pos_word h
  rw [b_lt h1 fin_lead, h2, val_lead]
  exact decide_eq_decide.2 Int.ofNat_lt
/-- A number from lead to over is its own 53 digits. -/
theorem lead_int {t : Nat} (h1 : 2 ^ 52 * U ≤ mag t) (h2 : mag t < 2 ^ 53 * U) : ∃ M, mag t = M * U ∧ 2 ^ 52 ≤ M ∧ M < 2 ^ 53 := by
  obtain ⟨m, k, hm, h53, hk, -⟩ := mag_form t
  have hUp : 2 ^ 53 ≤ U := by unfold U; exact Nat.pow_le_pow_right (by omega) (by rw [UE_eq]; omega)
  have hm52 : 2 ^ 52 ≤ m := by
    rcases hk with hk | hk
    · subst hk
      rw [Nat.pow_zero, Nat.mul_one] at hm
      have : 2 ^ 52 * 2 ^ 53 ≤ 2 ^ 52 * U := Nat.mul_le_mul_left _ hUp
      omega
    · exact hk
  have e : k = UE := by
    rcases Nat.lt_trichotomy k UE with c | c | c
    · exfalso
      have p1 : 2 ^ (k + 1) ≤ U := by unfold U; exact Nat.pow_le_pow_right (by omega) c
      have p2 : 2 ^ (k + 1) = 2 ^ k * 2 := Nat.pow_succ _ _
      have p3 : m * 2 ^ k < 2 ^ 53 * 2 ^ k := (Nat.mul_lt_mul_right (Nat.two_pow_pos k)).2 h53
      rw [hm] at h1
      generalize 2 ^ k = P at *
      generalize U = V at *
      omega
    · exact c
    · exfalso
      have p1 : 2 ^ (UE + 1) ≤ 2 ^ k := Nat.pow_le_pow_right (by omega) c
      have p2 : 2 ^ (UE + 1) = U * 2 := Nat.pow_succ _ _
      have p3 : 2 ^ 52 * 2 ^ k ≤ m * 2 ^ k := Nat.mul_le_mul_right _ hm52
      rw [hm] at h2
      generalize 2 ^ k = P at *
      generalize U = V at *
      omega
  subst e
  exact ⟨m, hm, hm52, h53⟩
/-- What holds at the heads of the loops of 'parts': the number is x, moved by 2 to the power of -e. -/
def PartRel (X : Nat) (v ev : Value) : Prop := ∃ r a c : Nat, v = .float .f64 (wd false r) ∧ r < INF ∧ ev = .int .i64 ((a : Int) - (c : Int)) ∧ mag r * 2 ^ a = mag X * 2 ^ c
theorem part_bound {X r a c : Nat} (hX : X ≠ 0) (hXi : X < INF) (hr : r < INF) (h : mag r * 2 ^ a = mag X * 2 ^ c) : (a : Int) - (c : Int) ≤ 2097 ∧ -2097 ≤ (a : Int) - (c : Int) := by
  obtain ⟨M, e, m1, m2, m3, m4⟩ := norm_form hX
  have m5 := m4 hXi
  obtain ⟨f, -, hf, hf2⟩ := digits_same hX m1 m2 m3 hr h
  omega
theorem part_half {X r a c t : Nat} (h : mag r * 2 ^ a = mag X * 2 ^ c) (ht : mag r = mag t * 2) : mag t * 2 ^ (a + 1) = mag X * 2 ^ c := by
  rw [Nat.pow_succ, Nat.mul_comm (2 ^ a), ← Nat.mul_assoc, ← ht, h]
theorem part_twice {X r a c t : Nat} (h : mag r * 2 ^ a = mag X * 2 ^ c) (ht : mag t = mag r * 2) : mag t * 2 ^ a = mag X * 2 ^ (c + 1) := by
  rw [Nat.pow_succ, ← Nat.mul_assoc, ← h, ht, Nat.mul_right_comm]
/-- The end of 'parts'. -/
theorem part_end {X r a c M e : Nat} (m1 : 2 ^ 52 ≤ M) (m2 : M < 2 ^ 53) (m3 : mag X * 2 ^ 52 = M * 2 ^ e) (h : mag r * 2 ^ a = mag X * 2 ^ c) (h1 : 2 ^ 52 * U ≤ mag r) (h2 : mag r < 2 ^ 53 * U) : mag r = M * U ∧ (a : Int) - (c : Int) = (e : Int) - 1126 := by
  obtain ⟨M', h3, h4, h5⟩ := lead_int h1 h2
  have hu : M' = M ∧ UE + a + 52 = e + c := by
    refine norm_unique h4 h5 m1 m2 ?_
    rw [Nat.pow_add, Nat.pow_add, ← Nat.mul_assoc, ← Nat.mul_assoc, show M' * 2 ^ UE = mag r from h3.symm, h, Nat.mul_right_comm, m3, Nat.pow_add, Nat.mul_assoc]
  rw [UE_eq] at hu
  refine ⟨by rw [h3, hu.1], ?_⟩
  have := hu.2
  omega
end Go.Proofs.Ytnegjfdaijnadaa
