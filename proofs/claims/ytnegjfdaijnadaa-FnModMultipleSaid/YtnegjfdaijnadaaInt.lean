/- Words that are integers: 'IsInt r s k' says that the word r is the integer k with the sign s. What cutting a finite word to an integer gives. No condition. -/
import Derived.Test.YtnegjfdaijnadaaWrd
namespace Flt
open Ieee Go

def UE : Nat := 1074
theorem UE_eq : UE = 1074 := rfl
attribute [irreducible] UE
/-- The number 1, in units of '2 ^ -1074'. -/
def U : Nat := 2 ^ UE
def HU : Nat := 2 ^ (UE - 1)
theorem U_pos : 0 < U := Nat.two_pow_pos _
theorem HU_pos : 0 < HU := Nat.two_pow_pos _
theorem U_two : U = 2 * HU := by
  unfold U HU
  have h : UE = (UE - 1) + 1 := by rw [UE_eq]
  generalize UE - 1 = v at h ⊢
  rw [h, Nat.pow_succ]; omega

theorem mag_mod_of_ge {m k : Nat} (h : UE ≤ k) : m * 2 ^ k % U = 0 := by
  unfold U
  rw [show k = (k - UE) + UE by omega, Nat.pow_add, ← Nat.mul_assoc, Nat.mul_mod_left]

theorem frac_small {r : Nat} (h : mag r % U ≠ 0) : mag r < 2 ^ 52 * U := by
  obtain ⟨m, k, e, hm, -, -⟩ := mag_form r
  rcases Nat.lt_or_ge k UE with c | c
  · rw [e]
    have h1 : 2 ^ (k + 1) ≤ 2 ^ UE := Nat.pow_le_pow_right (by omega) (by omega)
    have h2 : m * 2 ^ k < 2 ^ 53 * 2 ^ k := (Nat.mul_lt_mul_right (Nat.two_pow_pos k)).2 hm
    rw [Nat.pow_succ] at h1
    unfold U
    omega
  · rw [e, mag_mod_of_ge c] at h
    omega
theorem frac_div {r : Nat} (h : mag r % U ≠ 0) : mag r / U < 2 ^ 52 := by
  have := frac_small h
  exact (Nat.div_lt_iff_lt_mul U_pos).2 this

def IsInt (r : Nat) (s : Bool) (k : Nat) : Prop := r < 2 ^ 64 ∧ Fnt r ∧ sg r = s ∧ mag (rg r) = k * U

theorem isInt_val {r : Nat} {s : Bool} {k : Nat} (h : IsInt r s k) : val r = if s then -((k * U : Nat) : Int) else ((k * U : Nat) : Int) := by
  obtain ⟨-, -, h1, h2⟩ := h
  unfold val; rw [h1, h2]

theorem wd_ext {a b : Nat} (ha : a < 2 ^ 64) (hb : b < 2 ^ 64) (h1 : sg a = sg b) (h2 : rg a = rg b) : a = b := by
  rw [← wd_sg_rg ha, ← wd_sg_rg hb, h1, h2]

theorem isInt_eq {a b : Nat} {s : Bool} {k : Nat} (ha : IsInt a s k) (hb : IsInt b s k) : a = b :=
  wd_ext ha.1 hb.1 (ha.2.2.1.trans hb.2.2.1.symm) (mag_inj (ha.2.2.2.trans hb.2.2.2.symm))

theorem pow_lt_aux {e : Nat} (h : UE + 1 < e) : 2 ^ 53 * U < 2 ^ 52 * 2 ^ e := by
  have h1 : 2 ^ (UE + 1) < 2 ^ e := Nat.pow_lt_pow_right (by omega) h
  rw [Nat.pow_succ] at h1
  unfold U
  omega
theorem big_lt_INF : 2 ^ 53 * U < mag INF := Nat.lt_of_lt_of_eq (pow_lt_aux (e := 2046) (by rw [UE_eq]; decide)) mag_INF.symm

theorem near_int (s : Bool) {k : Nat} (hk : k ≤ 2 ^ 53) : IsInt (wd s (min (rd (k * U)) INF)) s k := by
  obtain ⟨r, hr⟩ := exists_rung' UE k hk
  have hi : r < INF := by
    rw [← mag_lt_iff, hr]
    have := big_lt_INF
    have h2 : k * U ≤ 2 ^ 53 * U := Nat.mul_le_mul_right _ hk
    exact Nat.lt_of_le_of_lt h2 this
  have h0 := INF_lt
  rw [show k * U = mag r from hr.symm, rd_mag, Nat.min_eq_left (by omega)]
  have hl : r < 9223372036854775808 := by omega
  exact ⟨wd_lt s hl, by unfold Fnt; rw [rg_wd s hl]; exact hi, sg_wd s hl, by rw [rg_wd s hl]; exact hr⟩

theorem round_int {b k : Nat} (hb : Fnt b) (h64 : b < 2 ^ 64) (hk : k = mag (rg b) / U ∨ (k = mag (rg b) / U + 1 ∧ mag (rg b) % U ≠ 0)) :
    IsInt (wd (sg b) (min (rd (k * U)) INF)) (sg b) k := by
  by_cases c : mag (rg b) % U = 0
  · obtain rfl : k = mag (rg b) / U := by omega
    have e : mag (rg b) / U * U = mag (rg b) := Nat.div_mul_cancel (Nat.dvd_of_mod_eq_zero c)
    unfold Fnt at hb
    rw [e, rd_mag, Nat.min_eq_left (by omega), wd_sg_rg h64]
    exact ⟨h64, hb, rfl, e.symm⟩
  · have := frac_div c
    exact near_int _ (by omega)

/-! ### cutting to an integer -/
theorem cut_scale (way : Toward) (s : Bool) (n d k : Nat) : way.cut s (n * 2 ^ k) (d + k) = way.cut s n d := by
  have hk := Nat.two_pow_pos k
  have hz : n % 2 ^ d * 2 ^ k = 0 ↔ n % 2 ^ d = 0 := by rw [Nat.mul_eq_zero]; omega
  cases way
  · rw [cut_even, cut_even, hEven_scale]
  · rw [cut_down, cut_down, div_scale, mod_scale]; simp only [ne_eq, hz]
  · rw [cut_up, cut_up, div_scale, mod_scale]; simp only [ne_eq, hz]
  · rw [cut_zero, cut_zero, div_scale]

/-- The integer to which a magnitude is cut. -/
def Kof (way : Toward) (s : Bool) (n : Nat) : Nat := way.cut s n UE

theorem integral_word (way : Toward) {b : Nat} (hb : Fnt b) : double.write ((double.read b).integral way) = wd (sg b) (min (rd (Kof way (sg b) (mag (rg b)) * U)) INF) := by
  obtain ⟨m, k, rb, vb, -, -, -⟩ := read_fin hb
  rw [rb]
  simp only [Datum.integral, Format.write]
  have h := nearest_at (sg b) (way.cut (sg b) (m <<< (-1074 + (k : Int)).toNat) (-(-1074 + (k : Int))).toNat) UE
  rw [show (-1074 : Int) + (UE : Nat) = 0 by rw [UE_eq]; rfl, wd_eq] at h
  rw [h]
  unfold Kof
  rw [vb, Nat.shiftLeft_eq]
  have key : way.cut (sg b) (m * 2 ^ (-1074 + (k : Int)).toNat) (-(-1074 + (k : Int))).toNat = way.cut (sg b) (m * 2 ^ k) UE := by
    by_cases c : UE ≤ k
    · have c' : 1074 ≤ k := by rwa [UE_eq] at c
      rw [show (-1074 + (k : Int)).toNat = k - UE by rw [UE_eq]; omega, show (-(-1074 + (k : Int))).toNat = 0 by omega]
      have := cut_scale way (sg b) (m * 2 ^ (k - UE)) 0 UE
      rw [← this, Nat.mul_assoc, ← Nat.pow_add, Nat.sub_add_cancel c, Nat.zero_add]
    · have c' : ¬ 1074 ≤ k := by rwa [UE_eq] at c
      rw [show (-1074 + (k : Int)).toNat = 0 by omega, show (-(-1074 + (k : Int))).toNat = UE - k by rw [UE_eq]; omega]
      have := cut_scale way (sg b) m (UE - k) k
      rw [show UE - k + k = UE by omega] at this
      rw [this, Nat.pow_zero, Nat.mul_one]
  rw [key]
  rfl

theorem K_zero (s : Bool) (n : Nat) : Kof .zero s n = n / U := cut_zero s n UE
theorem K_down (s : Bool) (n : Nat) : Kof .down s n = n / U + (if s = true ∧ n % U ≠ 0 then 1 else 0) := cut_down s n UE
theorem K_up (s : Bool) (n : Nat) : Kof .up s n = n / U + (if s = false ∧ n % U ≠ 0 then 1 else 0) := cut_up s n UE
theorem K_even (s : Bool) (n : Nat) : Kof .even s n = n / U + (if U < 2 * (n % U) ∨ (U = 2 * (n % U) ∧ n / U % 2 = 1) then 1 else 0) := cut_even s n UE
/-- To the nearest, halves away from 0. -/
def Kaway (n : Nat) : Nat := n / U + (if U ≤ 2 * (n % U) then 1 else 0)

theorem K_form (way : Toward) (s : Bool) (n : Nat) : Kof way s n = n / U ∨ (Kof way s n = n / U + 1 ∧ n % U ≠ 0) := by
  have := U_pos
  cases way
  · rw [K_even]; split <;> omega
  · rw [K_down]; split <;> omega
  · rw [K_up]; split <;> omega
  · rw [K_zero]; omega
theorem Kaway_form (n : Nat) : Kaway n = n / U ∨ (Kaway n = n / U + 1 ∧ n % U ≠ 0) := by
  have := U_pos
  unfold Kaway; split <;> omega

theorem integral_int (way : Toward) {b : Nat} (hb : Fnt b) (h64 : b < 2 ^ 64) : IsInt (double.write ((double.read b).integral way)) (sg b) (Kof way (sg b) (mag (rg b))) := by
  rw [integral_word way hb]
  exact round_int hb h64 (K_form way (sg b) (mag (rg b)))

theorem write_inf (s : Bool) : double.write (.infinity s) = wd s INF := rfl
theorem integral_inf (way : Toward) {b : Nat} (hb : Inf b) (h64 : b < 2 ^ 64) : double.write ((double.read b).integral way) = b := by
  rw [read_inf hb]
  show wd (sg b) INF = b
  rw [← show rg b = INF from hb, wd_sg_rg h64]

/-! ### the opposite -/
def negW (b : Nat) : Nat := b ^^^ 9223372036854775808
theorem or_top {r : Nat} (h : r < 2 ^ 63) : 2 ^ 63 + r = 2 ^ 63 ||| r := by
  have := Nat.two_pow_add_eq_or_of_lt h 1
  rwa [Nat.mul_one] at this
theorem xor_low {r : Nat} (h : r < 2 ^ 63) : r ^^^ 2 ^ 63 = 2 ^ 63 + r := by
  rw [or_top h]
  apply Nat.eq_of_testBit_eq
  intro i
  rw [Nat.testBit_xor, Nat.testBit_or, Nat.testBit_two_pow]
  by_cases c : 63 = i
  · subst c
    rw [Nat.testBit_lt_two_pow h]; simp
  · simp [c]
theorem xor_high {r : Nat} (h : r < 2 ^ 63) : (2 ^ 63 + r) ^^^ 2 ^ 63 = r := by
  rw [← xor_low h, Nat.xor_assoc, Nat.xor_self, Nat.xor_zero]
theorem negW_eq {b : Nat} (h : b < 2 ^ 64) : negW b = wd (!sg b) (rg b) := by
  have hb := wd_sg_rg h
  have hr : rg b < 2 ^ 63 := rg_lt b
  generalize sg b = s at hb ⊢
  generalize rg b = r at hb hr ⊢
  subst hb
  cases s
  · exact xor_low hr
  · exact xor_high hr
theorem negW_lt {b : Nat} (h : b < 2 ^ 64) : negW b < 2 ^ 64 := by rw [negW_eq h]; exact wd_lt _ (rg_lt b)
theorem sg_negW {b : Nat} (h : b < 2 ^ 64) : sg (negW b) = !sg b := by rw [negW_eq h]; exact sg_wd _ (rg_lt b)
theorem rg_negW {b : Nat} (h : b < 2 ^ 64) : rg (negW b) = rg b := by rw [negW_eq h]; exact rg_wd _ (rg_lt b)
theorem val_negW {b : Nat} (h : b < 2 ^ 64) : val (negW b) = -val b := by
  unfold val; rw [sg_negW h, rg_negW h]; cases sg b <;> simp
theorem fin_negW {b : Nat} (h : b < 2 ^ 64) : Fnt (negW b) ↔ Fnt b := by unfold Fnt; rw [rg_negW h]
theorem nan_negW {b : Nat} (h : b < 2 ^ 64) : NaN (negW b) ↔ NaN b := by unfold NaN; rw [rg_negW h]
theorem inf_negW {b : Nat} (h : b < 2 ^ 64) : Inf (negW b) ↔ Inf b := by unfold Inf; rw [rg_negW h]
theorem negW_negW (b : Nat) : negW (negW b) = b := by unfold negW; rw [Nat.xor_assoc, Nat.xor_self, Nat.xor_zero]

/-- A word without its sign. -/
def absW (b : Nat) : Nat := wd false (rg b)
theorem absW_lt (b : Nat) : absW b < 2 ^ 64 := wd_lt _ (rg_lt b)
theorem sg_absW (b : Nat) : sg (absW b) = false := sg_wd _ (rg_lt b)
theorem rg_absW (b : Nat) : rg (absW b) = rg b := rg_wd _ (rg_lt b)
theorem val_absW (b : Nat) : val (absW b) = (mag (rg b) : Int) := by unfold val; rw [sg_absW, rg_absW]; simp
theorem fin_absW {b : Nat} : Fnt (absW b) ↔ Fnt b := by unfold Fnt; rw [rg_absW]
theorem absW_of_pos {b : Nat} (h : b < 2 ^ 64) (hs : sg b = false) : absW b = b := by
  unfold absW; rw [← hs, wd_sg_rg h]
theorem absW_of_neg {b : Nat} (h : b < 2 ^ 64) (hs : sg b = true) : absW b = negW b := by
  rw [negW_eq h, hs]; rfl
theorem negFloat_eq (b : Nat) : Op.negFloat .f64 b = negW b := rfl
end Flt
