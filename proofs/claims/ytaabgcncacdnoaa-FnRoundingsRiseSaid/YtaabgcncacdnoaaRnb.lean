/- math.Round, which works on bits: of a finite number it returns the nearest integer, halves away from 0; of another number this number. Condition: a word of 64 bits. -/
import Derived.Test.YtaabgcncacdnoaaBit
namespace Go.Proofs.Ytaabgcncacdnoaa
open Flt Ieee Go.RowKit

/-- The magnitude of a normal word. -/
theorem mag_normal {b e : Nat} (h : expo b = e + 1) : mag (rg b) = (2 ^ 52 + rg b % 2 ^ 52) * 2 ^ e := by
  have := rg_expo b
  rw [h] at this
  rw [this, mag_of _ _ (by omega)]
  congr 2
  omega
theorem U_split {d e : Nat} (h : d + e = 1074) : U = 2 ^ (d + e) := by unfold U; rw [UE_eq, h]

theorem mag_lt_pow {b e : Nat} (h : expo b ≤ e) : mag (rg b) < 2 ^ (52 + e) := by
  rcases Nat.eq_zero_or_pos (expo b) with c | c
  · have : rg b < 2 ^ 52 := by unfold expo at c; omega
    rw [mag_small this]
    exact Nat.lt_of_lt_of_le this (Nat.pow_le_pow_right (by omega) (by omega))
  · obtain ⟨k, hk⟩ : ∃ k, expo b = k + 1 := ⟨expo b - 1, by omega⟩
    rw [mag_normal hk]
    have h1 : 2 ^ 52 + rg b % 2 ^ 52 < 2 ^ 53 := by omega
    have h2 : (2 ^ 52 + rg b % 2 ^ 52) * 2 ^ k < 2 ^ 53 * 2 ^ k := (Nat.mul_lt_mul_right (Nat.two_pow_pos k)).2 h1
    have h3 : 2 ^ (53 + k) ≤ 2 ^ (52 + e) := Nat.pow_le_pow_right (by omega) (by omega)
    rw [← Nat.pow_add] at h2
    omega
theorem le_mag_pow {b e : Nat} (h : e + 1 ≤ expo b) : 2 ^ (52 + e) ≤ mag (rg b) := by
  obtain ⟨k, hk⟩ : ∃ k, expo b = k + 1 := ⟨expo b - 1, by omega⟩
  rw [mag_normal hk]
  have h2 : 2 ^ 52 * 2 ^ k ≤ (2 ^ 52 + rg b % 2 ^ 52) * 2 ^ k := Nat.mul_le_mul_right _ (by omega)
  have h3 : 2 ^ (52 + e) ≤ 2 ^ (52 + k) := Nat.pow_le_pow_right (by omega) (by omega)
  rw [← Nat.pow_add] at h2
  omega

theorem HU_split {d e : Nat} (h : d + e = 1073) : HU = 2 ^ (d + e) := by
  have : UE - 1 = d + e := by rw [UE_eq]; omega
  unfold HU; rw [this]

/-! ### the four ways -/
theorem away_small {b : Nat} (h : Fnt b) (h64 : b < 2 ^ 64) (c : expo b < 1022) : awayW b = wd (sg b) 0 := by
  have hi := awayW_int h h64
  have hm := mag_lt_pow (b := b) (e := 1021) (by omega)
  rw [← HU_split (d := 52) (e := 1021) rfl] at hm
  have h2 := U_two
  have hk : Kaway (mag (rg b)) = 0 := by
    unfold Kaway
    rw [Nat.div_eq_of_lt (by omega), Nat.mod_eq_of_lt (by omega), if_neg (by omega)]
  rw [hk] at hi
  have hz : IsInt (wd (sg b) 0) (sg b) 0 := by
    refine ⟨wd_lt _ (by omega), ?_, sg_wd _ (by omega), ?_⟩
    · unfold Fnt; rw [rg_wd _ (by omega)]; unfold INF; omega
    · rw [rg_wd _ (by omega), mag_zero, Nat.zero_mul]
  exact isInt_eq hi hz
theorem isInt_one (s : Bool) : IsInt (wd s 4607182418800017408) s 1 := by
  refine ⟨wd_lt _ (by omega), ?_, sg_wd _ (by omega), ?_⟩
  · unfold Fnt; rw [rg_wd _ (by omega)]; unfold INF; omega
  · rw [rg_wd _ (by omega), Nat.one_mul, ← mag_one]; rfl
theorem away_one {b : Nat} (h : Fnt b) (h64 : b < 2 ^ 64) (c : expo b = 1022) : awayW b = wd (sg b) 4607182418800017408 := by
  have hi := awayW_int h h64
  have hm := mag_lt_pow (b := b) (e := 1022) (by omega)
  have hm2 := le_mag_pow (b := b) (e := 1021) (by omega)
  rw [← U_split (d := 52) (e := 1022) rfl] at hm
  rw [← HU_split (d := 52) (e := 1021) rfl] at hm2
  have h2 := U_two
  have hk : Kaway (mag (rg b)) = 1 := by
    unfold Kaway
    rw [Nat.div_eq_of_lt hm, Nat.mod_eq_of_lt hm, if_pos (by omega)]
  rw [hk] at hi
  exact isInt_eq hi (isInt_one _)
theorem away_big {b : Nat} (h : Fnt b) (h64 : b < 2 ^ 64) (c : 1075 ≤ expo b) : awayW b = b := by
  have hi := awayW_int h h64
  obtain ⟨k, hk⟩ : ∃ k, expo b = k + 1 := ⟨expo b - 1, by omega⟩
  have hm : mag (rg b) % U = 0 := by
    rw [mag_normal hk]; exact mag_mod_of_ge (by rw [UE_eq]; omega)
  have hU := U_pos
  have e : Kaway (mag (rg b)) = mag (rg b) / U := by
    unfold Kaway; rw [hm, if_neg (by omega), Nat.add_zero]
  rw [e] at hi
  exact isInt_eq hi (isInt_of_mod h h64 hm)

theorem div_half {M p hf : Nat} (hp : p = 2 * hf) (h0 : 0 < hf) : (M + hf) / p = M / p + (if p ≤ 2 * (M % p) then 1 else 0) := by
  have h1 := Nat.div_add_mod M p
  have h2 : M % p < p := Nat.mod_lt _ (by omega)
  split
  · rename_i c
    refine Nat.div_eq_of_lt_le ?_ ?_
    · rw [Nat.add_mul, Nat.mul_comm (M / p)]; omega
    · rw [Nat.add_mul, Nat.add_mul, Nat.mul_comm (M / p)]; omega
  · rename_i c
    refine Nat.div_eq_of_lt_le ?_ ?_
    · rw [Nat.add_zero, Nat.mul_comm (M / p)]; omega
    · rw [Nat.add_zero, Nat.add_mul, Nat.mul_comm (M / p)]; omega

/-- Where there is a fraction of d bits: half of their weight added, and they cleared. -/
theorem away_mid {b d : Nat} (h : Fnt b) (h64 : b < 2 ^ 64) (hd : 1 ≤ d) (hd2 : d ≤ 52) (c : expo b = 1075 - d) : awayW b = wd (sg b) ((rg b + 2 ^ (d - 1)) / 2 ^ d * 2 ^ d) ∧ (rg b + 2 ^ (d - 1)) / 2 ^ d * 2 ^ d < 9223372036854775808 := by
  have hi := awayW_int h h64
  have hp : 2 ^ d = 2 * 2 ^ (d - 1) := by
    obtain ⟨k, rfl⟩ : ∃ k, d = k + 1 := ⟨d - 1, by omega⟩
    rw [Nat.pow_succ, Nat.add_sub_cancel]; omega
  have h0 : 0 < 2 ^ (d - 1) := Nat.two_pow_pos _
  have hc : 2 ^ 52 = 2 ^ (52 - d) * 2 ^ d := by rw [← Nat.pow_add, Nat.sub_add_cancel hd2]
  obtain ⟨e, he⟩ : ∃ e, d + e = 1074 := ⟨1074 - d, by omega⟩
  have hx : expo b = e + 1 := by omega
  have hm := mag_normal hx
  have hr := rg_expo b
  generalize rg b % 2 ^ 52 = f at hm hr
  rw [hx] at hr
  have hf : f < 2 ^ 52 := by have := rg_expo b; rw [hx] at this; omega
  -- the integer
  have hK : Kaway (mag (rg b)) = (2 ^ 52 + f + 2 ^ (d - 1)) / 2 ^ d := by
    rw [div_half hp h0]
    unfold Kaway
    rw [hm, U_split he, div_scale, mod_scale, Nat.pow_add, ← Nat.mul_assoc 2]
    have hpe : 0 < 2 ^ e := Nat.two_pow_pos e
    have : (2 ^ d * 2 ^ e ≤ 2 * ((2 ^ 52 + f) % 2 ^ d) * 2 ^ e) ↔ (2 ^ d ≤ 2 * ((2 ^ 52 + f) % 2 ^ d)) := Nat.mul_le_mul_right_iff hpe
    simp only [this]
  generalize hg : (2 ^ 52 + f + 2 ^ (d - 1)) / 2 ^ d = K at hK
  have hrr : (rg b + 2 ^ (d - 1)) / 2 ^ d = e * 2 ^ (52 - d) + K := by
    rw [hr, ← hg, show (e + 1) * 2 ^ 52 + f + 2 ^ (d - 1) = (2 ^ 52 + f + 2 ^ (d - 1)) + (e * 2 ^ (52 - d)) * 2 ^ d by rw [Nat.mul_assoc, ← hc]; omega, Nat.add_mul_div_right _ _ (Nat.two_pow_pos d)]
    omega
  have k1 : 2 ^ (52 - d) ≤ K := by
    rw [← hg, Nat.le_div_iff_mul_le (Nat.two_pow_pos d), ← hc]; omega
  have k2 : K ≤ 2 ^ (52 - d) * 2 := by
    rw [← hg]
    have : (2 ^ 52 + f + 2 ^ (d - 1)) / 2 ^ d < 2 ^ (52 - d) * 2 + 1 := by
      rw [Nat.div_lt_iff_lt_mul (Nat.two_pow_pos d), Nat.add_mul, Nat.one_mul, Nat.mul_assoc, Nat.mul_comm 2, ← Nat.mul_assoc, ← hc]
      omega
    omega
  have k3 : 2 ^ 52 ≤ K * 2 ^ d := by rw [hc]; exact Nat.mul_le_mul_right _ k1
  have k4 : K * 2 ^ d ≤ 2 ^ 53 := by
    have := Nat.mul_le_mul_right (2 ^ d) k2
    rw [Nat.mul_assoc, Nat.mul_comm 2, ← Nat.mul_assoc, ← hc] at this
    omega
  have er : (rg b + 2 ^ (d - 1)) / 2 ^ d * 2 ^ d = e * 2 ^ 52 + K * 2 ^ d := by
    rw [hrr, Nat.add_mul, Nat.mul_assoc, ← hc]
  rw [er]
  have hlt : e * 2 ^ 52 + K * 2 ^ d < INF := by unfold INF; omega
  have hlt2 := INF_lt
  have hmag : mag (e * 2 ^ 52 + K * 2 ^ d) = K * U := by
    rw [U_split he, Nat.pow_add, ← Nat.mul_assoc]
    generalize K * 2 ^ d = M at k3 k4
    by_cases c' : M < 2 ^ 53
    · rw [show e * 2 ^ 52 + M = (e + 1) * 2 ^ 52 + (M - 2 ^ 52) by omega, mag_of _ _ (by omega), show 2 ^ 52 + (M - 2 ^ 52) = M by omega]
    · rw [show e * 2 ^ 52 + M = (e + 1 + 1) * 2 ^ 52 by omega, mag_of0, show 2 ^ (e + 1) = 2 * 2 ^ e by (rw [Nat.pow_succ]; omega), ← Nat.mul_assoc, show M = 2 ^ 52 * 2 by omega]
  refine ⟨?_, by omega⟩
  rw [hK] at hi
  refine isInt_eq hi ⟨wd_lt _ (by omega), ?_, sg_wd _ (by omega), ?_⟩
  · unfold Fnt; rw [rg_wd _ (by omega)]; exact hlt
  · rw [rg_wd _ (by omega)]; exact hmag

/-! ### the walk -/
set_option maxRecDepth 100000 in
theorem round_a (b E z : Nat) (w : World) (hE : bits .and .u64 ((b : Int) / 4503599627370496) 2047 = (E : Int)) (h : E < 1022) (hz : bits .and .u64 (b : Int) 9223372036854775808 = (z : Int)) :
    Calls Try.prog 34 #[.float .f64 b] w fun e w' => e = .returned (.float .f64 z) ∧ w = w' := by
  go_enter Try.func34, Try.ntmps34
  go_wp2
  go_ret
  exact ⟨rfl, rfl⟩
set_option maxRecDepth 100000 in
theorem round_b (b E z z2 : Nat) (w : World) (hE : bits .and .u64 ((b : Int) / 4503599627370496) 2047 = (E : Int)) (h : ((E : Int) == 1022) = true) (h' : (E : Int) < 1023) (hz : bits .and .u64 (b : Int) 9223372036854775808 = (z : Int)) (hz2 : bits .or .u64 (z : Int) 4607182418800017408 = (z2 : Int)) :
    Calls Try.prog 34 #[.float .f64 b] w fun e w' => e = .returned (.float .f64 z2) ∧ w = w' := by
  go_enter Try.func34, Try.ntmps34
  go_wp2
  go_ret
  exact ⟨rfl, rfl⟩
set_option maxRecDepth 100000 in
theorem round_c (b E z : Nat) (w : World) (hE : bits .and .u64 ((b : Int) / 4503599627370496) 2047 = (E : Int)) (h : 1023 ≤ E) (h' : E < 1075)
    (hz : bits .andNot .u64 (IntKind.u64.wrap ((b : Int) + 2251799813685248 / 2 ^ (E - 1023))) (4503599627370495 / 2 ^ (E - 1023)) = (z : Int)) :
    Calls Try.prog 34 #[.float .f64 b] w fun e w' => e = .returned (.float .f64 z) ∧ w = w' := by
  go_enter Try.func34, Try.ntmps34
  go_wp2
  go_ret
  exact ⟨rfl, rfl⟩
set_option maxRecDepth 100000 in
theorem round_d (b E : Nat) (w : World) (hE : bits .and .u64 ((b : Int) / 4503599627370496) 2047 = (E : Int)) (h : 1075 ≤ E) :
    Calls Try.prog 34 #[.float .f64 b] w fun e w' => e = .returned (.float .f64 b) ∧ w = w' := by
  go_enter Try.func34, Try.ntmps34
  go_wp2
  go_ret
  exact ⟨rfl, rfl⟩

theorem mid_bits {b d : Nat} (h64 : b < 2 ^ 64) (hd : 1 ≤ d) (hd2 : d ≤ 52) (c : expo b = 1075 - d) (hlt : (rg b + 2 ^ (d - 1)) / 2 ^ d * 2 ^ d < 9223372036854775808) :
    bits .andNot .u64 (IntKind.u64.wrap ((b : Int) + 2251799813685248 / 2 ^ (expo b - 1023))) (4503599627370495 / 2 ^ (expo b - 1023)) = (wd (sg b) ((rg b + 2 ^ (d - 1)) / 2 ^ d * 2 ^ d) : Int) := by
  obtain ⟨k, hk⟩ : ∃ k, d + k = 52 := ⟨52 - d, by omega⟩
  have he : expo b - 1023 = k := by omega
  have hkp : 0 < 2 ^ k := Nat.two_pow_pos k
  have e1 : (2251799813685248 : Int) / 2 ^ k = ((2 ^ (d - 1) : Nat) : Int) := by
    have : (2251799813685248 : Nat) / 2 ^ k = 2 ^ (d - 1) := by
      rw [show (2251799813685248 : Nat) = 2 ^ (d - 1) * 2 ^ k by rw [← Nat.pow_add, show d - 1 + k = 51 by omega], Nat.mul_div_cancel _ hkp]
    rw [← this]; simp
  have e2 : (4503599627370495 : Int) / 2 ^ k = ((2 ^ d - 1 : Nat) : Int) := by
    have : (4503599627370495 : Nat) / 2 ^ k = 2 ^ d - 1 := by
      have hq : (4503599627370496 : Nat) = 2 ^ d * 2 ^ k := by rw [← Nat.pow_add, hk]
      have hdp : 0 < 2 ^ d := Nat.two_pow_pos d
      refine Nat.div_eq_of_lt_le ?_ ?_
      · rw [Nat.sub_mul, Nat.one_mul]; omega
      · rw [Nat.sub_add_cancel hdp, ← hq]; omega
    rw [← this]; simp
  have hb := wd_sg_rg h64
  have hrl := rg_lt b
  have hx := rg_expo b
  rw [he, e1, e2]
  have hd1 : 2 ^ (d - 1) ≤ 2 ^ 51 := Nat.pow_le_pow_right (by omega) (by omega)
  have hdl : 2 ^ d ≤ 2 ^ 52 := Nat.pow_le_pow_right (by omega) (by omega)
  have hdp : 0 < 2 ^ d := Nat.two_pow_pos d
  have hsum : b + 2 ^ (d - 1) < 2 ^ 64 := by
    rw [← hb]; unfold wd; split <;> omega
  have key : (b + 2 ^ (d - 1)) &&& (18446744073709551615 - (2 ^ d - 1)) = wd (sg b) ((rg b + 2 ^ (d - 1)) / 2 ^ d * 2 ^ d) := by
    rw [show 18446744073709551615 - (2 ^ d - 1) = 2 ^ 64 - 2 ^ d by omega, and_high hsum (by omega)]
    have hq : 9223372036854775808 = 2 ^ (63 - d) * 2 ^ d := by rw [← Nat.pow_add, show 63 - d + d = 63 by omega]
    generalize sg b = s at hb ⊢
    generalize rg b = r at hb hrl ⊢
    subst hb
    cases s
    · rfl
    · show (9223372036854775808 + r + 2 ^ (d - 1)) / 2 ^ d * 2 ^ d = 9223372036854775808 + (r + 2 ^ (d - 1)) / 2 ^ d * 2 ^ d
      rw [show 9223372036854775808 + r + 2 ^ (d - 1) = r + 2 ^ (d - 1) + 2 ^ (63 - d) * 2 ^ d by rw [← hq]; omega, Nat.add_mul_div_right _ _ hdp, Nat.add_mul, ← hq]
      omega
  have ew : IntKind.u64.wrap ((b : Int) + ((2 ^ (d - 1) : Nat) : Int)) = ((b + 2 ^ (d - 1) : Nat) : Int) := by
    rw [← Int.natCast_add, IntKind.wrap_u64]
    exact Int.emod_eq_of_lt (Int.natCast_nonneg _) (Int.ofNat_lt.2 hsum)
  rw [ew, u64_andNot_nat _ _ hsum (by omega), key]

theorem mRound_fin (b : Nat) (w : World) (h : Fnt b) (h64 : b < 2 ^ 64) :
    Calls Try.prog 34 #[.float .f64 b] w fun e w' => e = .returned (.float .f64 (awayW b)) ∧ w = w' := by
  have hE := expo_bits h64
  rcases Nat.lt_or_ge (expo b) 1022 with c | c
  · rw [away_small h h64 c]
    have hz := sign_and h64
    refine (round_a b (expo b) _ w hE c hz).mono fun e w' ⟨he, hw⟩ => ⟨?_, hw⟩
    rw [he]; cases sg b <;> rfl
  rcases Nat.lt_or_ge (expo b) 1023 with c1 | c1
  · have c2 : expo b = 1022 := by omega
    rw [away_one h h64 c2]
    have hz := sign_and h64
    refine round_b b (expo b) _ _ w hE (by rw [c2]; rfl) (by omega) hz ?_
    cases sg b
    · rw [if_neg Bool.false_ne_true]; rfl
    · rw [if_pos rfl]; exact u64_or_nat 9223372036854775808 4607182418800017408 (by omega) (by omega)
  rcases Nat.lt_or_ge (expo b) 1075 with c2 | c2
  · obtain ⟨d, hd⟩ : ∃ d, expo b = 1075 - d ∧ 1 ≤ d ∧ d ≤ 52 := ⟨1075 - expo b, by omega, by omega, by omega⟩
    obtain ⟨h1, h2⟩ := away_mid h h64 hd.2.1 hd.2.2 hd.1
    rw [h1]
    exact round_c b (expo b) _ w hE c1 c2 (mid_bits h64 hd.2.1 hd.2.2 hd.1 h2)
  · rw [away_big h h64 c2]
    exact round_d b (expo b) w hE c2
theorem mRound_not (b : Nat) (w : World) (h : ¬ Fnt b) (h64 : b < 2 ^ 64) :
    Calls Try.prog 34 #[.float .f64 b] w fun e w' => e = .returned (.float .f64 b) ∧ w = w' := by
  refine round_d b (expo b) w (expo_bits h64) ?_
  unfold Fnt INF at h
  unfold expo
  omega
theorem Round_fin (b : Nat) (w : World) (h : Fnt b) (h64 : b < 2 ^ 64) :
    Calls Try.prog 21 #[.float .f64 b] w fun e w' => e = .returned (.float .f64 (awayW b)) ∧ w = w' := by
  go_enter Try.func21, Try.ntmps21
  go_wp2_with (go_at_call 34; refine (mRound_fin b _ h h64).mono ?_; rintro e w' ⟨rfl, rfl⟩)
  go_ret
  exact ⟨rfl, rfl⟩
theorem Round_not (b : Nat) (w : World) (h : ¬ Fnt b) (h64 : b < 2 ^ 64) :
    Calls Try.prog 21 #[.float .f64 b] w fun e w' => e = .returned (.float .f64 b) ∧ w = w' := by
  go_enter Try.func21, Try.ntmps21
  go_wp2_with (go_at_call 34; refine (mRound_not b _ h h64).mono ?_; rintro e w' ⟨rfl, rfl⟩)
  go_ret
  exact ⟨rfl, rfl⟩
end Go.Proofs.Ytaabgcncacdnoaa
