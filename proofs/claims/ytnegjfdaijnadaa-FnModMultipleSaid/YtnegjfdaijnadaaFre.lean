/- Contracts of the library's Abs, IsNaN, IsInf, NaN, normalize and Frexp. Conditions: as each states. -/
import Derived.Test.YtnegjfdaijnadaaBit
import Derived.Test.YtnegjfdaijnadaaScl
namespace Go.Proofs.Ytnegjfdaijnadaa
open Flt Ieee Go.RowKit

theorem mAbs_any (b : Nat) (w : World) (h : b < 2 ^ 64) :
    Calls Try.prog 66 #[.float .f64 b] w fun e w' => e = .returned (.float .f64 (absW b)) ∧ w = w' := by
  have h1 := sign_andNot h
  have e : absW b = rg b := rfl
  rw [e]
  go_enter Try.func66, Try.ntmps66
  go_wp2
  go_ret
  exact ⟨rfl, rfl⟩
theorem mIsNaN_no (b : Nat) (w : World) (h : ¬ NaN b) :
    Calls Try.prog 63 #[.float .f64 b] w fun e w' => e = .returned (.bool false) ∧ w = w' := by
  have h1 := ord_self h
  go_enter Try.func63, Try.ntmps63
  go_wp2
  go_ret
  exact ⟨rfl, rfl⟩
theorem mIsNaN_yes (b : Nat) (w : World) (h : NaN b) :
    Calls Try.prog 63 #[.float .f64 b] w fun e w' => e = .returned (.bool true) ∧ w = w' := by
  have h1 := ord_nan_left b h
  go_enter Try.func63, Try.ntmps63
  go_wp2
  go_ret
  exact ⟨rfl, rfl⟩
theorem fin_max : Fnt 9218868437227405311 := by unfold Fnt rg INF; omega
theorem rg_max : rg 9218868437227405311 = 9218868437227405311 := by unfold rg; omega
theorem val_max : val 9218868437227405311 = (mag 9218868437227405311 : Int) := by
  rw [val_eq (b := 9218868437227405311) (s := false) rfl, rg_max]; rfl
theorem ord_max_fin {b : Nat} (h : Fnt b) : FloatKind.f64.format.order (absW b) 9218868437227405311 = some .lt ∨ FloatKind.f64.format.order (absW b) 9218868437227405311 = some .eq := by
  have hf := fin_absW.2 h
  have hle : mag (rg b) ≤ mag 9218868437227405311 := mag_le (by unfold Fnt INF at h; omega)
  by_cases e : mag (rg b) = mag 9218868437227405311
  · exact .inr (ord_eq hf fin_max (by rw [val_absW, val_max, e]))
  · exact .inl (ord_lt hf fin_max (by rw [val_absW, val_max]; exact Int.ofNat_lt.2 (by omega)))
theorem mIsInf_fin (b : Nat) (w : World) (h : Fnt b) (h64 : b < 2 ^ 64) :
    Calls Try.prog 64 #[.float .f64 b, .int .i64 0] w fun e w' => e = .returned (.bool false) ∧ w = w' := by
  rcases ord_max_fin h with h1 | h1
  all_goals
    go_enter Try.func64, Try.ntmps64
    go_wp2_with (go_at_call 66; refine (mAbs_any _ _ h64).mono ?_; rintro e w' ⟨rfl, rfl⟩)
    go_ret
    exact ⟨rfl, rfl⟩
theorem inf_absW {b : Nat} (h : Inf b) : Inf (absW b) := by unfold Inf; rw [rg_absW]; exact h
theorem nan_absW {b : Nat} (h : NaN b) : NaN (absW b) := by unfold NaN; rw [rg_absW]; exact h
theorem mIsInf_inf (b : Nat) (w : World) (h : Inf b) (h64 : b < 2 ^ 64) :
    Calls Try.prog 64 #[.float .f64 b, .int .i64 0] w fun e w' => e = .returned (.bool true) ∧ w = w' := by
  have h1 := ord_inf_fin (inf_absW h) fin_max
  rw [sg_absW, if_neg Bool.false_ne_true] at h1
  go_enter Try.func64, Try.ntmps64
  go_wp2_with (go_at_call 66; refine (mAbs_any _ _ h64).mono ?_; rintro e w' ⟨rfl, rfl⟩)
  go_ret
  exact ⟨rfl, rfl⟩
theorem mIsInf_nan (b : Nat) (w : World) (h : NaN b) (h64 : b < 2 ^ 64) :
    Calls Try.prog 64 #[.float .f64 b, .int .i64 0] w fun e w' => e = .returned (.bool false) ∧ w = w' := by
  have h1 := ord_nan_left 9218868437227405311 (nan_absW h)
  go_enter Try.func64, Try.ntmps64
  go_wp2_with (go_at_call 66; refine (mAbs_any _ _ h64).mono ?_; rintro e w' ⟨rfl, rfl⟩)
  go_ret
  exact ⟨rfl, rfl⟩
theorem frombits_lit (w : World) : (callFunc 72 #[.int .u64 9221120237041090561]).run Try.prog w = .ok (.value (.float .f64 9221120237041090561)) w := call_f64frombits 9221120237041090561 w
theorem mNaN_any (w : World) :
    Calls Try.prog 65 #[] w fun e w' => e = .returned (.float .f64 9221120237041090561) ∧ w = w' := by
  have h1 := fun u => frombits_lit u
  go_enter Try.func65, Try.ntmps65
  go_wp2
  go_ret
  exact ⟨rfl, rfl⟩
theorem nan_lit : NaN 9221120237041090561 := by unfold NaN rg INF; omega
/-! ### normalize -/
theorem fin_small : Fnt 4503599627370496 := by unfold Fnt rg INF; omega
theorem val_small : val 4503599627370496 = ((2 ^ 52 : Nat) : Int) := by
  rw [val_eq (b := 4503599627370496) (s := false) rfl, if_neg Bool.false_ne_true]
  have : rg 4503599627370496 = (0 + 1) * 2 ^ 52 := by unfold rg; omega
  rw [this, mag_of0, Nat.pow_zero, Nat.mul_one]
theorem mnormalize_big (b : Nat) (w : World) (h : Fnt b) (h64 : b < 2 ^ 64) (c : 2 ^ 52 ≤ mag (rg b)) :
    Calls Try.prog 68 #[.float .f64 b] w fun e w' => e = .returned (.tuple #[.float .f64 b, .int .i64 0]) ∧ w = w' := by
  have h1 : FloatKind.f64.format.order (absW b) 4503599627370496 = some .eq ∨ FloatKind.f64.format.order (absW b) 4503599627370496 = some .gt := by
    by_cases e : mag (rg b) = 2 ^ 52
    · exact .inl (ord_eq (fin_absW.2 h) fin_small (by rw [val_absW, val_small, e]))
    · exact .inr (ord_gt (fin_absW.2 h) fin_small (by rw [val_absW, val_small]; exact Int.ofNat_lt.2 (by omega)))
  clear c
  rcases h1 with h1 | h1
  all_goals
    go_enter Try.func68, Try.ntmps68
    go_wp2_with (go_at_call 66; refine (mAbs_any _ _ h64).mono ?_; rintro e w' ⟨rfl, rfl⟩)
    go_ret2
    exact ⟨rfl, rfl⟩
theorem mnormalize_small (b r : Nat) (w : World) (h : Fnt b) (h64 : b < 2 ^ 64) (c : mag (rg b) < 2 ^ 52) (hr : double.mul b 4841369599423283200 = some r) :
    Calls Try.prog 68 #[.float .f64 b] w fun e w' => e = .returned (.tuple #[.float .f64 r, .int .i64 (-52)]) ∧ w = w' := by
  have h1 := ord_lt (fin_absW.2 h) fin_small (by rw [val_absW, val_small]; exact Int.ofNat_lt.2 c)
  clear c
  go_enter Try.func68, Try.ntmps68
  go_wp2_with (go_at_call 66; refine (mAbs_any _ _ h64).mono ?_; rintro e w' ⟨rfl, rfl⟩)
  go_ret2
  exact ⟨rfl, rfl⟩
/-- What normalize gives: a normal word with the 53 digits M of x, and an exponent. -/
theorem mnormalize_any (b M e : Nat) (h : Fnt b) (h64 : b < 2 ^ 64) (h1 : 2 ^ 52 ≤ M) (h2 : M < 2 ^ 53) (h3 : mag (rg b) * 2 ^ 52 = M * 2 ^ e) :
    ∃ (E : Nat) (n : Int), n ≤ 0 ∧ -52 ≤ n ∧ E < 2047 ∧ 1 ≤ E ∧ n + E = e - 51 ∧ ∀ w, Calls Try.prog 68 #[.float .f64 b] w fun e' w' => e' = .returned (.tuple #[.float .f64 (wd (sg b) (E * 2 ^ 52 + (M - 2 ^ 52))), .int .i64 n]) ∧ w = w' := by
  rcases Nat.lt_or_ge (mag (rg b)) (2 ^ 52) with c | c
  · have hb : rg b < 2 ^ 52 := by
      rcases Nat.lt_or_ge (rg b) (2 ^ 52) with k | k
      · exact k
      · have := le_mag (rg b); omega
    have he : e ≤ 52 := by
      rcases Nat.lt_or_ge 52 e with k | k
      · have : 2 ^ 52 * 2 ^ 52 ≤ M * 2 ^ e := Nat.mul_le_mul h1 (Nat.pow_le_pow_right (by omega) (by omega))
        omega
      · exact k
    have hm : double.mul b 4841369599423283200 = some (wd (sg b) ((e + 1) * 2 ^ 52 + (M - 2 ^ 52))) := by
      have := mul_exact (t := (e + 1) * 2 ^ 52 + (M - 2 ^ 52)) h fin_lead (by rw [mag_lead, mag_norm h1 h2, ← h3, Nat.mul_assoc]) (by unfold INF; omega)
      rw [show sg 4841369599423283200 = false from rfl, Bool.xor_false] at this
      exact this
    exact ⟨e + 1, -52, by omega, by omega, by omega, by omega, by omega, fun w => mnormalize_small b _ w h h64 c hm⟩
  · obtain ⟨f, hf⟩ : ∃ f, e = f + 52 := by
      refine ⟨e - 52, ?_⟩
      rcases Nat.lt_or_ge e 52 with k | k
      · have : M * 2 ^ e < 2 ^ 53 * 2 ^ 51 := Nat.mul_lt_mul_of_lt_of_le h2 (Nat.pow_le_pow_right (by omega) (by omega)) (by omega)
        omega
      · omega
    subst hf
    have hmag : mag (rg b) = M * 2 ^ f := by
      rw [Nat.pow_add, ← Nat.mul_assoc] at h3
      exact Nat.eq_of_mul_eq_mul_right (Nat.two_pow_pos 52) h3
    have hrg : rg b = (f + 1) * 2 ^ 52 + (M - 2 ^ 52) := mag_inj (by rw [hmag, mag_norm h1 h2])
    have hlt : rg b < INF := h
    have hE : f + 1 < 2047 := by rw [hrg] at hlt; unfold INF at hlt; omega
    refine ⟨f + 1, 0, by omega, by omega, hE, by omega, by omega, fun w => ?_⟩
    rw [← hrg, wd_sg_rg h64]
    exact mnormalize_big b w h h64 c

/-! ### Frexp -/
/-- The fraction that Frexp gives. -/
def frW (s : Bool) (M : Nat) : Nat := wd s (1022 * 2 ^ 52 + (M - 2 ^ 52))
set_option maxRecDepth 100000 in
theorem frexp_core (b X E c d : Nat) (n : Int) (w : World) (h : Fnt b) (h64 : b < 2 ^ 64) (ho : FloatKind.f64.format.order b 0 = some .lt ∨ FloatKind.f64.format.order b 0 = some .gt)
    (hN : ∀ w, Calls Try.prog 68 #[.float .f64 b] w fun e' w' => e' = .returned (.tuple #[.float .f64 X, .int .i64 n]) ∧ w = w')
    (hE : bits .and .u64 ((X : Int) / 4503599627370496) 2047 = (E : Int)) (hE2 : E < 2047) (n1 : n ≤ 0) (n2 : -52 ≤ n)
    (hc : bits .andNot .u64 (X : Int) 9218868437227405312 = (c : Int)) (hd : bits .or .u64 (c : Int) 4602678819172646912 = (d : Int)) :
    Calls Try.prog 74 #[.float .f64 b] w fun e' w' => e' = .returned (.tuple #[.float .f64 d, .int .i64 (n + ((E : Int) - 1023 + 1))]) ∧ w = w' := by
  have hnn := fin_nan h
  rcases ho with ho | ho
  all_goals
    go_enter Try.func74, Try.ntmps74
    go_wp2_with (first | (go_at_call 64; refine (mIsInf_fin _ _ h h64).mono ?_; rintro e w' ⟨rfl, rfl⟩) | (go_at_call 63; refine (mIsNaN_no _ _ hnn).mono ?_; rintro e w' ⟨rfl, rfl⟩) | (go_at_call 68; refine (hN _).mono ?_; rintro e w' ⟨rfl, rfl⟩))
    go_ret2
    exact ⟨rfl, rfl⟩
theorem mFrexp_any (b M e : Nat) (w : World) (h : Fnt b) (h64 : b < 2 ^ 64) (hz : rg b ≠ 0) (h1 : 2 ^ 52 ≤ M) (h2 : M < 2 ^ 53) (h3 : mag (rg b) * 2 ^ 52 = M * 2 ^ e) :
    Calls Try.prog 67 #[.float .f64 b] w fun e' w' => e' = .returned (.tuple #[.float .f64 (frW (sg b) M), .int .i64 ((e : Int) - 1073)]) ∧ w = w' := by
  obtain ⟨E, n, n1, n2, e1, e2, hne, hN⟩ := mnormalize_any b M e h h64 h1 h2 h3
  have hf : M - 2 ^ 52 < 2 ^ 52 := by omega
  have hX : wd (sg b) (E * 2 ^ 52 + (M - 2 ^ 52)) < 2 ^ 64 := wd_lt _ (by omega)
  have hE := expo_bits hX
  rw [expo_wd (sg b) hf (by omega)] at hE
  have hc := clear_expo hX
  rw [sg_wd' (sg b) (by omega), frac_wd (sg b) hf (by omega)] at hc
  have hd : bits .or .u64 (wd (sg b) (M - 2 ^ 52) : Int) 4602678819172646912 = (wd (sg b) (1022 * 2 ^ 52 + (M - 2 ^ 52)) : Int) := by
    have := put_expo_bits (sg b) (E := 1022) hf (by omega)
    have e0 : ((1022 * 2 ^ 52 : Nat) : Int) = 4602678819172646912 := by omega
    rw [e0] at this
    exact this
  have hF := fun u => frexp_core b _ E _ _ n u h h64 (ord_nonzero (fin_nan h) hz) hN hE e1 n1 n2 hc hd
  rw [show n + ((E : Int) - 1023 + 1) = (e : Int) - 1073 by omega] at hF
  clear hN hE hc hd
  unfold frW
  generalize wd (sg b) (1022 * 2 ^ 52 + (M - 2 ^ 52)) = d at hF ⊢
  generalize (e : Int) - 1073 = q at hF ⊢
  clear h1 h2 h3 hne hX hf n1 n2 e1 e2 hz
  go_enter Try.func67, Try.ntmps67
  go_wp2_with (go_at_call 74; refine (hF _).mono ?_; rintro e w' ⟨rfl, rfl⟩)
  go_ret2
  exact ⟨rfl, rfl⟩
end Go.Proofs.Ytnegjfdaijnadaa
