/- Contracts of the reference's IsWhole, Floor, Ceil, Round, RoundToEven and Modf. Conditions: as each states. -/
import Derived.Test.YtnjcfcnmibadcaaFrc
namespace Go.Proofs.Ytnjcfcnmibadcaa
open Flt Ieee Go.RowKit

theorem IsWhole_yes (b : Nat) (w : World) (h : Fnt b) (h64 : b < 2 ^ 64) (c : mag (rg b) % U = 0) :
    Calls Try.prog 20 #[.float .f64 b] w fun e w' => e = .returned (.bool true) ∧ w = w' := by
  have ho := ord_trunc_eq h h64 c
  clear c
  go_enter Try.func20, Try.ntmps20
  go_wp2_with (first | (go_at_call 32; refine (isFinite_yes b _ h).mono ?_; rintro e w' ⟨rfl, rfl⟩) | (go_at_call 33; refine (whole_fin b _ h h64).mono ?_; rintro e w' ⟨rfl, rfl⟩))
  go_ret
  exact ⟨rfl, rfl⟩
theorem IsWhole_no (b : Nat) (w : World) (h : Fnt b) (h64 : b < 2 ^ 64) (c : mag (rg b) % U ≠ 0) :
    Calls Try.prog 20 #[.float .f64 b] w fun e w' => e = .returned (.bool false) ∧ w = w' := by
  have ho : FloatKind.f64.format.order (intW .zero b) b = some .lt ∨ FloatKind.f64.format.order (intW .zero b) b = some .gt := by
    cases hs : sg b
    · exact .inl (ord_trunc_lt h h64 hs c)
    · exact .inr (ord_trunc_gt h h64 hs c)
  clear c
  rcases ho with ho | ho
  all_goals
    go_enter Try.func20, Try.ntmps20
    go_wp2_with (first | (go_at_call 32; refine (isFinite_yes b _ h).mono ?_; rintro e w' ⟨rfl, rfl⟩) | (go_at_call 33; refine (whole_fin b _ h h64).mono ?_; rintro e w' ⟨rfl, rfl⟩))
    go_ret
    exact ⟨rfl, rfl⟩
theorem isInt_mod {r k : Nat} {s : Bool} (h : IsInt r s k) : mag (rg r) % U = 0 := by rw [h.2.2.2, Nat.mul_mod_left]
theorem IsWhole_int (r k : Nat) (s : Bool) (w : World) (h : IsInt r s k) :
    Calls Try.prog 20 #[.float .f64 r] w fun e w' => e = .returned (.bool true) ∧ w = w' := IsWhole_yes r w h.2.1 h.1 (isInt_mod h)
theorem sFloor_fin (b : Nat) (w : World) (h : Fnt b) (h64 : b < 2 ^ 64) :
    Calls Try.prog 29 #[.float .f64 b] w fun e w' => e = .returned (.float .f64 (intW .down b)) ∧ w = w' := by
  have hd := intW_int .down h h64
  rw [K_down] at hd
  have ht := truncW_int h h64
  by_cases c : mag (rg b) % U = 0
  · have ho := ord_trunc_eq h h64 c
    rw [if_neg (fun k => k.2 c), Nat.add_zero] at hd
    rw [isInt_eq hd ht]
    clear c hd ht
    go_enter Try.func29, Try.ntmps29
    go_wp2_with (first | (go_at_call 32; refine (isFinite_yes b _ h).mono ?_; rintro e w' ⟨rfl, rfl⟩) | (go_at_call 33; refine (whole_fin b _ h h64).mono ?_; rintro e w' ⟨rfl, rfl⟩))
    go_ret
    exact ⟨rfl, rfl⟩
  · cases hs : sg b
    · have ho := ord_trunc_lt h h64 hs c
      rw [if_neg (fun k => by rw [hs] at k; exact Bool.false_ne_true k.1), Nat.add_zero] at hd
      rw [isInt_eq hd ht]
      clear c hd ht
      go_enter Try.func29, Try.ntmps29
      go_wp2_with (first | (go_at_call 32; refine (isFinite_yes b _ h).mono ?_; rintro e w' ⟨rfl, rfl⟩) | (go_at_call 33; refine (whole_fin b _ h h64).mono ?_; rintro e w' ⟨rfl, rfl⟩))
      go_ret
      exact ⟨rfl, rfl⟩
    · have ho := ord_trunc_gt h h64 hs c
      rw [if_pos ⟨hs, c⟩, hs] at hd
      rw [hs] at ht
      obtain ⟨g, hg, hi⟩ := sub_one ht (by have := frac_div c; omega)
      rw [isInt_eq hd hi]
      clear c hd ht hi hs
      go_enter Try.func29, Try.ntmps29
      go_wp2_with (first | (go_at_call 32; refine (isFinite_yes b _ h).mono ?_; rintro e w' ⟨rfl, rfl⟩) | (go_at_call 33; refine (whole_fin b _ h h64).mono ?_; rintro e w' ⟨rfl, rfl⟩))
      go_ret
      exact ⟨rfl, rfl⟩
theorem sFloor_not (b : Nat) (w : World) (h : ¬ Fnt b) :
    Calls Try.prog 29 #[.float .f64 b] w fun e w' => e = .returned (.float .f64 b) ∧ w.drew = w' := by
  go_enter Try.func29, Try.ntmps29
  go_wp2_with (go_at_call 32; refine (isFinite_not b _ h).mono ?_; rintro e w' ⟨rfl, rfl⟩)
  go_ret
  exact ⟨rfl, rfl⟩
theorem further_yes (b r : Nat) (w : World) (h : Fnt b) (h64 : b < 2 ^ 64) (hr : IsInt r (sg b) (mag (rg b) / U + 1)) (hk : mag (rg b) / U < 2 ^ 53) :
    Calls Try.prog 35 #[.float .f64 b, .bool true] w fun e w' => e = .returned (.float .f64 r) ∧ w = w' := by
  have ht := truncW_int h h64
  obtain ⟨g, hg, hi⟩ := add_one (isInt_abs ht) hk
  have hn1 := fin_nan ht.2.1
  have hl1 := ht.1
  have hn := fin_nan h
  rw [isInt_eq hr (isInt_sgn (sg b) hi)]
  clear ht hi hr hk
  go_enter Try.func35, Try.ntmps35
  go_wp2_with (first | (go_at_call 33; refine (whole_fin b _ h h64).mono ?_; rintro e w' ⟨rfl, rfl⟩) | (go_at_call 43; refine (isNegative_num b _ hn).mono ?_; rintro e w' ⟨rfl, rfl⟩) | (go_at_call 36; (with_reducible refine (size_pos _ _ (by assumption) (by assumption)).mono ?_); rintro e w' ⟨rfl, rfl⟩) | (go_at_call 42; refine (signed_any _ _ _).mono ?_; rintro e w' ⟨rfl, rfl⟩))
  go_ret
  exact ⟨rfl, rfl⟩
theorem further_no (b r : Nat) (w : World) (h : Fnt b) (h64 : b < 2 ^ 64) (hr : IsInt r (sg b) (mag (rg b) / U)) :
    Calls Try.prog 35 #[.float .f64 b, .bool false] w fun e w' => e = .returned (.float .f64 r) ∧ w = w' := by
  have ht := truncW_int h h64
  have hn1 := fin_nan ht.2.1
  have hl1 := ht.1
  have hn := fin_nan h
  rw [isInt_eq hr (isInt_sgn (sg b) (isInt_abs ht))]
  clear ht hr
  go_enter Try.func35, Try.ntmps35
  go_wp2_with (first | (go_at_call 33; refine (whole_fin b _ h h64).mono ?_; rintro e w' ⟨rfl, rfl⟩) | (go_at_call 43; refine (isNegative_num b _ hn).mono ?_; rintro e w' ⟨rfl, rfl⟩) | (go_at_call 36; (with_reducible refine (size_pos _ _ (by assumption) (by assumption)).mono ?_); rintro e w' ⟨rfl, rfl⟩) | (go_at_call 42; refine (signed_any _ _ _).mono ?_; rintro e w' ⟨rfl, rfl⟩))
  go_ret
  exact ⟨rfl, rfl⟩
/-- The nearest integer, halves away from 0. -/
def awayW (b : Nat) : Nat := wd (sg b) (min (rd (Kaway (mag (rg b)) * U)) INF)
theorem awayW_int {b : Nat} (h : Fnt b) (h64 : b < 2 ^ 64) : IsInt (awayW b) (sg b) (Kaway (mag (rg b))) := round_int h h64 (Kaway_form _)
theorem sRound_fin (b : Nat) (w : World) (h : Fnt b) (h64 : b < 2 ^ 64) :
    Calls Try.prog 22 #[.float .f64 b] w fun e w' => e = .returned (.float .f64 (awayW b)) ∧ w = w' := by
  have hw := awayW_int h h64
  have ht := truncW_int h h64
  have hn1 := fin_nan ht.2.1
  have hl1 := ht.1
  have hn := fin_nan h
  have hsub := sub_frac h h64
  have hU := U_pos
  unfold Kaway at hw
  by_cases c : U ≤ 2 * (mag (rg b) % U)
  · have ho : FloatKind.f64.format.order (fracW b) 4602678819172646912 = some .eq ∨ FloatKind.f64.format.order (fracW b) 4602678819172646912 = some .gt := by
      by_cases e : 2 * (mag (rg b) % U) = U
      · exact .inl (ord_half_eq b e)
      · exact .inr (ord_half_gt b (by omega))
    rw [if_pos c] at hw
    have hk : mag (rg b) / U < 2 ^ 53 := by have := frac_div (r := rg b) (by omega); omega
    have hf := fun u => further_yes b (awayW b) u h h64 hw hk
    clear c ht hw hk hU
    rcases ho with ho | ho
    all_goals
      go_enter Try.func22, Try.ntmps22
      go_wp2_with (first | (go_at_call 32; refine (isFinite_yes b _ h).mono ?_; rintro e w' ⟨rfl, rfl⟩) | (go_at_call 33; refine (whole_fin b _ h h64).mono ?_; rintro e w' ⟨rfl, rfl⟩) | (go_at_call 36; (with_reducible refine (size_pos _ _ (by assumption) (by assumption)).mono ?_); rintro e w' ⟨rfl, rfl⟩) | (go_at_call 35; refine (hf _).mono ?_; rintro e w' ⟨rfl, rfl⟩))
      go_ret
      exact ⟨rfl, rfl⟩
  · have ho := ord_half_lt b (by omega)
    rw [if_neg c, Nat.add_zero] at hw
    have hf := fun u => further_no b (awayW b) u h h64 hw
    clear c ht hw hU
    go_enter Try.func22, Try.ntmps22
    go_wp2_with (first | (go_at_call 32; refine (isFinite_yes b _ h).mono ?_; rintro e w' ⟨rfl, rfl⟩) | (go_at_call 33; refine (whole_fin b _ h h64).mono ?_; rintro e w' ⟨rfl, rfl⟩) | (go_at_call 36; (with_reducible refine (size_pos _ _ (by assumption) (by assumption)).mono ?_); rintro e w' ⟨rfl, rfl⟩) | (go_at_call 35; refine (hf _).mono ?_; rintro e w' ⟨rfl, rfl⟩))
    go_ret
    exact ⟨rfl, rfl⟩
theorem sRound_not (b : Nat) (w : World) (h : ¬ Fnt b) :
    Calls Try.prog 22 #[.float .f64 b] w fun e w' => e = .returned (.float .f64 b) ∧ w.drew = w' := by
  go_enter Try.func22, Try.ntmps22
  go_wp2_with (go_at_call 32; refine (isFinite_not b _ h).mono ?_; rintro e w' ⟨rfl, rfl⟩)
  go_ret
  exact ⟨rfl, rfl⟩
theorem cutI_int {r k : Nat} {s : Bool} (h : IsInt r s k) : cutI r = if s then -(k : Int) else (k : Int) := by
  unfold cutI
  rw [h.2.2.1, h.2.2.2, Nat.mul_div_cancel _ U_pos]
theorem tmod_two (s : Bool) (q : Nat) : ((if s then -(q : Int) else (q : Int)).tmod 2 == 0) = decide (q % 2 = 0) := by
  have e1 : ((q : Int)).tmod 2 = ((q % 2 : Nat) : Int) := rfl
  have e2 : (-(q : Int)).tmod 2 = -((q % 2 : Nat) : Int) := by rw [Int.neg_tmod, e1]
  have hq : q % 2 = 0 ∨ q % 2 = 1 := by omega
  cases s
  · rw [if_neg Bool.false_ne_true, e1]; rcases hq with h | h <;> rw [h] <;> rfl
  · rw [if_pos rfl, e2]; rcases hq with h | h <;> rw [h] <;> rfl
theorem sRoundToEven_fin (b : Nat) (w : World) (h : Fnt b) (h64 : b < 2 ^ 64) :
    Calls Try.prog 24 #[.float .f64 b] w fun e w' => e = .returned (.float .f64 (intW .even b)) ∧ w = w' := by
  have hw := intW_int .even h h64
  rw [K_even] at hw
  have ht := truncW_int h h64
  have hn1 := fin_nan ht.2.1
  have hl1 := ht.1
  have hn := fin_nan h
  have hsub := sub_frac h h64
  have hU := U_pos
  rcases Nat.lt_trichotomy (2 * (mag (rg b) % U)) U with c | c | c
  · have ho := ord_half_lt b c
    rw [if_neg (by omega), Nat.add_zero] at hw
    have hf := fun u => further_no b (intW .even b) u h h64 hw
    clear c ht hw hU
    go_enter Try.func24, Try.ntmps24
    go_wp2_with (first | (go_at_call 32; refine (isFinite_yes b _ h).mono ?_; rintro e w' ⟨rfl, rfl⟩) | (go_at_call 33; refine (whole_fin b _ h h64).mono ?_; rintro e w' ⟨rfl, rfl⟩) | (go_at_call 36; (with_reducible refine (size_pos _ _ (by assumption) (by assumption)).mono ?_); rintro e w' ⟨rfl, rfl⟩) | (go_at_call 35; refine (hf _).mono ?_; rintro e w' ⟨rfl, rfl⟩))
    go_ret
    exact ⟨rfl, rfl⟩
  · have ho := ord_half_eq b c
    have hk : mag (rg b) / U < 2 ^ 53 := by have := frac_div (r := rg b) (by omega); omega
    have hc : floatToIntVal .f64 (intW .zero b) .i64 = some (cutI (intW .zero b)) := toI64 ht.2.1 (by rw [ht.2.2.2, Nat.mul_div_cancel _ U_pos]; omega)
    have hci := cutI_int ht
    by_cases o : mag (rg b) / U % 2 = 1
    · rw [if_pos (.inr ⟨c.symm, o⟩)] at hw
      have hf := fun u => further_yes b (intW .even b) u h h64 hw hk
      have hm : ((cutI (intW .zero b)).tmod 2 == 0) = false := by
        rw [hci, tmod_two]; exact decide_eq_false (by omega)
      have hm2 : ((cutI (intW .zero b)).tmod 2 != 0) = true := by
        simp only [bne, hm, Bool.not_false]
      generalize cutI (intW .zero b) = z at hc hm hm2
      clear c ht hw hU hci o hk
      go_enter Try.func24, Try.ntmps24
      go_wp2_with (first | (go_at_call 32; refine (isFinite_yes b _ h).mono ?_; rintro e w' ⟨rfl, rfl⟩) | (go_at_call 33; refine (whole_fin b _ h h64).mono ?_; rintro e w' ⟨rfl, rfl⟩) | (go_at_call 36; (with_reducible refine (size_pos _ _ (by assumption) (by assumption)).mono ?_); rintro e w' ⟨rfl, rfl⟩) | (go_at_call 35; refine (hf _).mono ?_; rintro e w' ⟨rfl, rfl⟩))
      go_ret
      exact ⟨rfl, rfl⟩
    · rw [if_neg (by omega), Nat.add_zero] at hw
      have hf := fun u => further_no b (intW .even b) u h h64 hw
      have hm : ((cutI (intW .zero b)).tmod 2 == 0) = true := by
        rw [hci, tmod_two]; exact decide_eq_true (by omega)
      have hm2 : ((cutI (intW .zero b)).tmod 2 != 0) = false := by
        simp only [bne, hm, Bool.not_true]
      generalize cutI (intW .zero b) = z at hc hm hm2
      clear c ht hw hU hci o hk
      go_enter Try.func24, Try.ntmps24
      go_wp2_with (first | (go_at_call 32; refine (isFinite_yes b _ h).mono ?_; rintro e w' ⟨rfl, rfl⟩) | (go_at_call 33; refine (whole_fin b _ h h64).mono ?_; rintro e w' ⟨rfl, rfl⟩) | (go_at_call 36; (with_reducible refine (size_pos _ _ (by assumption) (by assumption)).mono ?_); rintro e w' ⟨rfl, rfl⟩) | (go_at_call 35; refine (hf _).mono ?_; rintro e w' ⟨rfl, rfl⟩))
      go_ret
      exact ⟨rfl, rfl⟩
  · have ho := ord_half_gt b c
    have hk : mag (rg b) / U < 2 ^ 53 := by have := frac_div (r := rg b) (by omega); omega
    rw [if_pos (.inl c)] at hw
    have hf := fun u => further_yes b (intW .even b) u h h64 hw hk
    clear c ht hw hU hk
    go_enter Try.func24, Try.ntmps24
    go_wp2_with (first | (go_at_call 32; refine (isFinite_yes b _ h).mono ?_; rintro e w' ⟨rfl, rfl⟩) | (go_at_call 33; refine (whole_fin b _ h h64).mono ?_; rintro e w' ⟨rfl, rfl⟩) | (go_at_call 36; (with_reducible refine (size_pos _ _ (by assumption) (by assumption)).mono ?_); rintro e w' ⟨rfl, rfl⟩) | (go_at_call 35; refine (hf _).mono ?_; rintro e w' ⟨rfl, rfl⟩))
    go_ret
    exact ⟨rfl, rfl⟩
theorem sRoundToEven_not (b : Nat) (w : World) (h : ¬ Fnt b) :
    Calls Try.prog 24 #[.float .f64 b] w fun e w' => e = .returned (.float .f64 b) ∧ w.drew = w' := by
  go_enter Try.func24, Try.ntmps24
  go_wp2_with (go_at_call 32; refine (isFinite_not b _ h).mono ?_; rintro e w' ⟨rfl, rfl⟩)
  go_ret
  exact ⟨rfl, rfl⟩
end Go.Proofs.Ytnjcfcnmibadcaa
