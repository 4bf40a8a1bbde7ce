/- Contracts of the reference's IsWhole, Floor, Ceil, Round, RoundToEven and Modf. Conditions: as each states. -/
import Derived.Test.YtaabgcncacdnoaaFrc
namespace Go.Proofs.Ytaabgcncacdnoaa
open Flt Ieee Go.RowKit

theorem IsWhole_yes (b : Nat) (w : World) (h : Fnt b) (h64 : b < 2 ^ 64) (c : mag (rg b) % U = 0) :
    Calls Try.prog 25 #[.float .f64 b] w fun e w' => e = .returned (.bool true) ∧ w = w' := by
  have ho := ord_trunc_eq h h64 c
  clear c
  go_enter Try.func25, Try.ntmps25
  go_wp2_with (first | (go_at_call 26; refine (isFinite_yes b _ h).mono ?_; rintro e w' ⟨rfl, rfl⟩) | (go_at_call 27; refine (whole_fin b _ h h64).mono ?_; rintro e w' ⟨rfl, rfl⟩))
  go_ret
  exact ⟨rfl, rfl⟩
theorem IsWhole_no (b : Nat) (w : World) (h : Fnt b) (h64 : b < 2 ^ 64) (c : mag (rg b) % U ≠ 0) :
    Calls Try.prog 25 #[.float .f64 b] w fun e w' => e = .returned (.bool false) ∧ w = w' := by
  have ho : FloatKind.f64.format.order (intW .zero b) b = some .lt ∨ FloatKind.f64.format.order (intW .zero b) b = some .gt := by
    cases hs : sg b
    · exact .inl (ord_trunc_lt h h64 hs c)
    · exact .inr (ord_trunc_gt h h64 hs c)
  clear c
  rcases ho with ho | ho
  all_goals
    go_enter Try.func25, Try.ntmps25
    go_wp2_with (first | (go_at_call 26; refine (isFinite_yes b _ h).mono ?_; rintro e w' ⟨rfl, rfl⟩) | (go_at_call 27; refine (whole_fin b _ h h64).mono ?_; rintro e w' ⟨rfl, rfl⟩))
    go_ret
    exact ⟨rfl, rfl⟩
theorem isInt_mod {r k : Nat} {s : Bool} (h : IsInt r s k) : mag (rg r) % U = 0 := by rw [h.2.2.2, Nat.mul_mod_left]
theorem IsWhole_int (r k : Nat) (s : Bool) (w : World) (h : IsInt r s k) :
    Calls Try.prog 25 #[.float .f64 r] w fun e w' => e = .returned (.bool true) ∧ w = w' := IsWhole_yes r w h.2.1 h.1 (isInt_mod h)
theorem sCeil_fin (b : Nat) (w : World) (h : Fnt b) (h64 : b < 2 ^ 64) :
    Calls Try.prog 14 #[.float .f64 b] w fun e w' => e = .returned (.float .f64 (intW .up b)) ∧ w = w' := by
  have hd := intW_int .up h h64
  rw [K_up] at hd
  have ht := truncW_int h h64
  have hn := fin_nan h
  by_cases c : mag (rg b) % U = 0
  · have ho := ord_trunc_eq h h64 c
    rw [if_neg (fun k => k.2 c), Nat.add_zero] at hd
    have hn1 := fin_nan ht.2.1
    have hl1 := ht.1
    rw [isInt_eq hd (isInt_sgn (sg b) (isInt_abs ht))]
    clear c hd ht
    go_enter Try.func14, Try.ntmps14
    go_wp2_with (first | (go_at_call 26; refine (isFinite_yes b _ h).mono ?_; rintro e w' ⟨rfl, rfl⟩) | (go_at_call 27; refine (whole_fin b _ h h64).mono ?_; rintro e w' ⟨rfl, rfl⟩) | (go_at_call 29; refine (isNegative_num b _ hn).mono ?_; rintro e w' ⟨rfl, rfl⟩) | (go_at_call 30; (with_reducible refine (size_pos _ _ (by assumption) (by assumption)).mono ?_); rintro e w' ⟨rfl, rfl⟩) | (go_at_call 28; refine (signed_any _ _ _).mono ?_; rintro e w' ⟨rfl, rfl⟩))
    go_ret
    exact ⟨rfl, rfl⟩
  · cases hs : sg b
    · have ho := ord_trunc_lt h h64 hs c
      rw [if_pos ⟨hs, c⟩, hs] at hd
      rw [hs] at ht
      obtain ⟨g, hg, hi⟩ := add_one ht (by have := frac_div c; omega)
      have hn1 := fin_nan hi.2.1
      have hl1 := hi.1
      rw [isInt_eq hd (isInt_sgn false (isInt_abs hi)), ← hs]
      clear c hd ht hi hs
      go_enter Try.func14, Try.ntmps14
      go_wp2_with (first | (go_at_call 26; refine (isFinite_yes b _ h).mono ?_; rintro e w' ⟨rfl, rfl⟩) | (go_at_call 27; refine (whole_fin b _ h h64).mono ?_; rintro e w' ⟨rfl, rfl⟩) | (go_at_call 29; refine (isNegative_num b _ hn).mono ?_; rintro e w' ⟨rfl, rfl⟩) | (go_at_call 30; (with_reducible refine (size_pos _ _ (by assumption) (by assumption)).mono ?_); rintro e w' ⟨rfl, rfl⟩) | (go_at_call 28; refine (signed_any _ _ _).mono ?_; rintro e w' ⟨rfl, rfl⟩))
      go_ret
      exact ⟨rfl, rfl⟩
    · have ho := ord_trunc_gt h h64 hs c
      rw [if_neg (fun k => by rw [hs] at k; exact Bool.noConfusion k.1), Nat.add_zero] at hd
      have hn1 := fin_nan ht.2.1
      have hl1 := ht.1
      rw [isInt_eq hd (isInt_sgn (sg b) (isInt_abs ht))]
      clear c hd ht hs
      go_enter Try.func14, Try.ntmps14
      go_wp2_with (first | (go_at_call 26; refine (isFinite_yes b _ h).mono ?_; rintro e w' ⟨rfl, rfl⟩) | (go_at_call 27; refine (whole_fin b _ h h64).mono ?_; rintro e w' ⟨rfl, rfl⟩) | (go_at_call 29; refine (isNegative_num b _ hn).mono ?_; rintro e w' ⟨rfl, rfl⟩) | (go_at_call 30; (with_reducible refine (size_pos _ _ (by assumption) (by assumption)).mono ?_); rintro e w' ⟨rfl, rfl⟩) | (go_at_call 28; refine (signed_any _ _ _).mono ?_; rintro e w' ⟨rfl, rfl⟩))
      go_ret
      exact ⟨rfl, rfl⟩
theorem sCeil_not (b : Nat) (w : World) (h : ¬ Fnt b) :
    Calls Try.prog 14 #[.float .f64 b] w fun e w' => e = .returned (.float .f64 b) ∧ w.drew = w' := by
  go_enter Try.func14, Try.ntmps14
  go_wp2_with (go_at_call 26; refine (isFinite_not b _ h).mono ?_; rintro e w' ⟨rfl, rfl⟩)
  go_ret
  exact ⟨rfl, rfl⟩
end Go.Proofs.Ytaabgcncacdnoaa
