/- Contracts of the library's Float64bits, Float64frombits, Copysign and of math.Modf through impl. Conditions: as each states. -/
import Derived.Test.YtnjcfcnmibadcaaRef
import Derived.Laws.BitsAllLaws
namespace Go.Proofs.Ytnjcfcnmibadcaa
open Flt Ieee Go.RowKit

@[go_sem] theorem call_f64bits (b : Nat) (w : World) : (callFunc 49 #[.float .f64 b]).run Try.prog w = .ok (.value (.int .u64 (b : Int))) w := by
  rw [run_callFunc_extern Try.func49 (by kernel_rfl) (by kernel_rfl) (by kernel_rfl) (e := Extern.MathFloatBits.float64bits) (by kernel_rfl)]; rfl
@[go_sem] theorem call_f64frombits (b : Nat) (w : World) : (callFunc 50 #[.int .u64 (b : Int)]).run Try.prog w = .ok (.value (.float .f64 b)) w := by
  rw [run_callFunc_extern Try.func50 (by kernel_rfl) (by kernel_rfl) (by kernel_rfl) (e := Extern.MathFloatBits.float64frombits) (by kernel_rfl)]; rfl

theorem and_top {b : Nat} (h : b < 2 ^ 64) : b &&& 9223372036854775808 = if sg b then 9223372036854775808 else 0 := by
  have hb := wd_sg_rg h
  have hr : rg b < 2 ^ 63 := rg_lt b
  generalize sg b = s at hb ⊢
  generalize rg b = r at hb hr ⊢
  subst hb
  have key : r &&& 2 ^ 63 = 0 := by
    apply Nat.eq_of_testBit_eq
    intro i
    rw [Nat.testBit_and, Nat.testBit_two_pow, Nat.zero_testBit]
    by_cases c : 63 = i
    · subst c; rw [Nat.testBit_lt_two_pow hr]; rfl
    · simp [c]
  cases s
  · exact key
  · have e : wd true r = 2 ^ 63 ||| r := or_top hr
    rw [e]
    show (2 ^ 63 ||| r) &&& 2 ^ 63 = 2 ^ 63
    rw [Nat.and_or_distrib_right, key, Nat.and_self, Nat.or_zero]
theorem and_low {b : Nat} : b &&& 9223372036854775807 = rg b := Nat.and_two_pow_sub_one_eq_mod b 63
theorem sign_and {b : Nat} (h : b < 2 ^ 64) : bits .and .u64 (b : Int) 9223372036854775808 = ((if sg b then 9223372036854775808 else 0 : Nat) : Int) := by
  rw [← and_top h]; exact u64_and_nat b 9223372036854775808 h (by omega)
theorem sign_andNot {b : Nat} (h : b < 2 ^ 64) : bits .andNot .u64 (b : Int) 9223372036854775808 = (rg b : Int) := by
  rw [← and_low]; exact u64_andNot_nat b 9223372036854775808 h (by omega)
theorem sign_or (s : Bool) {r : Nat} (h : r < 9223372036854775808) : bits .or .u64 (r : Int) ((if s then 9223372036854775808 else 0 : Nat) : Int) = (wd s r : Int) := by
  cases s
  · rw [if_neg Bool.false_ne_true, u64_or_nat r 0 (by omega) (by omega), Nat.or_zero]; rfl
  · rw [if_pos rfl, u64_or_nat r 9223372036854775808 (by omega) (by omega), Nat.or_comm]
    congr 1
    exact (or_top h).symm

theorem Copysign_any (x y : Nat) (w : World) (hx : x < 2 ^ 64) (hy : y < 2 ^ 64) :
    Calls Try.prog 51 #[.float .f64 x, .float .f64 y] w fun e w' => e = .returned (.float .f64 (wd (sg y) (rg x))) ∧ w = w' := by
  have h1 := sign_andNot hx
  have h2 := sign_and hy
  have h3 := sign_or (sg y) (rg_lt x)
  generalize ((if sg y then 9223372036854775808 else 0 : Nat) : Int) = z at h2 h3
  go_enter Try.func51, Try.ntmps51
  go_wp2
  go_ret
  exact ⟨rfl, rfl⟩
/-- The fraction of a word, with its sign. -/
def fracS (b : Nat) : Nat := wd (sg b) (rg (fracW b))
theorem fracS_spec (b : Nat) : Fnt (fracS b) ∧ sg (fracS b) = sg b ∧ mag (rg (fracS b)) = mag (rg b) % U ∧ fracS b < 2 ^ 64 := by
  have h := fracW_spec b
  unfold fracS
  refine ⟨?_, sg_wd _ (rg_lt _), ?_, wd_lt _ (rg_lt _)⟩
  · unfold Fnt; rw [rg_wd _ (rg_lt _)]; exact h.1
  · rw [rg_wd _ (rg_lt _)]; exact h.2.2.2.1
theorem fracS_sgn (b : Nat) : sgnW (sg b) (fracW b) = fracS b := by
  have h := fracW_spec b
  unfold fracS
  cases hs : sg b
  · show fracW b = wd false (rg (fracW b))
    rw [← h.2.2.1, wd_sg_rg h.2.2.2.2]
  · show negW (fracW b) = wd true (rg (fracW b))
    rw [negW_eq h.2.2.2.2, h.2.2.1]; rfl
theorem sub_trunc {b : Nat} (h : Fnt b) (h64 : b < 2 ^ 64) : ∃ g, double.sub b (intW .zero b) = some g ∧ g < 2 ^ 64 ∧ wd (sg b) (rg g) = fracS b := by
  have ht := truncW_int h h64
  refine ⟨_, sub_fin h ht.2.1, near_lt _ _, ?_⟩
  unfold fracS fracW
  rw [rg_near, rg_near]
  have : (val b - val (intW .zero b)).natAbs = ((mag (rg b) % U : Nat) : Int).natAbs := by
    have := qf (mag (rg b))
    rw [isInt_val ht, val_eq rfl]
    cases sg b
    · rw [if_neg Bool.false_ne_true, if_neg Bool.false_ne_true]; omega
    · rw [if_pos rfl, if_pos rfl]; omega
  rw [this]
theorem mModf_fin (b : Nat) (w : World) (h : Fnt b) (h64 : b < 2 ^ 64) :
    Calls Try.prog 44 #[.float .f64 b] w fun e w' => e = .returned (.tuple #[.float .f64 (intW .zero b), .float .f64 (fracS b)]) ∧ w = w' := by
  obtain ⟨g, hg, hl, he⟩ := sub_trunc h h64
  rw [← he]
  clear he
  go_enter Try.func44, Try.ntmps44
  go_wp2_with (first | (go_at_call 34; refine (mTrunc_fin b _ h).mono ?_; rintro e w' ⟨rfl, rfl⟩) | (go_at_call 51; refine (Copysign_any _ _ _ hl h64).mono ?_; rintro e w' ⟨rfl, rfl⟩))
  go_ret2
  exact ⟨rfl, rfl⟩
theorem Modf_fin (b : Nat) (w : World) (h : Fnt b) (h64 : b < 2 ^ 64) :
    Calls Try.prog 27 #[.float .f64 b] w fun e w' => e = .returned (.tuple #[.float .f64 (intW .zero b), .float .f64 (fracS b)]) ∧ w = w' := by
  go_enter Try.func27, Try.ntmps27
  go_wp2_with (go_at_call 44; refine (mModf_fin b _ h h64).mono ?_; rintro e w' ⟨rfl, rfl⟩)
  go_ret2
  exact ⟨rfl, rfl⟩
/-- Two words are returned, the second one a not-a-number, the first one as told; the world has at most drawn. -/
def RetPair (P : Nat → Prop) (w : World) (e : Ending) (w' : World) : Prop := ∃ r s n, P r ∧ NaN s ∧ e = .returned (.tuple #[.float .f64 r, .float .f64 s]) ∧ w' = w.drewN n
theorem nan_wd (s : Bool) {r : Nat} (h : NaN r) : NaN (wd s (rg r)) := by unfold NaN; rw [rg_wd s (rg_lt r)]; exact h
theorem Modf_inf (b : Nat) (w : World) (h : Inf b) (h64 : b < 2 ^ 64) :
    Calls Try.prog 27 #[.float .f64 b] w (RetPair (fun r => r = b) w) := by
  have h1 := fun (u : World) (t : TypeId) => run_sub_nan (P := Try.prog) u t (sub_inf_self h)
  have hm : Calls Try.prog 44 #[.float .f64 b] w (RetPair (fun r => r = b) w) := by
    go_enter Try.func44, Try.ntmps44
    go_wp2_with (first | (go_at_call 34; refine (mTrunc_inf b _ h h64).mono ?_; rintro e w' ⟨rfl, rfl⟩) | (go_at_call 51; refine (Copysign_any _ _ _ (tapeNaN_lt _ _ _) h64).mono ?_; rintro e w' ⟨rfl, rfl⟩))
    go_ret2
    exact ⟨b, _, 1, rfl, nan_wd _ (tapeNaN_nan _ _ _), rfl, rfl⟩
  go_enter Try.func27, Try.ntmps27
  go_wp2_with (go_at_call 44; refine hm.mono ?_; rintro e w' ⟨r, s, n, rfl, hs, rfl, rfl⟩)
  go_ret2
  exact ⟨_, s, n, rfl, hs, rfl, rfl⟩
theorem Modf_nan (b : Nat) (w : World) (h : NaN b) (h64 : b < 2 ^ 64) :
    Calls Try.prog 27 #[.float .f64 b] w (RetPair NaN w) := by
  have h1 := fun (u : World) (t : TypeId) (r : Nat) => run_sub_nan (P := Try.prog) u t (sub_nan_left r h)
  have hm : Calls Try.prog 44 #[.float .f64 b] w (RetPair NaN w) := by
    go_enter Try.func44, Try.ntmps44
    go_wp2_with (first | (go_at_call 34; refine (mTrunc_nan b _ h h64).mono ?_; rintro e w' ⟨r, n, hr, hl, rfl, rfl⟩) | (go_at_call 51; refine (Copysign_any _ _ _ (tapeNaN_lt _ _ _) h64).mono ?_; rintro e w' ⟨rfl, rfl⟩))
    go_ret2
    exact ⟨r, _, n + 1, hr, nan_wd _ (tapeNaN_nan _ _ _), rfl, rfl⟩
  go_enter Try.func27, Try.ntmps27
  go_wp2_with (go_at_call 44; refine hm.mono ?_; rintro e w' ⟨r, s, n, hr, hs, rfl, rfl⟩)
  go_ret2
  exact ⟨_, s, n, hr, hs, rfl, rfl⟩
theorem isNothing_yes (b : Nat) (w : World) (h : NaN b) :
    Calls Try.prog 39 #[.float .f64 b] w fun e w' => e = .returned (.bool true) ∧ w = w' := by
  have h1 := ord_nan_left b h
  go_enter Try.func39, Try.ntmps39
  go_wp2
  go_ret
  exact ⟨rfl, rfl⟩
theorem isNothing_no (b : Nat) (w : World) (h : ¬ NaN b) :
    Calls Try.prog 39 #[.float .f64 b] w fun e w' => e = .returned (.bool false) ∧ w = w' := by
  have h1 := ord_self h
  go_enter Try.func39, Try.ntmps39
  go_wp2
  go_ret
  exact ⟨rfl, rfl⟩
theorem isInfinity_yes (b : Nat) (w : World) (h : Inf b) :
    Calls Try.prog 40 #[.float .f64 b] w fun e w' => e = .returned (.bool true) ∧ w.drew = w' := by
  have h0 := ord_self (inf_nan h)
  have h1 := fun (u : World) (t : TypeId) => run_sub_nan (P := Try.prog) u t (sub_inf_self h)
  have h2 : FloatKind.f64.format.order (tapeNaN w b b) 0 = none := ord_nan_left 0 (tapeNaN_nan w b b)
  go_enter Try.func40, Try.ntmps40
  go_wp2
  go_ret
  exact ⟨rfl, rfl⟩
theorem isInfinity_fin (b : Nat) (w : World) (h : Fnt b) :
    Calls Try.prog 40 #[.float .f64 b] w fun e w' => e = .returned (.bool false) ∧ w = w' := by
  have h0 := ord_self (fin_nan h)
  obtain ⟨r, h1, h2⟩ := sub_self h
  go_enter Try.func40, Try.ntmps40
  go_wp2
  go_ret
  exact ⟨rfl, rfl⟩
theorem isInfinity_nan (b : Nat) (w : World) (h : NaN b) :
    Calls Try.prog 40 #[.float .f64 b] w fun e w' => e = .returned (.bool false) ∧ w = w' := by
  have h0 := ord_nan_left b h
  go_enter Try.func40, Try.ntmps40
  go_wp2
  go_ret
  exact ⟨rfl, rfl⟩
theorem div_zero_zero : double.div 0 0 = none := rfl
theorem nothing_any (w : World) :
    Calls Try.prog 41 #[] w fun e w' => e = .returned (.float .f64 (tapeNaN w 0 0)) ∧ w.drew = w' := by
  have h1 := fun (u : World) (t : TypeId) => run_quo_nan (P := Try.prog) u t div_zero_zero
  go_enter Try.func41, Try.ntmps41
  go_wp2
  go_ret
  exact ⟨rfl, rfl⟩
theorem sModf_fin (b : Nat) (w : World) (h : Fnt b) (h64 : b < 2 ^ 64) :
    Calls Try.prog 26 #[.float .f64 b] w fun e w' => e = .returned (.tuple #[.float .f64 (intW .zero b), .float .f64 (fracS b)]) ∧ w = w' := by
  have ht := truncW_int h h64
  have hn1 := fin_nan ht.2.1
  have hl1 := ht.1
  have hn := fin_nan h
  have hsub := sub_frac h h64
  rw [← fracS_sgn]
  clear ht
  go_enter Try.func26, Try.ntmps26
  go_wp2_with (first | (go_at_call 39; refine (isNothing_no b _ hn).mono ?_; rintro e w' ⟨rfl, rfl⟩) | (go_at_call 40; refine (isInfinity_fin b _ h).mono ?_; rintro e w' ⟨rfl, rfl⟩) | (go_at_call 33; refine (whole_fin b _ h h64).mono ?_; rintro e w' ⟨rfl, rfl⟩) | (go_at_call 43; refine (isNegative_num b _ hn).mono ?_; rintro e w' ⟨rfl, rfl⟩) | (go_at_call 36; (with_reducible refine (size_pos _ _ (by assumption) (by assumption)).mono ?_); rintro e w' ⟨rfl, rfl⟩) | (go_at_call 42; refine (signed_any _ _ _).mono ?_; rintro e w' ⟨rfl, rfl⟩))
  go_ret2
  exact ⟨rfl, rfl⟩
theorem sModf_inf (b : Nat) (w : World) (h : Inf b) :
    Calls Try.prog 26 #[.float .f64 b] w (RetPair (fun r => r = b) w) := by
  have hn := inf_nan h
  go_enter Try.func26, Try.ntmps26
  go_wp2_with (first | (go_at_call 39; refine (isNothing_no b _ hn).mono ?_; rintro e w' ⟨rfl, rfl⟩) | (go_at_call 40; refine (isInfinity_yes b _ h).mono ?_; rintro e w' ⟨rfl, rfl⟩) | (go_at_call 41; refine (nothing_any _).mono ?_; rintro e w' ⟨rfl, rfl⟩))
  go_ret2
  exact ⟨b, _, 2, rfl, tapeNaN_nan _ _ _, rfl, rfl⟩
theorem sModf_nan (b : Nat) (w : World) (h : NaN b) :
    Calls Try.prog 26 #[.float .f64 b] w fun e w' => e = .returned (.tuple #[.float .f64 b, .float .f64 b]) ∧ w = w' := by
  go_enter Try.func26, Try.ntmps26
  go_wp2_with (go_at_call 39; refine (isNothing_yes b _ h).mono ?_; rintro e w' ⟨rfl, rfl⟩)
  go_ret2
  exact ⟨rfl, rfl⟩
end Go.Proofs.Ytnjcfcnmibadcaa
