/- Contracts of the library's Float64bits, Float64frombits, Copysign and of math.Modf through impl. Conditions: as each states. -/
import Derived.Test.YtnegjfdaijnadaaRef
import Derived.Laws.BitsAllLaws
namespace Go.Proofs.Ytnegjfdaijnadaa
open Flt Ieee Go.RowKit

@[go_sem] theorem call_f64bits (b : Nat) (w : World) : (callFunc 69 #[.float .f64 b]).run Try.prog w = .ok (.value (.int .u64 (b : Int))) w := by
  rw [run_callFunc_extern Try.func69 (by kernel_rfl) (by kernel_rfl) (by kernel_rfl) (e := Extern.MathFloatBits.float64bits) (by kernel_rfl)]; rfl
@[go_sem] theorem call_f64frombits (b : Nat) (w : World) : (callFunc 72 #[.int .u64 (b : Int)]).run Try.prog w = .ok (.value (.float .f64 b)) w := by
  rw [run_callFunc_extern Try.func72 (by kernel_rfl) (by kernel_rfl) (by kernel_rfl) (e := Extern.MathFloatBits.float64frombits) (by kernel_rfl)]; rfl

theorem and_top {b : Nat} (h : b < 2 ^ 64) : b &&& 9223372036854775808 = if sg b then 9223372036854775808 else 0 := by
  have hb := wd_sg_rg h
  have hr : rg b < 2 ^ 63 := rg_lt b
  generalize sg b = s at hb ⊢
  generalize rg b = r at hb hr ⊢
  subst hb
  have key : r &&& 2 ^ 63 = 0 := by
    apply Nat.eq_of_testBit_eq
    intro i
    rw [Nat.testBit_and, Nat.testBit_two_pow, Nat.zero_testBit]
    by_cases c : 63 = i
    · subst c; rw [Nat.testBit_lt_two_pow hr]; rfl
    · simp [c]
  cases s
  · exact key
  · have e : wd true r = 2 ^ 63 ||| r := or_top hr
    rw [e]
    show (2 ^ 63 ||| r) &&& 2 ^ 63 = 2 ^ 63
    rw [Nat.and_or_distrib_right, key, Nat.and_self, Nat.or_zero]
theorem and_low {b : Nat} : b &&& 9223372036854775807 = rg b := Nat.and_two_pow_sub_one_eq_mod b 63
theorem sign_and {b : Nat} (h : b < 2 ^ 64) : bits .and .u64 (b : Int) 9223372036854775808 = ((if sg b then 9223372036854775808 else 0 : Nat) : Int) := by
  rw [← and_top h]; exact u64_and_nat b 9223372036854775808 h (by omega)
theorem sign_andNot {b : Nat} (h : b < 2 ^ 64) : bits .andNot .u64 (b : Int) 9223372036854775808 = (rg b : Int) := by
  rw [← and_low]; exact u64_andNot_nat b 9223372036854775808 h (by omega)
theorem sign_or (s : Bool) {r : Nat} (h : r < 9223372036854775808) : bits .or .u64 (r : Int) ((if s then 9223372036854775808 else 0 : Nat) : Int) = (wd s r : Int) := by
  cases s
  · rw [if_neg Bool.false_ne_true, u64_or_nat r 0 (by omega) (by omega), Nat.or_zero]; rfl
  · rw [if_pos rfl, u64_or_nat r 9223372036854775808 (by omega) (by omega), Nat.or_comm]
    congr 1
    exact (or_top h).symm

theorem Copysign_any (x y : Nat) (w : World) (hx : x < 2 ^ 64) (hy : y < 2 ^ 64) :
    Calls Try.prog 70 #[.float .f64 x, .float .f64 y] w fun e w' => e = .returned (.float .f64 (wd (sg y) (rg x))) ∧ w = w' := by
  have h1 := sign_andNot hx
  have h2 := sign_and hy
  have h3 := sign_or (sg y) (rg_lt x)
  generalize ((if sg y then 9223372036854775808 else 0 : Nat) : Int) = z at h2 h3
  go_enter Try.func70, Try.ntmps70
  go_wp2
  go_ret
  exact ⟨rfl, rfl⟩
theorem isNothing_yes (b : Nat) (w : World) (h : NaN b) :
    Calls Try.prog 41 #[.float .f64 b] w fun e w' => e = .returned (.bool true) ∧ w = w' := by
  have h1 := ord_nan_left b h
  go_enter Try.func41, Try.ntmps41
  go_wp2
  go_ret
  exact ⟨rfl, rfl⟩
theorem isNothing_no (b : Nat) (w : World) (h : ¬ NaN b) :
    Calls Try.prog 41 #[.float .f64 b] w fun e w' => e = .returned (.bool false) ∧ w = w' := by
  have h1 := ord_self h
  go_enter Try.func41, Try.ntmps41
  go_wp2
  go_ret
  exact ⟨rfl, rfl⟩
theorem isInfinity_yes (b : Nat) (w : World) (h : Inf b) :
    Calls Try.prog 35 #[.float .f64 b] w fun e w' => e = .returned (.bool true) ∧ w.drew = w' := by
  have h0 := ord_self (inf_nan h)
  have h1 := fun (u : World) (t : TypeId) => run_sub_nan (P := Try.prog) u t (sub_inf_self h)
  have h2 : FloatKind.f64.format.order (tapeNaN w b b) 0 = none := ord_nan_left 0 (tapeNaN_nan w b b)
  go_enter Try.func35, Try.ntmps35
  go_wp2
  go_ret
  exact ⟨rfl, rfl⟩
theorem isInfinity_fin (b : Nat) (w : World) (h : Fnt b) :
    Calls Try.prog 35 #[.float .f64 b] w fun e w' => e = .returned (.bool false) ∧ w = w' := by
  have h0 := ord_self (fin_nan h)
  obtain ⟨r, h1, h2⟩ := sub_self h
  go_enter Try.func35, Try.ntmps35
  go_wp2
  go_ret
  exact ⟨rfl, rfl⟩
theorem isInfinity_nan (b : Nat) (w : World) (h : NaN b) :
    Calls Try.prog 35 #[.float .f64 b] w fun e w' => e = .returned (.bool false) ∧ w = w' := by
  have h0 := ord_nan_left b h
  go_enter Try.func35, Try.ntmps35
  go_wp2
  go_ret
  exact ⟨rfl, rfl⟩
theorem div_zero_zero : double.div 0 0 = none := rfl
theorem nothing_any (w : World) :
    Calls Try.prog 34 #[] w fun e w' => e = .returned (.float .f64 (tapeNaN w 0 0)) ∧ w.drew = w' := by
  have h1 := fun (u : World) (t : TypeId) => run_quo_nan (P := Try.prog) u t div_zero_zero
  go_enter Try.func34, Try.ntmps34
  go_wp2
  go_ret
  exact ⟨rfl, rfl⟩
end Go.Proofs.Ytnegjfdaijnadaa
