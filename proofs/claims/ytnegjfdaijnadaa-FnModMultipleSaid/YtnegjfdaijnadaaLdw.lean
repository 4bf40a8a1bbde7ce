/- The walks through the library's Ldexp. Conditions: as each states. -/
import Derived.Test.YtnegjfdaijnadaaFre
namespace Go.Proofs.Ytnegjfdaijnadaa
open Flt Ieee Go.RowKit

set_option maxRecDepth 100000 in
theorem ldexp_norm (b X E c d z : Nat) (n k : Int) (w : World) (h : Fnt b) (h64 : b < 2 ^ 64) (ho : FloatKind.f64.format.order b 0 = some .lt ∨ FloatKind.f64.format.order b 0 = some .gt)
    (hN : ∀ w, Calls Try.prog 68 #[.float .f64 b] w fun e' w' => e' = .returned (.tuple #[.float .f64 X, .int .i64 n]) ∧ w = w')
    (_hE2 : E < 2047) (_n1 : n ≤ 0) (_n2 : -52 ≤ n) (_k1 : -100000 ≤ k) (_k2 : k ≤ 100000)
    (_q1 : ¬ k + n + ((E : Int) - 1023) < -1075) (_q2 : ¬ 1023 < k + n + ((E : Int) - 1023)) (_q3 : ¬ k + n + ((E : Int) - 1023) < -1022)
    (hE : bits .and .i64 (wrap64 ((X : Int) / 4503599627370496)) 2047 = (E : Int))
    (hc : bits .andNot .u64 (X : Int) 9218868437227405312 = (c : Int))
    (hd : bits .or .u64 (c : Int) ((k + n + ((E : Int) - 1023) + 1023) * 4503599627370496) = (d : Int))
    (hm : double.mul 4607182418800017408 d = some z) :
    Calls Try.prog 52 #[.float .f64 b, .int .i64 k] w fun e' w' => e' = .returned (.float .f64 z) ∧ w = w' := by
  have hnn := fin_nan h
  rcases ho with ho | ho
  all_goals
    go_enter Try.func52, Try.ntmps52
    go_wp2_with (first | (go_at_call 64; refine (mIsInf_fin _ _ h h64).mono ?_; rintro e w' ⟨rfl, rfl⟩) | (go_at_call 63; refine (mIsNaN_no _ _ hnn).mono ?_; rintro e w' ⟨rfl, rfl⟩) | (go_at_call 68; refine (hN _).mono ?_; rintro e w' ⟨rfl, rfl⟩))
    go_wp2
    go_ret
    exact ⟨rfl, rfl⟩
set_option maxRecDepth 100000 in
theorem ldexp_den (b X E c d z : Nat) (n k : Int) (w : World) (h : Fnt b) (h64 : b < 2 ^ 64) (ho : FloatKind.f64.format.order b 0 = some .lt ∨ FloatKind.f64.format.order b 0 = some .gt)
    (hN : ∀ w, Calls Try.prog 68 #[.float .f64 b] w fun e' w' => e' = .returned (.tuple #[.float .f64 X, .int .i64 n]) ∧ w = w')
    (_hE2 : E < 2047) (_n1 : n ≤ 0) (_n2 : -52 ≤ n) (_k1 : -100000 ≤ k) (_k2 : k ≤ 100000)
    (_q1 : ¬ k + n + ((E : Int) - 1023) < -1075) (_q2 : ¬ 1023 < k + n + ((E : Int) - 1023)) (_q3 : k + n + ((E : Int) - 1023) < -1022)
    (hE : bits .and .i64 (wrap64 ((X : Int) / 4503599627370496)) 2047 = (E : Int))
    (hc : bits .andNot .u64 (X : Int) 9218868437227405312 = (c : Int))
    (hd : bits .or .u64 (c : Int) ((k + n + ((E : Int) - 1023) + 53 + 1023) * 4503599627370496) = (d : Int))
    (hm : double.mul 4368491638549381120 d = some z) :
    Calls Try.prog 52 #[.float .f64 b, .int .i64 k] w fun e' w' => e' = .returned (.float .f64 z) ∧ w = w' := by
  have hnn := fin_nan h
  rcases ho with ho | ho
  all_goals
    go_enter Try.func52, Try.ntmps52
    go_wp2_with (first | (go_at_call 64; refine (mIsInf_fin _ _ h h64).mono ?_; rintro e w' ⟨rfl, rfl⟩) | (go_at_call 63; refine (mIsNaN_no _ _ hnn).mono ?_; rintro e w' ⟨rfl, rfl⟩) | (go_at_call 68; refine (hN _).mono ?_; rintro e w' ⟨rfl, rfl⟩))
    go_wp2
    go_ret
    exact ⟨rfl, rfl⟩
set_option maxRecDepth 100000 in
theorem ldexp_zero (b : Nat) (k : Int) (w : World) (hz : rg b = 0) :
    Calls Try.prog 52 #[.float .f64 b, .int .i64 k] w fun e' w' => e' = .returned (.float .f64 b) ∧ w = w' := by
  have ho := ord_zero hz
  go_enter Try.func52, Try.ntmps52
  go_wp2
  go_ret
  exact ⟨rfl, rfl⟩

end Go.Proofs.Ytnegjfdaijnadaa
