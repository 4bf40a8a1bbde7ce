/- Plain facts on both parts of a finite number: they are their own parts, and add up to the number. Conditions: as each states. -/
import Derived.Test.YtnjcfcnmibadcaaMth
import Derived.Test.YtnjcfcnmibadcaaVal
namespace Go.Proofs.Ytnjcfcnmibadcaa
open Flt Ieee Go.RowKit

theorem fracS_of_int {a k : Nat} {s : Bool} (h : IsInt a s k) : rg (fracS a) = 0 := by
  have hs := (fracS_spec a).2.2.1
  rw [isInt_mod h] at hs
  exact mag_eq_zero.1 hs
theorem trunc_frac {f : Nat} : IsInt (intW .zero (fracS f)) (sg f) 0 := by
  obtain ⟨h1, h2, h3, h4⟩ := fracS_spec f
  have := truncW_int h1 h4
  rw [h2, h3, Nat.div_eq_of_lt (Nat.mod_lt _ U_pos)] at this
  exact this
theorem isInt_zero {r : Nat} {s : Bool} (h : IsInt r s 0) : rg r = 0 := by
  have := h.2.2.2
  rw [Nat.zero_mul] at this
  exact mag_eq_zero.1 this
theorem frac_frac {f : Nat} : fracS (fracS f) = fracS f := by
  obtain ⟨-, h2, h3, h4⟩ := fracS_spec f
  obtain ⟨-, k2, k3, k4⟩ := fracS_spec (fracS f)
  refine wd_ext k4 h4 k2 (mag_inj ?_)
  rw [k3, h3, Nat.mod_eq_of_lt (Nat.mod_lt _ U_pos)]
theorem sum1 {m A F : Nat} (h : m = A + F) : (A : Int) + (F : Int) = (m : Int) := by omega
theorem sum2 {m A F : Nat} (h : m = A + F) : -(A : Int) + -(F : Int) = -(m : Int) := by omega
theorem parts_val {f : Nat} (h : Fnt f) (h0 : f < 2 ^ 64) : val (intW .zero f) + val (fracS f) = val f := by
  obtain ⟨-, h2, h3, -⟩ := fracS_spec f
  have hq := qf (mag (rg f))
  rw [isInt_val (truncW_int h h0), val_eq h2, h3, val_eq (b := f) rfl]
  cases sg f
  · rw [if_neg Bool.false_ne_true, if_neg Bool.false_ne_true, if_neg Bool.false_ne_true]; exact sum1 hq
  · rw [if_pos rfl, if_pos rfl, if_pos rfl]; exact sum2 hq
theorem parts_sum {f : Nat} (h : Fnt f) (h0 : f < 2 ^ 64) : ∃ g, double.add (intW .zero f) (fracS f) = some g ∧ FloatKind.f64.format.order g f = some .eq := by
  have hv := parts_val h h0
  obtain ⟨g, hg, h1, h2, -⟩ := add_exact (t := rg f) (truncW_int h h0).2.1 (fracS_spec f).1 (by rw [hv, natAbs_val]) h
  exact ⟨g, hg, ord_eq h1 h (by rw [h2, hv])⟩
theorem frac_lt {f : Nat} : FloatKind.f64.format.order (lsize (fracS f)) 4607182418800017408 = some .lt := by
  obtain ⟨h1, h2, h3, h4⟩ := fracS_spec f
  refine ord_lt (lsize_fin h4 h1) fin_one ?_
  rw [lsize_val h4, h3, val_one]
  exact Int.ofNat_lt.2 (Nat.mod_lt _ U_pos)
end Go.Proofs.Ytnjcfcnmibadcaa
