/- Contracts of the reference's whole, IsWhole, Trunc, Floor, Ceil, Round, RoundToEven: of a finite number each returns the word of the integer to which it is cut. Conditions: as each states. -/
import Derived.Test.YtnegjfdaijnadaaRnd
namespace Go.Proofs.Ytnegjfdaijnadaa
open Flt Ieee Go.RowKit

theorem intW_int (way : Toward) {b : Nat} (hb : Fnt b) (h64 : b < 2 ^ 64) : IsInt (intW way b) (sg b) (Kof way (sg b) (mag (rg b))) := integral_int way hb h64
theorem truncW_int {b : Nat} (hb : Fnt b) (h64 : b < 2 ^ 64) : IsInt (intW .zero b) (sg b) (mag (rg b) / U) := by
  have := intW_int .zero hb h64
  rwa [K_zero] at this

theorem isInt_fin {r k : Nat} {s : Bool} (h : IsInt r s k) : Fnt r := h.2.1
theorem isInt_lt {r k : Nat} {s : Bool} (h : IsInt r s k) : r < 2 ^ 64 := h.1
theorem isInt_abs {r k : Nat} {s : Bool} (h : IsInt r s k) : IsInt (absW r) false k := ⟨absW_lt r, fin_absW.2 h.2.1, sg_absW r, by rw [rg_absW]; exact h.2.2.2⟩
theorem isInt_neg {r k : Nat} {s : Bool} (h : IsInt r s k) : IsInt (negW r) (!s) k := ⟨negW_lt h.1, (fin_negW h.1).2 h.2.1, by rw [sg_negW h.1, h.2.2.1], by rw [rg_negW h.1]; exact h.2.2.2⟩
theorem isInt_sgn {r k : Nat} (s : Bool) (h : IsInt r false k) : IsInt (sgnW s r) s k := by
  cases s
  · exact h
  · exact isInt_neg h
theorem isInt_of_mod {b : Nat} (hb : Fnt b) (h64 : b < 2 ^ 64) (h : mag (rg b) % U = 0) : IsInt b (sg b) (mag (rg b) / U) :=
  ⟨h64, hb, rfl, (Nat.div_mul_cancel (Nat.dvd_of_mod_eq_zero h)).symm⟩
theorem truncW_of_mod {b : Nat} (hb : Fnt b) (h64 : b < 2 ^ 64) (h : mag (rg b) % U = 0) : intW .zero b = b := isInt_eq (truncW_int hb h64) (isInt_of_mod hb h64 h)

theorem fin_lead : Fnt 4841369599423283200 := by unfold Fnt rg INF; omega
theorem mag_lead : mag (rg 4841369599423283200) = 2 ^ 52 * U := by
  have h : rg 4841369599423283200 = (1074 + 1) * 2 ^ 52 := by unfold rg; omega
  rw [h]
  refine (mag_of0 1074).trans ?_
  unfold U; rw [UE_eq]
theorem val_lead : val 4841369599423283200 = ((2 ^ 52 * U : Nat) : Int) := by
  unfold val
  rw [show sg 4841369599423283200 = false from rfl, mag_lead]; rfl

theorem ord_lead_lt {b : Nat} (h : Fnt b) (c : mag (rg b) < 2 ^ 52 * U) : FloatKind.f64.format.order (absW b) 4841369599423283200 = some .lt :=
  ord_lt (fin_absW.2 h) fin_lead (by rw [val_absW, val_lead]; omega)
theorem ord_lead_ge {b : Nat} (h : Fnt b) (c : ¬ mag (rg b) < 2 ^ 52 * U) : FloatKind.f64.format.order (absW b) 4841369599423283200 = some .eq ∨ FloatKind.f64.format.order (absW b) 4841369599423283200 = some .gt := by
  by_cases e : mag (rg b) = 2 ^ 52 * U
  · exact .inl (ord_eq (fin_absW.2 h) fin_lead (by rw [val_absW, val_lead, e]))
  · exact .inr (ord_gt (fin_absW.2 h) fin_lead (by rw [val_absW, val_lead]; omega))

/-- The number that 'int64(x)' is. -/
def cutI (b : Nat) : Int := if sg b then -((mag (rg b) / U : Nat) : Int) else ((mag (rg b) / U : Nat) : Int)
theorem cutI_abs (b : Nat) : (cutI b).natAbs = mag (rg b) / U := by
  unfold cutI
  generalize mag (rg b) / U = q
  split <;> omega

theorem whole_word {b : Nat} (hb : Fnt b) (h64 : b < 2 ^ 64) (c : mag (rg b) < 2 ^ 52 * U) : sgnW (sg b) (absW (floatOfInt .f64 (cutI b))) = intW .zero b := by
  have hq : mag (rg b) / U < 2 ^ 52 := (Nat.div_lt_iff_lt_mul U_pos).2 c
  have h1 := ofInt_int (n := cutI b) (by rw [cutI_abs]; omega)
  rw [cutI_abs] at h1
  exact isInt_eq (isInt_sgn (sg b) (isInt_abs h1)) (truncW_int hb h64)

end Go.Proofs.Ytnegjfdaijnadaa
