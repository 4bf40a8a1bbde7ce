/- Plain facts: where two roundings are the same word; an integer word against 0. Conditions: as each states. -/
import Derived.Test.YtnegjfdaijnadaaVal
namespace Go.Proofs.Ytnegjfdaijnadaa
open Flt Ieee Go.RowKit

theorem down_eq {x : Nat} (h : Fnt x) (h0 : x < 2 ^ 64) (c : sg x = false ∨ mag (rg x) % U = 0) : intW .down x = intW .zero x := by
  have h1 := intW_int .down h h0
  rw [K_down, if_neg (fun k => by rcases c with c | c; (rw [c] at k; exact Bool.false_ne_true k.1); exact k.2 c), Nat.add_zero] at h1
  exact isInt_eq h1 (truncW_int h h0)
theorem up_eq {x : Nat} (h : Fnt x) (h0 : x < 2 ^ 64) (c : sg x = true ∨ mag (rg x) % U = 0) : intW .up x = intW .zero x := by
  have h1 := intW_int .up h h0
  rw [K_up, if_neg (fun k => by rcases c with c | c; (rw [c] at k; exact Bool.noConfusion k.1); exact k.2 c), Nat.add_zero] at h1
  exact isInt_eq h1 (truncW_int h h0)
theorem int_nonzero {r k : Nat} {s : Bool} (h : IsInt r s k) (hk : 0 < k) : FloatKind.f64.format.order r 0 = some .lt ∨ FloatKind.f64.format.order r 0 = some .gt := by
  refine ord_nonzero (fin_nan h.2.1) (fun hz => ?_)
  have := h.2.2.2
  rw [hz, mag_zero] at this
  have hp := Nat.mul_pos hk U_pos
  omega
theorem one_le {x : Nat} (h : Fnt x) (h0 : x < 2 ^ 64) (c : U ≤ mag (rg x)) : FloatKind.f64.format.order (lsize x) 4607182418800017408 = some .eq ∨ FloatKind.f64.format.order (lsize x) 4607182418800017408 = some .gt := by
  have hv := lsize_val h0
  by_cases e : mag (rg x) = U
  · exact .inl (ord_eq (lsize_fin h0 h) fin_one (by rw [hv, val_one, e]))
  · exact .inr (ord_gt (lsize_fin h0 h) fin_one (by rw [hv, val_one]; exact Int.ofNat_lt.2 (by omega)))
theorem lt_one {x : Nat} (h : Fnt x) (h0 : x < 2 ^ 64) (c : mag (rg x) < U) : FloatKind.f64.format.order (lsize x) 4607182418800017408 = some .lt :=
  ord_lt (lsize_fin h0 h) fin_one (by rw [lsize_val h0, val_one]; exact Int.ofNat_lt.2 c)
theorem div_pos {x : Nat} (c : U ≤ mag (rg x)) : 0 < mag (rg x) / U := Nat.div_pos c U_pos
theorem sg_of_pos {x : Nat} (c : 0 < val x) : sg x = false := by
  cases hs : sg x
  · rfl
  · rw [val_eq hs, if_pos rfl] at c; omega
theorem sg_of_neg {x : Nat} (c : val x < 0) : sg x = true := (val_neg_iff.1 c).1
end Go.Proofs.Ytnegjfdaijnadaa
