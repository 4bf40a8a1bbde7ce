/- The reference's FMA of an integer times a number, less the rounded product: the walk. Conditions: as each states. -/
import Derived.Test.YtnegjfdaijnadaaFma
namespace Go.Proofs.Ytnegjfdaijnadaa
open Flt Ieee Go.RowKit

set_option maxRecDepth 100000 in
set_option maxHeartbeats 4000000 in
theorem fma_num (x y z n : Nat) (w : World) (hx : Fnt x) (hy : Fnt y) (hz : Fnt z) (hx0 : x < 2 ^ 64) (hy0 : y < 2 ^ 64) (hz0 : z < 2 ^ 64) (sx : sg x = false) (sy : sg y = false) (sz : sg z = true) (xz : rg x ≠ 0) (yz : rg y ≠ 0) (zz : rg z ≠ 0) (hn : mag (rg x) = n * U) :
    Calls Try.prog 25 #[.float .f64 x, .float .f64 y, .float .f64 z] w fun e w' => ∃ r, e = .returned (.float .f64 r) ∧ (n * mag (rg y) = mag (rg z) → r = 0) ∧ (n * mag (rg y) ≠ mag (rg z) → Nz r) ∧ Below w.heap.size w w' := by
  obtain ⟨M1, E1, a1, a2, a3, a4⟩ := norm_form xz
  obtain ⟨M2, E2, b1, b2, b3, b4⟩ := norm_form yz
  obtain ⟨K, E3, c1, c2, c3, c4⟩ := norm_form zz
  have hE1 := a4 hx
  have hE2 := b4 hy
  have hE3 := c4 hz
  have hp3 := a3
  rw [hn] at hp3
  obtain ⟨p1, p2⟩ := fma_plain hp3 b3 c3
  have hA : M1 * M2 < 2 ^ (32 * 4) := by
    have h1 : M1 * M2 < 2 ^ 53 * 2 ^ 53 := Nat.mul_lt_mul_of_lt_of_le a2 (Nat.le_of_lt b2) (by omega)
    omega
  have hK : K < 2 ^ (32 * 2) := by omega
  have hS := fun (u : World) va vb la lb (ha : Dn u va (M1 * M2) la) (hta : Trimmed (M1 * M2) la) (hb : Dn u vb K lb) (htb : Trimmed K lb) => sum_any va vb (M1 * M2) K la lb ((E1 : Int) - 1126 + ((E2 : Int) - 1126)) ((E3 : Int) - 1126) u ha hta hb htb hA hK (by omega) (by omega) (by omega) (by omega) p2
  have HP := Lib.hid p1
  have hNx := fun u => isNothing_no x u (fin_nan hx)
  have hNy := fun u => isNothing_no y u (fin_nan hy)
  have hNz := fun u => isNothing_no z u (fin_nan hz)
  have hGx := fun u => isNegative_num x u (fin_nan hx)
  have hGy := fun u => isNegative_num y u (fin_nan hy)
  have hGz := fun u => isNegative_num z u (fin_nan hz)
  rw [sx] at hGx
  rw [sy] at hGy
  rw [sz] at hGz
  have hIx := fun u => isInfinity_fin x u hx
  have hIy := fun u => isInfinity_fin y u hy
  have hIz := fun u => isInfinity_fin z u hz
  have hSx := fun u => size_pos x u (fin_nan hx) hx0
  have hSy := fun u => size_pos y u (fin_nan hy) hy0
  have hSz := fun u => size_pos z u (fin_nan hz) hz0
  have hPx := fun u => parts_any (rg x) M1 E1 u xz hx a1 a2 a3
  have hPy := fun u => parts_any (rg y) M2 E2 u yz hy b1 b2 b3
  have hPz := fun u => parts_any (rg z) K E3 u zz hz c1 c2 c3
  change ∀ u, Calls Try.prog 36 #[.float .f64 (absW x)] u _ at hPx
  change ∀ u, Calls Try.prog 36 #[.float .f64 (absW y)] u _ at hPy
  change ∀ u, Calls Try.prog 36 #[.float .f64 (absW z)] u _ at hPz
  have hM1 := fun (u : World) => natural_two M1 u a1 a2
  have hM2 := fun (u : World) => natural_two M2 u b1 b2
  have hMK := fun (u : World) => natural_any K u (by omega)
  have ox : FloatKind.f64.format.order x 0 = some .gt := by
    rcases ord_nonzero (fin_nan hx) xz with q | q
    · have : (FloatKind.f64.format.order x 0 == some .lt) = true := by rw [q]; rfl
      rw [b_lt hx fin_zero, val_zero] at this
      have := sg_of_neg (of_decide_eq_true this)
      rw [sx] at this; exact Bool.noConfusion this
    · exact q
  have oy : FloatKind.f64.format.order y 0 = some .gt := by
    rcases ord_nonzero (fin_nan hy) yz with q | q
    · have : (FloatKind.f64.format.order y 0 == some .lt) = true := by rw [q]; rfl
      rw [b_lt hy fin_zero, val_zero] at this
      have := sg_of_neg (of_decide_eq_true this)
      rw [sy] at this; exact Bool.noConfusion this
    · exact q
  have oz : FloatKind.f64.format.order z 0 = some .lt := by
    rcases ord_nonzero (fin_nan hz) zz with q | q
    · exact q
    · have : (FloatKind.f64.format.order z 0 == some .gt) = true := by rw [q]; rfl
      rw [b_gt hz fin_zero, val_zero] at this
      have := sg_of_pos (of_decide_eq_true this)
      rw [sz] at this; exact Bool.noConfusion this
  have r1 : -2000 ≤ (E1 : Int) - 1126 ∧ (E1 : Int) - 1126 ≤ 2000 := by omega
  have r2 : -2000 ≤ (E2 : Int) - 1126 ∧ (E2 : Int) - 1126 ≤ 2000 := by omega
  clear p1 p2 hp3 a1 a2 a3 a4 b1 b2 b3 b4 c1 c2 c3 c4 hE1 hE2 hE3 hA hK hx hy hz xz yz zz sx sy sz
  generalize (E1 : Int) - 1126 = e1 at *
  generalize (E2 : Int) - 1126 = e2 at *
  generalize (E3 : Int) - 1126 = e3 at *
  generalize absW x = ax at *
  generalize absW y = ay at *
  generalize absW z = az at *
  go_enter Try.func25, Try.ntmps25
  go_wp2_with (first | (go_at_call 41; (with_reducible refine (hNx _).mono ?_); rintro e w' ⟨rfl, rfl⟩) | (go_at_call 41; (with_reducible refine (hNy _).mono ?_); rintro e w' ⟨rfl, rfl⟩) | (go_at_call 41; (with_reducible refine (hNz _).mono ?_); rintro e w' ⟨rfl, rfl⟩) | (go_at_call 28; (with_reducible refine (hGx _).mono ?_); rintro e w' ⟨rfl, rfl⟩) | (go_at_call 28; (with_reducible refine (hGy _).mono ?_); rintro e w' ⟨rfl, rfl⟩) | (go_at_call 28; (with_reducible refine (hGz _).mono ?_); rintro e w' ⟨rfl, rfl⟩) | (go_at_call 35; (with_reducible refine (hIx _).mono ?_); rintro e w' ⟨rfl, rfl⟩) | (go_at_call 35; (with_reducible refine (hIy _).mono ?_); rintro e w' ⟨rfl, rfl⟩) | (go_at_call 35; (with_reducible refine (hIz _).mono ?_); rintro e w' ⟨rfl, rfl⟩) | (go_at_call 37; (with_reducible refine (hSx _).mono ?_); rintro e w' ⟨rfl, rfl⟩) | (go_at_call 37; (with_reducible refine (hSy _).mono ?_); rintro e w' ⟨rfl, rfl⟩) | (go_at_call 37; (with_reducible refine (hSz _).mono ?_); rintro e w' ⟨rfl, rfl⟩) | (go_at_call 36; (with_reducible refine (hPx _).mono ?_); rintro e w' ⟨rfl, rfl⟩) | (go_at_call 36; (with_reducible refine (hPy _).mono ?_); rintro e w' ⟨rfl, rfl⟩) | (go_at_call 36; (with_reducible refine (hPz _).mono ?_); rintro e w' ⟨rfl, rfl⟩) | (go_at_call 44; (with_reducible refine (hM1 _).mono ?_); rintro e w1 ⟨v1, rfl, hd1, hb1⟩) | (go_at_call 44; (with_reducible refine (hM2 _).mono ?_); rintro e w2 ⟨v2, rfl, hd2, hb2⟩) | (go_at_call 43; (with_reducible refine (times_two _ _ _ _ _ (hd1.below hb2) hd2).mono ?_); rintro e w3 ⟨v3, rfl, l3, hd3, ht3, hb3⟩) | (go_at_call 44; (with_reducible refine (hMK _).mono ?_); rintro e w4 ⟨v4, rfl, l4, hd4, ht4, hb4⟩) | (go_at_call 46; (with_reducible refine (hS _ _ _ _ _ (hd3.below hb4) ht3 hd4 ht4).mono ?_); rintro e w5 ⟨r, rfl, hr1, hr2, hb5⟩))
  go_ret
  exact ⟨_, rfl, fun q => hr1 (HP.out.2 q), fun q => hr2 (fun k => q (HP.out.1 k)), below_then (below_then (below_then (below_then hb1 hb2) hb3) hb4) hb5⟩
set_option maxRecDepth 100000 in
theorem fma_zero (x y z : Nat) (w : World) (hy : Fnt y) (sx : sg x = false) (sy : sg y = false) (xz : rg x = 0) (zz : rg z = 0) :
    Calls Try.prog 25 #[.float .f64 x, .float .f64 y, .float .f64 z] w fun e w' => e = .returned (.float .f64 0) ∧ w = w' := by
  have hx := fin_of_zero xz
  have hz := fin_of_zero zz
  have hNx := fun u => isNothing_no x u (fin_nan hx)
  have hNy := fun u => isNothing_no y u (fin_nan hy)
  have hNz := fun u => isNothing_no z u (fin_nan hz)
  have hGx := fun u => isNegative_num x u (fin_nan hx)
  have hGy := fun u => isNegative_num y u (fin_nan hy)
  rw [sx] at hGx
  rw [sy] at hGy
  have hIx := fun u => isInfinity_fin x u hx
  have hIy := fun u => isInfinity_fin y u hy
  have hIz := fun u => isInfinity_fin z u hz
  have ox := ord_zero xz
  have oz := ord_zero zz
  clear xz zz sx sy
  go_enter Try.func25, Try.ntmps25
  go_wp2_with (first | (go_at_call 41; (with_reducible refine (hNx _).mono ?_); rintro e w' ⟨rfl, rfl⟩) | (go_at_call 41; (with_reducible refine (hNy _).mono ?_); rintro e w' ⟨rfl, rfl⟩) | (go_at_call 41; (with_reducible refine (hNz _).mono ?_); rintro e w' ⟨rfl, rfl⟩) | (go_at_call 28; (with_reducible refine (hGx _).mono ?_); rintro e w' ⟨rfl, rfl⟩) | (go_at_call 28; (with_reducible refine (hGy _).mono ?_); rintro e w' ⟨rfl, rfl⟩) | (go_at_call 35; (with_reducible refine (hIx _).mono ?_); rintro e w' ⟨rfl, rfl⟩) | (go_at_call 35; (with_reducible refine (hIy _).mono ?_); rintro e w' ⟨rfl, rfl⟩) | (go_at_call 35; (with_reducible refine (hIz _).mono ?_); rintro e w' ⟨rfl, rfl⟩) | (go_at_call 39; (with_reducible refine (signed_false _ _).mono ?_); rintro e w' ⟨rfl, rfl⟩))
  go_ret
  exact ⟨rfl, rfl⟩
end Go.Proofs.Ytnegjfdaijnadaa
