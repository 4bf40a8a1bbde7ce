/- Plain facts for FnModMultiple. Conditions: as each states. -/
import Derived.Test.YtnegjfdaijnadaaFmw
namespace Go.Proofs.Ytnegjfdaijnadaa
open Flt Ieee Go.RowKit

/-- A product that is a whole number of units. -/
theorem mul_rd {a b N : Nat} (ha : Fnt a) (hb : Fnt b) (ht : mag (rg a) * mag (rg b) = N * U) : double.mul a b = some (wd (sg a ^^ sg b) (min (rd N) INF)) := by
  obtain ⟨m, i, ra, va, -⟩ := read_fin ha
  obtain ⟨n, j, rb, vb, -⟩ := read_fin hb
  unfold Format.mul
  rw [ra, rb]
  simp only [Datum.product, Option.map_some, Format.write]
  have e1 : m * n * 2 ^ (i + j) = N * 2 ^ UE := by
    rw [show N * 2 ^ UE = N * U from rfl, ← ht, va, vb, Nat.pow_add, Nat.mul_assoc, Nat.mul_assoc, ← Nat.mul_assoc n, Nat.mul_comm n (2 ^ i), Nat.mul_assoc]
  have h1 := nearest_scale (sg a ^^ sg b) (m * n) (-1074 + (i : Int) + (-1074 + (j : Int))) (i + j)
  have h2 := nearest_scale (sg a ^^ sg b) N (-1074) UE
  rw [e1] at h1
  rw [show -1074 + (i : Int) + (-1074 + (j : Int)) - ((i + j : Nat) : Int) = -1074 - (UE : Nat) by rw [UE_eq]; omega] at h1
  rw [← h1, h2, nearest_unit, wd_eq]
theorem add_notfin {p z : Nat} (hp : ¬ Fnt p) (hz : Fnt z) : (∃ s, double.add p z = some s ∧ ¬ Fnt s) ∨ double.add p z = none := by
  obtain ⟨n, j, rz, -⟩ := read_fin hz
  rcases kinds p with k | k | k
  · exact absurd k hp
  · left
    refine ⟨wd (sg p) INF, ?_, inf_fin (inf_wd _)⟩
    unfold Format.add; rw [read_inf k, rz]; rfl
  · right
    unfold Format.add; rw [read_nan k, rz]; rfl
/-- How '+' runs where the first number is not finite. -/
theorem run_add_notfin {p z : Nat} (w : World) (hp : ¬ Fnt p) (hz : Fnt z) : ∃ s w', (∀ t, (binOp .add t (.float .f64 p) (.float .f64 z)).run Try.prog w = .ok (.float .f64 s) w') ∧ ¬ Fnt s ∧ Below w.heap.size w w' := by
  rcases add_notfin hp hz with ⟨s, h1, h2⟩ | h
  · exact ⟨s, w, fun t => run_add w t h1, h2, Below.refl _ _⟩
  · exact ⟨_, _, fun t => run_add_nan w t h, nan_fin (tapeNaN_nan w p z), (Below.refl _ _).drew⟩
/-- How '*' runs. -/
theorem run_mul_any (x y : Nat) (w : World) : ∃ p w', (∀ t, (binOp .mul t (.float .f64 x) (.float .f64 y)).run Try.prog w = .ok (.float .f64 p) w') ∧ Below w.heap.size w w' ∧ (∀ q, double.mul x y = some q → p = q ∧ w' = w) ∧ (double.mul x y = none → NaN p) := by
  cases h : double.mul x y with
  | some q => exact ⟨q, w, fun t => run_mul w t h, Below.refl _ _, fun q' e => by cases e; exact ⟨rfl, rfl⟩, fun e => by cases e⟩
  | none => exact ⟨_, _, fun t => run_mul_nan w t h, (Below.refl _ _).drew, (fun q' e => nomatch e), fun _ => tapeNaN_nan w x y⟩
/-- A finite number times an infinity is not finite. -/
theorem mul_inf {x y : Nat} (hx : Fnt x) (hy : Inf y) : double.mul x y = none ∨ ∃ q, double.mul x y = some q ∧ ¬ Fnt q := by
  obtain ⟨m, i, rx, -⟩ := read_fin hx
  unfold Format.mul
  rw [rx, read_inf hy]
  simp only [Datum.product]
  by_cases c : m = 0
  · left; simp [c]
  · right
    refine ⟨wd (sg y ^^ sg x) INF, ?_, inf_fin (inf_wd _)⟩
    simp [c]
    rfl
/-- The sum is exact if it can be taken back. -/
theorem sum_exact {p z s : Nat} (hp : Fnt p) (hz : Fnt z) (hs : s = near (sg p && sg z) (val p + val z)) (hsf : Fnt s) (vp : val p = (mag (rg p) : Int)) (vz : val z = (mag (rg z) : Int))
    (h1 : FloatKind.f64.format.order (near (sg s && !sg p) (val s - val p)) z = some .eq) (h2 : FloatKind.f64.format.order (near (sg s && !sg z) (val s - val z)) p = some .eq) :
    mag (rg s) = mag (rg p) + mag (rg z) ∧ val s = (mag (rg s) : Int) := by
  have hsum : val p + val z = ((mag (rg p) + mag (rg z) : Nat) : Int) := by rw [vp, vz]; omega
  rw [hsum] at hs
  have hrg : rg s = min (rd (mag (rg p) + mag (rg z))) INF := by rw [hs, rg_near, Int.natAbs_natCast]
  have hlt : rg s < INF := hsf
  have hrd : rg s = rd (mag (rg p) + mag (rg z)) := by omega
  have vs : val s = (mag (rg s) : Int) := by
    have hsg : sg s = true → mag (rg s) = 0 := by
      intro e
      rw [hs, sg_near] at e
      by_cases c : ((mag (rg p) + mag (rg z) : Nat) : Int) = 0
      · have : mag (rg p) + mag (rg z) = 0 := by omega
        rw [hrd, this, rd_zero, mag_zero]
      · rw [if_neg c] at e
        have := of_decide_eq_true e
        omega
    exact val_of_sg rfl rfl hsg
  have key : ∀ (q : Nat), Fnt q → ∀ (o : Nat), mag (rg q) ≤ mag (rg p) + mag (rg z) → mag (rg p) + mag (rg z) ≤ 2 * mag (rg q) → val q = (mag (rg q) : Int) → Fnt o → FloatKind.f64.format.order (near (sg s && !sg q) (val s - val q)) o = some .eq → (mag (rg s) : Int) - (mag (rg q) : Int) = val o := by
    intro q hq o k1 k2 vq ho he
    have g1 : mag (rg q) ≤ mag (rg s) := by rw [hrd]; exact mag_le (rd_ge k1)
    have g2 : mag (rg s) ≤ 2 * mag (rg q) := by
      obtain ⟨t, ht⟩ := double_rung (rg q)
      have : rd (mag (rg p) + mag (rg z)) ≤ t := rd_le (by rw [ht]; omega)
      rw [hrd]
      have := mag_le this
      rw [ht] at this
      omega
    obtain ⟨u, hu⟩ := diff_rung g1 g2
    have hui : u < INF := Nat.lt_of_le_of_lt (mag_le_iff.1 (by rw [hu]; exact Nat.sub_le _ _)) hlt
    have hv : val s - val q = ((mag u : Nat) : Int) := by rw [vs, vq, hu]; exact (Int.ofNat_sub g1).symm
    obtain ⟨n1, n2, -, -⟩ := near_val (sg s && !sg q) (z := val s - val q) (r := u) (by rw [hv, Int.natAbs_natCast]) hui
    have hb := b_eq n1 ho
    rw [he] at hb
    have e2 := of_decide_eq_true hb.symm
    rw [n2, vs, vq] at e2
    exact e2
  refine ⟨?_, vs⟩
  rcases Nat.le_total (mag (rg z)) (mag (rg p)) with c | c
  · have := key p hp z (by omega) (by omega) vp hz h1
    rw [vz] at this
    omega
  · have := key z hz p (by omega) (by omega) vz hp h2
    rw [vp] at this
    omega
end Go.Proofs.Ytnegjfdaijnadaa
