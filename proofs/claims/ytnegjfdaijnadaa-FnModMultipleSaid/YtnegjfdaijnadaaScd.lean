/- Moves where it says yes and where it says no; remainders of products with the same power of 2. Conditions: as each states. -/
import Derived.Test.YtnegjfdaijnadaaMov
namespace Go.Proofs.Ytnegjfdaijnadaa
open Flt Ieee Go.RowKit

set_option maxRecDepth 100000 in
set_option maxHeartbeats 2000000 in
theorem Moves_yes (x t : Nat) (k : Int) (w : World) (hx0 : x < 2 ^ 64) (h : Moved x k t) :
    Calls Try.prog 19 #[.float .f64 x, .int .i64 k] w fun e w' => e = .returned (.bool true) ∧ w = w' := by
  obtain ⟨hx, hz, k1, k2, hti, ht0, he⟩ := h
  obtain ⟨M, E, m1, m2, m3, m4⟩ := norm_form hz
  obtain ⟨f, f1, f2, -⟩ := digits_same hz m1 m2 m3 hti he
  have hr1 := scale_exact f1
  rw [show ((f : Int) - 1126) = (E : Int) - 1126 + k by omega] at hr1
  have hr2 := scale_exact m3
  rw [show ((E : Int) - 1126) = (f : Int) - 1126 + -k by omega] at hr2
  have hl : t < 9223372036854775808 := Nat.lt_trans hti INF_lt
  have hrg := rg_wd (sg x) hl
  have hfy : Fnt (wd (sg x) t) := by unfold Fnt; rw [hrg]; exact hti
  have hL := fun u => sLdexp_num x M E t k u hx hx0 hz m1 m2 m3 k1 k2 hr1
  rw [Nat.min_eq_left (Nat.le_of_lt hti)] at hL
  have hL' : ∀ u, Calls Try.prog 31 #[.float .f64 x, .int .i64 k] u fun e w' => e = .returned (.float .f64 (wd (sg x) t)) ∧ u = w' := fun u => (hL u).mono fun e w' ⟨q1, q2, _⟩ => ⟨q1, q2 hti⟩
  have hLy := fun u => sLdexp_num (wd (sg x) t) M f (rg x) (-k) u hfy (wd_lt _ hl) (by rw [hrg]; exact ht0) m1 m2 (by rw [hrg]; exact f1) (by omega) (by omega) hr2
  rw [sg_wd _ hl, Nat.min_eq_left (Nat.le_of_lt hx), wd_sg_rg hx0] at hLy
  have hLy' : ∀ u, Calls Try.prog 31 #[.float .f64 (wd (sg x) t), .int .i64 (-k)] u fun e w' => e = .returned (.float .f64 x) ∧ u = w' := fun u => (hLy u).mono fun e w' ⟨q1, q2, _⟩ => ⟨q1, q2 hx⟩
  have ho := ord_nonzero (fin_nan hx) hz
  have hoy := ord_nonzero (fin_nan hfy) (by rw [hrg]; exact ht0)
  have hF := fun u => isFinite_yes x u hx
  have hFy := fun u => isFinite_yes (wd (sg x) t) u hfy
  have hs := ord_self (fin_nan hx)
  have g1 : ¬ (5000 : Int) < k := by omega
  have g2 : ¬ k < -5000 := by omega
  clear hL hLy m1 m2 m3 m4 f1 f2 hr1 hr2 he hl hrg hfy hx hz hti ht0
  generalize wd (sg x) t = y at *
  rcases ho with ho | ho
  all_goals
    rcases hoy with hoy | hoy
    all_goals
      go_enter Try.func19, Try.ntmps19
      go_wp2_with (first | (go_at_call 29; (with_reducible refine (hF _).mono ?_); rintro e w' ⟨rfl, rfl⟩) | (go_at_call 29; (with_reducible refine (hFy _).mono ?_); rintro e w' ⟨rfl, rfl⟩) | (go_at_call 31; (with_reducible refine (hL' _).mono ?_); rintro e w' ⟨rfl, rfl⟩) | (go_at_call 31; (with_reducible refine (hLy' _).mono ?_); rintro e w' ⟨rfl, rfl⟩))
      go_ret
      exact ⟨rfl, rfl⟩
theorem Moves_none (x : Nat) (k : Int) (w : World) (hx0 : x < 2 ^ 64) (h : ¬ ∃ t, Moved x k t) :
    Calls Try.prog 19 #[.float .f64 x, .int .i64 k] w fun e w' => e = .returned (.bool false) ∧ Grown w w' :=
  (Moves_any x k w hx0).mono fun e w' ⟨b, h1, h2, h3⟩ => by
    cases b
    · exact ⟨h1, h2⟩
    · exact absurd (h3 rfl) h
/-- Ldexp through impl, where it moves. -/
theorem Ldexp_moved (x t : Nat) (k : Int) (w : World) (hx0 : x < 2 ^ 64) (h : Moved x k t) :
    Calls Try.prog 20 #[.float .f64 x, .int .i64 k] w fun e' w' => e' = .returned (.float .f64 (wd (sg x) t)) ∧ w = w' := by
  obtain ⟨hx, hz, k1, k2, hti, ht0, he⟩ := h
  exact Ldexp_exact x t (-k).toNat k.toNat k w hx hx0 hz hti (by omega) he
/-- Ldexp of a number that is 0, or whose product is a word's. -/
theorem Ldexp_to (g t : Nat) (k : Int) (w : World) (hg : Fnt g) (hg0 : g < 2 ^ 64) (hti : t < INF) (he : mag t * 2 ^ (-k).toNat = mag (rg g) * 2 ^ k.toNat) :
    Calls Try.prog 20 #[.float .f64 g, .int .i64 k] w fun e' w' => e' = .returned (.float .f64 (wd (sg g) t)) ∧ w = w' := by
  by_cases hz : rg g = 0
  · have ht : t = 0 := by
      rw [hz, mag_zero, Nat.zero_mul] at he
      rcases Nat.mul_eq_zero.1 he with q | q
      · exact mag_eq_zero.1 q
      · exact absurd q (Nat.ne_of_gt (Nat.two_pow_pos _))
    have e : wd (sg g) t = g := by rw [ht, ← hz, wd_sg_rg hg0]
    rw [e]; exact Ldexp_zero g k w hz
  · exact Ldexp_exact g t (-k).toNat k.toNat k w hg hg0 hz hti (by omega) he
theorem word_spec (s : Bool) {t : Nat} (h : t < INF) : Fnt (wd s t) ∧ wd s t < 2 ^ 64 ∧ rg (wd s t) = t ∧ sg (wd s t) = s := by
  have hl : t < 9223372036854775808 := Nat.lt_trans h INF_lt
  exact ⟨by unfold Fnt; rw [rg_wd _ hl]; exact h, wd_lt _ hl, rg_wd _ hl, sg_wd _ hl⟩
theorem scaled_less {X Y tx ty a c : Nat} (h1 : tx * 2 ^ a = X * 2 ^ c) (h2 : ty * 2 ^ a = Y * 2 ^ c) : X < Y ↔ tx < ty := by
  rw [← Nat.mul_lt_mul_right (Nat.two_pow_pos c), ← h1, ← h2, Nat.mul_lt_mul_right (Nat.two_pow_pos a)]
/-- Mod, moved. -/
theorem mod_moved {x y tx ty : Nat} {k : Int} (hx : Moved x k tx) (hy : Moved y k ty) :
    ∃ tr, tr < INF ∧ modW (wd (sg x) tx) (wd (sg y) ty) = wd (sg (modW x y)) tr ∧ mag tr * 2 ^ (-k).toNat = mag (rg (modW x y)) * 2 ^ k.toNat ∧ (mag (rg x) < mag (rg y) → tr ≠ 0) := by
  obtain ⟨hxf, hxz, -, -, hxi, hx00, hxe⟩ := hx
  obtain ⟨hyf, hyz, -, -, hyi, hy00, hye⟩ := hy
  obtain ⟨p1, p2, p3, p4⟩ := word_spec (sg x) hxi
  obtain ⟨q1, q2, q3, q4⟩ := word_spec (sg y) hyi
  obtain ⟨g1, g2, g3, g4⟩ := modW_spec hxf hyz
  obtain ⟨tr, h1, h2, -⟩ := mod_rung tx ty hxi hy00
  refine ⟨tr, h2, ?_, ?_, ?_⟩
  · rw [modW_eq (r := tr) (by rw [p3, q3]; exact h1), p4, g2]
  · rw [h1, g3, ← Nat.mul_mod_mul_right, ← Nat.mul_mod_mul_right, hxe, hye]
  · intro h e
    have h3 := (scaled_less hxe hye).1 h
    rw [Nat.mod_eq_of_lt h3, e, mag_zero] at h1
    exact hx00 (mag_eq_zero.1 h1.symm)
theorem remZ_times (A N V : Nat) (hV : 0 < V) : remZ (A * V) (N * V) = remZ A N * (V : Int) := by
  unfold remZ
  rw [Nat.mul_mod_mul_right, Nat.mul_div_mul_right _ _ hV, ← Nat.mul_assoc]
  have h1 : (2 * (A % N) * V < N * V) ↔ (2 * (A % N) < N) := Nat.mul_lt_mul_right hV
  have h2 : (2 * (A % N) * V = N * V) ↔ (2 * (A % N) = N) := Nat.mul_left_inj (Nat.ne_of_gt hV)
  simp only [h1, h2]
  split
  · rw [Int.natCast_mul]
  · rw [Int.natCast_mul, Int.natCast_mul, Int.sub_mul]
/-- Two integers of one sign: one times a power is the other one times a power. -/
theorem sign_same {v v' : Int} {A C : Nat} (hA : 0 < A) (hC : 0 < C) (h : v' * (A : Int) = v * (C : Int)) : (v' < 0 ↔ v < 0) ∧ (v' = 0 ↔ v = 0) := by
  have a1 : (0 : Int) < (A : Int) := by omega
  have c1 : (0 : Int) < (C : Int) := by omega
  have h1 : v' * (A : Int) < 0 * (A : Int) ↔ v' < 0 := Int.mul_lt_mul_right a1
  have h2 : v * (C : Int) < 0 * (C : Int) ↔ v < 0 := Int.mul_lt_mul_right c1
  rw [Int.zero_mul] at h1 h2
  constructor
  · rw [← h1, h, h2]
  · constructor
    · intro e
      rw [e, Int.zero_mul] at h
      rcases Int.mul_eq_zero.1 h.symm with q | q
      · exact q
      · omega
    · intro e
      rw [e, Int.zero_mul] at h
      rcases Int.mul_eq_zero.1 h with q | q
      · exact q
      · omega
/-- Remainder, moved. -/
theorem rem_moved {x y tx ty : Nat} {k : Int} (hx : Moved x k tx) (hy : Moved y k ty) :
    ∃ tr, tr < INF ∧ remW (wd (sg x) tx) (wd (sg y) ty) = wd (sg (remW x y)) tr ∧ mag tr * 2 ^ (-k).toNat = mag (rg (remW x y)) * 2 ^ k.toNat ∧ (2 * mag (rg x) < mag (rg y) → tr ≠ 0) := by
  obtain ⟨hxf, hxz, -, -, hxi, hx00, hxe⟩ := hx
  obtain ⟨hyf, hyz, -, -, hyi, hy00, hye⟩ := hy
  obtain ⟨p1, p2, p3, p4⟩ := word_spec (sg x) hxi
  obtain ⟨q1, q2, q3, q4⟩ := word_spec (sg y) hyi
  obtain ⟨g1, g2, g3, g4, g5⟩ := remW_spec hxf hyz
  obtain ⟨r1, r2, r3, r4, r5⟩ := remW_spec (y := wd (sg y) ty) p1 (by rw [q3]; exact hy00)
  rw [p3, q3, p4] at r2
  rw [p3, q3, p4] at r4
  rw [p3, q3] at r5
  have hA := Nat.two_pow_pos (-k).toNat
  have hC := Nat.two_pow_pos k.toNat
  have hZ : remZ (mag tx) (mag ty) * ((2 ^ (-k).toNat : Nat) : Int) = remZ (mag (rg x)) (mag (rg y)) * ((2 ^ k.toNat : Nat) : Int) := by
    rw [← remZ_times _ _ _ hA, ← remZ_times _ _ _ hC, hxe, hye]
  have hv : val (remW (wd (sg x) tx) (wd (sg y) ty)) * ((2 ^ (-k).toNat : Nat) : Int) = val (remW x y) * ((2 ^ k.toNat : Nat) : Int) := by
    rw [r2, g2]
    cases sg x
    · exact hZ
    · rw [if_pos rfl, if_pos rfl, Int.neg_mul, Int.neg_mul, hZ]
  obtain ⟨s1, s2⟩ := sign_same hA hC hv
  refine ⟨rg (remW (wd (sg x) tx) (wd (sg y) ty)), r1, ?_, ?_, ?_⟩
  · refine (wd_sg_rg r3).symm.trans ?_
    congr 1
    by_cases c : val (remW x y) = 0
    · have c' := s2.2 c
      have e1 : remZ (mag (rg x)) (mag (rg y)) = 0 := by
        have := natAbs_val (remW x y)
        rw [c, g5] at this
        exact Int.natAbs_eq_zero.1 this.symm
      have e2 : remZ (mag tx) (mag ty) = 0 := by
        have := natAbs_val (remW (wd (sg x) tx) (wd (sg y) ty))
        rw [c', r5] at this
        exact Int.natAbs_eq_zero.1 this.symm
      rw [r4 e2, g4 e1]
    · rw [sg_of_val (fun e => c (val_eq_zero.2 e)), sg_of_val (fun e => c (s2.1 (val_eq_zero.2 e)))]
      exact decide_eq_decide.2 s1
  · have := congrArg Int.natAbs hv
    rw [Int.natAbs_mul, Int.natAbs_mul, natAbs_val, natAbs_val, Int.natAbs_natCast, Int.natAbs_natCast] at this
    exact this
  · intro h e
    rw [e, mag_zero, remZ_small (mag_pos hy00)] at r5
    · rw [Int.natAbs_natCast] at r5
      exact hx00 (mag_eq_zero.1 r5.symm)
    · have h1 : 2 * mag tx * 2 ^ (-k).toNat < mag ty * 2 ^ (-k).toNat := by
        rw [Nat.mul_assoc, hxe, hye, ← Nat.mul_assoc]
        exact (Nat.mul_lt_mul_right hC).2 h
      exact Nat.le_of_lt (Nat.lt_of_mul_lt_mul_right h1)
end Go.Proofs.Ytnegjfdaijnadaa
