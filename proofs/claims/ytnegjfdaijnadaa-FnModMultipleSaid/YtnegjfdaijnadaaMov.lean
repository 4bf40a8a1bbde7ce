/- Contracts of the reference's Ldexp and Moves. Conditions: as each states. -/
import Derived.Test.YtnegjfdaijnadaaSrm
namespace Go.Proofs.Ytnegjfdaijnadaa
open Flt Ieee Go.RowKit

theorem scale_unique {m t s : Nat} {e : Int} (h : ScaleRel m e t) (k : ScaleRel m e s) : t = s := by
  apply mag_inj
  rcases h with ⟨h1, h2⟩ | ⟨h1, h1', h2⟩ | ⟨h1, h2⟩ <;> rcases k with ⟨k1, k2⟩ | ⟨k1, k1', k2⟩ | ⟨k1, k2⟩
  · rw [← h2, ← k2]
  · omega
  · omega
  · omega
  · rw [h2] at k2
    exact Nat.eq_of_mul_eq_mul_right (Nat.two_pow_pos _) k2
  · omega
  · omega
  · omega
  · rw [h2, k2]
theorem scale_exists {m : Nat} (e : Int) (hm : m < 2 ^ 53) : ∃ t, ScaleRel m e t := by
  have hu : UE = 1074 := UE_eq
  by_cases c : 0 ≤ e
  · obtain ⟨t, ht⟩ := exists_rung (UE + e.toNat) m hm
    exact ⟨t, .inl ⟨c, by rw [ht, Nat.pow_add, ← Nat.mul_assoc]; rfl⟩⟩
  · by_cases d : -1074 ≤ e
    · obtain ⟨j, hj⟩ : ∃ j, UE = j + (-e).toNat := ⟨UE - (-e).toNat, by omega⟩
      obtain ⟨t, ht⟩ := exists_rung j m hm
      refine ⟨t, .inr (.inl ⟨d, by omega, ?_⟩)⟩
      rw [ht, Nat.mul_assoc, ← Nat.pow_add, ← hj]; rfl
    · obtain ⟨t, ht⟩ := exists_rung' 0 (hEven m (-1074 - e).toNat) (hEven_le hm)
      exact ⟨t, .inr (.inr ⟨by omega, by rw [ht, Nat.pow_zero, Nat.mul_one]⟩)⟩
/-- Where nothing is cut off, 'scaled' is exact. -/
theorem scale_val {X M E t : Nat} {k : Int} (m2 : M < 2 ^ 53) (m3 : mag X * 2 ^ 52 = M * 2 ^ E) (h : ScaleRel M ((E : Int) - 1126 + k) t) (hk : 0 ≤ k ∨ -1074 ≤ (E : Int) - 1126 + k) : mag t * 2 ^ (-k).toNat = mag X * 2 ^ k.toNat := by
  by_cases c : 0 ≤ k
  · obtain ⟨n, hn⟩ : ∃ n : Nat, k = (n : Int) := ⟨k.toNat, by omega⟩
    subst hn
    obtain ⟨t0, ht0⟩ := scale_rung X n
    have h1 : mag t0 * 2 ^ 52 = M * 2 ^ (E + n) := by rw [ht0, Nat.mul_right_comm, m3, Nat.pow_add, Nat.mul_assoc]
    have h2 := scale_exact h1
    rw [show ((E + n : Nat) : Int) - 1126 = (E : Int) - 1126 + (n : Int) by omega] at h2
    rw [scale_unique h h2, ht0, show (-(n : Int)).toNat = 0 by omega, Nat.pow_zero, Nat.mul_one, show ((n : Int)).toNat = n by omega]
  · obtain ⟨j, hj⟩ : ∃ j : Nat, k = -(j : Int) := ⟨(-k).toNat, by omega⟩
    subst hj
    obtain ⟨d, hd⟩ : ∃ d, E = 52 + d + j := ⟨E - 52 - j, by omega⟩
    obtain ⟨t0, ht0⟩ := exists_rung d M m2
    have h1 : mag t0 * 2 ^ 52 = M * 2 ^ (52 + d) := by rw [ht0, Nat.mul_assoc, ← Nat.pow_add, Nat.add_comm d]
    have h2 := scale_exact h1
    rw [show ((52 + d : Nat) : Int) - 1126 = (E : Int) - 1126 + -(j : Int) by omega] at h2
    have h3 : mag t0 * 2 ^ j * 2 ^ 52 = mag X * 2 ^ 52 := by rw [Nat.mul_right_comm, h1, m3, hd, Nat.pow_add _ (52 + d), Nat.mul_assoc]
    rw [scale_unique h h2, show (- -(j : Int)).toNat = j by omega, show (-(j : Int)).toNat = 0 by omega, Nat.pow_zero, Nat.mul_one]
    exact Nat.eq_of_mul_eq_mul_right (Nat.two_pow_pos 52) h3
set_option maxRecDepth 100000 in
set_option maxHeartbeats 2000000 in
theorem sLdexp_num (b M E t : Nat) (k : Int) (w : World) (hb : Fnt b) (hb0 : b < 2 ^ 64) (hz : rg b ≠ 0) (m1 : 2 ^ 52 ≤ M) (m2 : M < 2 ^ 53) (m3 : mag (rg b) * 2 ^ 52 = M * 2 ^ E) (k1 : -5000 ≤ k) (k2 : k ≤ 5000) (ht : ScaleRel M ((E : Int) - 1126 + k) t) :
    Calls Try.prog 31 #[.float .f64 b, .int .i64 k] w fun e w' => e = .returned (.float .f64 (wd (sg b) (min t INF))) ∧ (t < INF → w = w') ∧ Grown w w' := by
  obtain ⟨M', E', a1, a2, a3, a4⟩ := norm_form hz
  obtain ⟨rfl, rfl⟩ := norm_unique a1 a2 m1 m2 (a3.symm.trans m3)
  have hE := a4 hb
  have hl : min t INF < 9223372036854775808 := Nat.lt_of_le_of_lt (Nat.min_le_right _ _) INF_lt
  have hF := fun u => isFinite_yes b u hb
  have ho := ord_nonzero (fin_nan hb) hz
  have hS := fun u => size_pos b u (fin_nan hb) hb0
  have hP := fun u => parts_any (rg b) M' E' u hz hb m1 m2 m3
  change ∀ u, Calls Try.prog 36 #[.float .f64 (absW b)] u _ at hP
  have hN := fun u => isNegative_num b u (fin_nan hb)
  have hC := fun u => scaled_any M' t ((E' : Int) - 1126 + k) u m2 (by omega) (by omega) ht
  have hG := fun u => signed_any (sg b) (wd false (min t INF)) u
  rw [sgnW_wd _ hl] at hG
  have b1 : -5000 ≤ (E' : Int) - 1126 ∧ (E' : Int) - 1126 ≤ 5000 := by omega
  have k3 : ¬ (10000 : Int) < k := by omega
  have k4 : ¬ k < -10000 := by omega
  clear m1 m2 m3 ht a1 a2 a3 a4 hE hz hl
  generalize (E' : Int) - 1126 = e1 at *
  generalize absW b = ab at *
  generalize wd false (min t INF) = zt at *
  generalize wd (sg b) (min t INF) = z at *
  generalize sg b = sb at *
  rcases ho with ho | ho
  all_goals
    go_enter Try.func31, Try.ntmps31
    go_wp2_with (first | (go_at_call 29; refine (hF _).mono ?_; rintro e w' ⟨rfl, rfl⟩) | (go_at_call 37; (with_reducible refine (hS _).mono ?_); rintro e w' ⟨rfl, rfl⟩) | (go_at_call 36; (with_reducible refine (hP _).mono ?_); rintro e w' ⟨rfl, rfl⟩) | (go_at_call 40; (with_reducible refine (hC _).mono ?_); rintro e w' ⟨rfl, hw1, hw2⟩) | (go_at_call 28; (with_reducible refine (hN _).mono ?_); rintro e w' ⟨rfl, rfl⟩) | (go_at_call 39; (with_reducible refine (hG _).mono ?_); rintro e w' ⟨rfl, rfl⟩))
    go_ret
    exact ⟨rfl, hw1, hw2⟩
/-- The product is a word's. -/
def Moved (x : Nat) (k : Int) (t : Nat) : Prop := Fnt x ∧ rg x ≠ 0 ∧ -5000 ≤ k ∧ k ≤ 5000 ∧ t < INF ∧ t ≠ 0 ∧ mag t * 2 ^ (-k).toNat = mag (rg x) * 2 ^ k.toNat
theorem Moves_no (x : Nat) (k : Int) (w : World) (h : ¬ Fnt x ∨ rg x = 0 ∨ 5000 < k ∨ k < -5000) :
    Calls Try.prog 19 #[.float .f64 x, .int .i64 k] w fun e w' => e = .returned (.bool false) ∧ Grown w w' := by
  by_cases hx : Fnt x
  · have hF := fun u => isFinite_yes x u hx
    by_cases hz : rg x = 0
    · have ho := ord_zero hz
      clear h hz
      go_enter Try.func19, Try.ntmps19
      go_wp2_with (go_at_call 29; refine (hF _).mono ?_; rintro e w' ⟨rfl, rfl⟩)
      go_ret
      exact ⟨rfl, Grown.refl _⟩
    · have ho := ord_nonzero (fin_nan hx) hz
      by_cases k1 : 5000 < k
      · clear h hz
        rcases ho with ho | ho
        all_goals
          go_enter Try.func19, Try.ntmps19
          go_wp2_with (go_at_call 29; refine (hF _).mono ?_; rintro e w' ⟨rfl, rfl⟩)
          go_ret
          exact ⟨rfl, Grown.refl _⟩
      · have k2 : k < -5000 := by
          rcases h with h | h | h | h
          · exact absurd hx h
          · exact absurd h hz
          · exact absurd h k1
          · exact h
        clear h hz
        rcases ho with ho | ho
        all_goals
          go_enter Try.func19, Try.ntmps19
          go_wp2_with (go_at_call 29; refine (hF _).mono ?_; rintro e w' ⟨rfl, rfl⟩)
          go_ret
          exact ⟨rfl, Grown.refl _⟩
  · have hF := fun u => isFinite_not x u hx
    clear h
    go_enter Try.func19, Try.ntmps19
    go_wp2_with (go_at_call 29; refine (hF _).mono ?_; rintro e w' ⟨rfl, rfl⟩)
    go_ret
    exact ⟨rfl, (Grown.refl _).drew⟩
theorem moved_of {x t t' M E M' E' : Nat} {s : Bool} {k : Int} (hx : Fnt x) (hz : rg x ≠ 0) (k1 : -5000 ≤ k) (k2 : k ≤ 5000) (hti : t < INF) (ht0 : t ≠ 0) (m2 : M < 2 ^ 53) (m3 : mag (rg x) * 2 ^ 52 = M * 2 ^ E) (ht : ScaleRel M ((E : Int) - 1126 + k) t)
    (n2 : M' < 2 ^ 53) (n3 : mag t * 2 ^ 52 = M' * 2 ^ E') (ht' : ScaleRel M' ((E' : Int) - 1126 + -k) t') (h : (FloatKind.f64.format.order (wd s (min t' INF)) x == some .eq) = true) : Moved x k t := by
  refine ⟨hx, hz, k1, k2, hti, ht0, ?_⟩
  by_cases c : 0 ≤ k ∨ -1074 ≤ (E : Int) - 1126 + k
  · exact scale_val m2 m3 ht c
  · have hlt : t' < INF := by
      rcases Nat.lt_or_ge t' INF with q | q
      · exact q
      · rw [Nat.min_eq_right q, ord_inf_fin (inf_wd s) hx] at h
        cases s <;> exact absurd h (by rw [sg_inf]; decide)
    have hl : t' < 9223372036854775808 := Nat.lt_trans hlt INF_lt
    rw [Nat.min_eq_left (Nat.le_of_lt hlt), b_eq (by unfold Fnt; rw [rg_wd _ hl]; exact hlt) hx] at h
    have hv := congrArg Int.natAbs (of_decide_eq_true h)
    rw [natAbs_val, natAbs_val, rg_wd _ hl] at hv
    have h2 := scale_val n2 n3 ht' (.inl (by omega))
    rw [hv, show (- -k).toNat = 0 by omega, Nat.pow_zero, Nat.mul_one] at h2
    rw [show k.toNat = 0 by omega, Nat.pow_zero, Nat.mul_one, h2]
set_option maxRecDepth 100000 in
set_option maxHeartbeats 2000000 in
theorem Moves_any (x : Nat) (k : Int) (w : World) (hx0 : x < 2 ^ 64) :
    Calls Try.prog 19 #[.float .f64 x, .int .i64 k] w fun e w' => ∃ b, e = .returned (.bool b) ∧ Grown w w' ∧ (b = true → ∃ t, Moved x k t) := by
  by_cases hc : ¬ Fnt x ∨ rg x = 0 ∨ 5000 < k ∨ k < -5000
  · exact (Moves_no x k w hc).mono fun e w' ⟨h1, h2⟩ => ⟨false, h1, h2, fun q => Bool.noConfusion q⟩
  have hx : Fnt x := Classical.byContradiction fun q => hc (.inl q)
  have hz : rg x ≠ 0 := fun q => hc (.inr (.inl q))
  have k1 : -5000 ≤ k := Int.not_lt.1 fun q => hc (.inr (.inr (.inr q)))
  have k2 : k ≤ 5000 := Int.not_lt.1 fun q => hc (.inr (.inr (.inl q)))
  clear hc
  obtain ⟨M, E, m1, m2, m3, m4⟩ := norm_form hz
  obtain ⟨t, ht⟩ := scale_exists ((E : Int) - 1126 + k) m2
  have hL := fun u => sLdexp_num x M E t k u hx hx0 hz m1 m2 m3 k1 k2 ht
  have ho := ord_nonzero (fin_nan hx) hz
  have hF := fun u => isFinite_yes x u hx
  have g1 : ¬ (5000 : Int) < k := by omega
  have g2 : ¬ k < -5000 := by omega
  by_cases hti : t < INF
  · have hl : t < 9223372036854775808 := Nat.lt_trans hti INF_lt
    have hrg := rg_wd (sg x) hl
    have hfy : Fnt (wd (sg x) t) := by unfold Fnt; rw [hrg]; exact hti
    rw [Nat.min_eq_left (Nat.le_of_lt hti)] at hL
    have hL' : ∀ u, Calls Try.prog 31 #[.float .f64 x, .int .i64 k] u fun e w' => e = .returned (.float .f64 (wd (sg x) t)) ∧ u = w' := fun u => (hL u).mono fun e w' ⟨q1, q2, _⟩ => ⟨q1, q2 hti⟩
    have hFy := fun u => isFinite_yes (wd (sg x) t) u hfy
    clear hL
    by_cases ht0 : t = 0
    · subst ht0
      have hoy := ord_zero hrg
      clear m1 m2 m3 m4 ht hz hti hl hrg hfy hx
      generalize wd (sg x) 0 = y at *
      rcases ho with ho | ho
      all_goals
        go_enter Try.func19, Try.ntmps19
        go_wp2_with (first | (go_at_call 29; (with_reducible refine (hF _).mono ?_); rintro e w' ⟨rfl, rfl⟩) | (go_at_call 29; (with_reducible refine (hFy _).mono ?_); rintro e w' ⟨rfl, rfl⟩) | (go_at_call 31; (with_reducible refine (hL' _).mono ?_); rintro e w' ⟨rfl, rfl⟩))
        go_ret
        exact ⟨false, rfl, Grown.refl _, fun q => Bool.noConfusion q⟩
    · obtain ⟨M', E', n1, n2, n3, n4⟩ := norm_form ht0
      obtain ⟨t', ht'⟩ := scale_exists ((E' : Int) - 1126 + -k) n2
      have hoy := ord_nonzero (fin_nan hfy) (by rw [hrg]; exact ht0)
      have hLy := fun u => sLdexp_num (wd (sg x) t) M' E' t' (-k) u hfy (wd_lt _ hl) (by rw [hrg]; exact ht0) n1 n2 (by rw [hrg]; exact n3) (by omega) (by omega) ht'
      rw [sg_wd _ hl] at hLy
      have HM := Lib.hid (fun h => moved_of (s := sg x) hx hz k1 k2 hti ht0 m2 m3 ht n2 n3 ht' h)
      clear m1 m2 m3 m4 ht hz hti hl hrg hfy hx n1 n2 n3 n4 ht' ht0
      generalize wd (sg x) t = y at *
      generalize wd (sg x) (min t' INF) = z at *
      rcases ho with ho | ho
      all_goals
        rcases hoy with hoy | hoy
        all_goals
          go_enter Try.func19, Try.ntmps19
          go_wp2_with (first | (go_at_call 29; (with_reducible refine (hF _).mono ?_); rintro e w' ⟨rfl, rfl⟩) | (go_at_call 29; (with_reducible refine (hFy _).mono ?_); rintro e w' ⟨rfl, rfl⟩) | (go_at_call 31; (with_reducible refine (hL' _).mono ?_); rintro e w' ⟨rfl, rfl⟩) | (go_at_call 31; (with_reducible refine (hLy _).mono ?_); rintro e w' ⟨rfl, hw1, hw2⟩))
          go_ret
          exact ⟨_, rfl, hw2, fun q => ⟨t, HM.out q⟩⟩
  · rw [Nat.min_eq_right (Nat.le_of_not_lt hti)] at hL
    have hFy := fun u => isFinite_not (wd (sg x) INF) u (inf_fin (inf_wd (sg x)))
    clear m1 m2 m3 m4 ht hz hti hx
    generalize wd (sg x) INF = y at *
    rcases ho with ho | ho
    all_goals
      go_enter Try.func19, Try.ntmps19
      go_wp2_with (first | (go_at_call 29; (with_reducible refine (hF _).mono ?_); rintro e w' ⟨rfl, rfl⟩) | (go_at_call 29; (with_reducible refine (hFy _).mono ?_); rintro e w' ⟨rfl, rfl⟩) | (go_at_call 31; (with_reducible refine (hL _).mono ?_); rintro e w' ⟨rfl, hw1, hw2⟩))
      go_ret
      exact ⟨false, rfl, hw2.drew, fun q => Bool.noConfusion q⟩
end Go.Proofs.Ytnegjfdaijnadaa
