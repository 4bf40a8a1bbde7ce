/- Contracts of the reference's divides, Mod and Remainder. Conditions: as each states. -/
import Derived.Test.YtnegjfdaijnadaaShf
namespace Go.Proofs.Ytnegjfdaijnadaa
open Flt Ieee Go.RowKit

theorem divides_yes (x y : Nat) (w : World) (hx : Fnt x) (hy : ¬ NaN y) (hz : rg y ≠ 0) :
    Calls Try.prog 33 #[.float .f64 x, .float .f64 y] w fun e w' => e = .returned (.bool true) ∧ w = w' := by
  have ho := ord_nonzero hy hz
  have hF := fun u => isFinite_yes x u hx
  have hN := fun u => isNothing_no y u hy
  clear hz
  rcases ho with ho | ho
  all_goals
    go_enter Try.func33, Try.ntmps33
    go_wp2_with (first | (go_at_call 29; refine (hF _).mono ?_; rintro e w' ⟨rfl, rfl⟩) | (go_at_call 41; refine (hN _).mono ?_; rintro e w' ⟨rfl, rfl⟩))
    go_ret
    exact ⟨rfl, rfl⟩
theorem divides_not (x y : Nat) (w : World) (h : rg y = 0 ∨ ¬ Fnt x ∨ NaN y) :
    Calls Try.prog 33 #[.float .f64 x, .float .f64 y] w fun e w' => e = .returned (.bool false) ∧ Grown w w' := by
  by_cases hx : Fnt x
  · have hF := fun u => isFinite_yes x u hx
    by_cases hy : NaN y
    · have hN := fun u => isNothing_yes y u hy
      clear h
      go_enter Try.func33, Try.ntmps33
      go_wp2_with (first | (go_at_call 29; refine (hF _).mono ?_; rintro e w' ⟨rfl, rfl⟩) | (go_at_call 41; refine (hN _).mono ?_; rintro e w' ⟨rfl, rfl⟩))
      go_ret
      exact ⟨rfl, Grown.refl _⟩
    · have hN := fun u => isNothing_no y u hy
      have hz : rg y = 0 := by
        rcases h with h | h | h
        · exact h
        · exact absurd hx h
        · exact absurd h hy
      have ho := ord_zero hz
      clear h hz
      go_enter Try.func33, Try.ntmps33
      go_wp2_with (first | (go_at_call 29; refine (hF _).mono ?_; rintro e w' ⟨rfl, rfl⟩) | (go_at_call 41; refine (hN _).mono ?_; rintro e w' ⟨rfl, rfl⟩))
      go_ret
      exact ⟨rfl, Grown.refl _⟩
  · have hF := fun u => isFinite_not x u hx
    clear h
    go_enter Try.func33, Try.ntmps33
    go_wp2_with (go_at_call 29; refine (hF _).mono ?_; rintro e w' ⟨rfl, rfl⟩)
    go_ret
    exact ⟨rfl, (Grown.refl _).drew⟩

/-! ### plain -/
theorem scale_exact {R F t : Nat} (h : mag t * 2 ^ 52 = R * 2 ^ F) : ScaleRel R ((F : Int) - 1126) t := by
  have hu : UE = 1074 := UE_eq
  rcases Nat.lt_or_ge F 52 with c | c
  · refine .inr (.inr ⟨by omega, ?_⟩)
    rw [show (-1074 - ((F : Int) - 1126)).toNat = 52 - F by omega]
    obtain ⟨d, hd⟩ : ∃ d, 52 = F + d := ⟨52 - F, by omega⟩
    have e : R = mag t * 2 ^ d := by
      have h2 : mag t * 2 ^ d * 2 ^ F = R * 2 ^ F := by rw [Nat.mul_assoc, ← Nat.pow_add, Nat.add_comm d F, ← hd]; exact h
      exact (Nat.eq_of_mul_eq_mul_right (Nat.two_pow_pos F) h2).symm
    have h3 := hEven_scale (mag t) 0 d
    rw [Nat.zero_add, hEven_zero, ← e] at h3
    rw [show 52 - F = d by omega, h3]
  · rcases Nat.lt_or_ge F 1126 with c' | c'
    · refine .inr (.inl ⟨by omega, by omega, ?_⟩)
      obtain ⟨d, hd⟩ : ∃ d, 52 + UE = F + d := ⟨1126 - F, by omega⟩
      rw [show (-((F : Int) - 1126)).toNat = d by omega]
      have h2 : R * U * 2 ^ 52 = mag t * 2 ^ d * 2 ^ 52 := by
        rw [Nat.mul_right_comm (mag t), h, Nat.mul_assoc R, Nat.mul_assoc R, ← Nat.pow_add, ← hd, Nat.pow_add, Nat.mul_comm U]
        rfl
      exact Nat.eq_of_mul_eq_mul_right (Nat.two_pow_pos 52) h2
    · refine .inl ⟨by omega, ?_⟩
      obtain ⟨d, hd⟩ : ∃ d, F = 52 + UE + d := ⟨F - 1126, by omega⟩
      rw [show ((F : Int) - 1126).toNat = d by omega]
      have h2 : R * U * 2 ^ d * 2 ^ 52 = mag t * 2 ^ 52 := by
        rw [h, hd, Nat.pow_add, Nat.pow_add, show (2 ^ UE : Nat) = U from rfl]
        rw [Nat.mul_assoc R, Nat.mul_assoc R, Nat.mul_comm (U * 2 ^ d), Nat.mul_assoc (2 ^ 52)]
      exact Nat.eq_of_mul_eq_mul_right (Nat.two_pow_pos 52) h2
theorem sgnW_wd (s : Bool) {t : Nat} (h : t < 9223372036854775808) : sgnW s (wd false t) = wd s t := by
  cases s
  · rfl
  · show negW (wd false t) = wd true t
    rw [negW_eq (wd_lt _ h), sg_wd _ h, rg_wd _ h]; rfl
/-- X and Y by their digits: M times 2 to the power of k, and n, in the same unit. -/
theorem units {X Y M N k F : Nat} (hY : 0 < Y) (h1 : X * 2 ^ 52 = M * 2 ^ (k + F)) (h2 : Y * 2 ^ 52 = N * 2 ^ F) : X % Y * 2 ^ 52 = (M * 2 ^ k) % N * 2 ^ F ∧ X / Y = (M * 2 ^ k) / N ∧ 0 < N := by
  have hp := Nat.two_pow_pos F
  have h52 := Nat.two_pow_pos 52
  have e1 : X * 2 ^ 52 = M * 2 ^ k * 2 ^ F := by rw [h1, Nat.pow_add, Nat.mul_assoc]
  have hN : 0 < N := by
    rcases Nat.eq_zero_or_pos N with q | q
    · subst q
      rw [Nat.zero_mul] at h2
      have := Nat.mul_pos hY h52
      omega
    · exact q
  refine ⟨?_, ?_, hN⟩
  · rw [← Nat.mul_mod_mul_right, e1, h2, Nat.mul_mod_mul_right]
  · rw [← Nat.mul_div_mul_right X Y h52, e1, h2, Nat.mul_div_mul_right _ _ hp]
theorem less_of_digits {X Y M N E F : Nat} (m2 : M < 2 ^ 53) (n1 : 2 ^ 52 ≤ N) (h1 : X * 2 ^ 52 = M * 2 ^ E) (h2 : Y * 2 ^ 52 = N * 2 ^ F) (h : E < F) : X * 2 ^ (F - E - 1) < Y := by
  have a1 : M * 2 ^ E < 2 ^ 53 * 2 ^ E := (Nat.mul_lt_mul_right (Nat.two_pow_pos E)).2 m2
  have a2 : 2 ^ 52 * 2 ^ F ≤ N * 2 ^ F := Nat.mul_le_mul_right _ n1
  obtain ⟨d, hd⟩ : ∃ d, F = E + d + 1 := ⟨F - E - 1, by omega⟩
  rw [show F - E - 1 = d by omega]
  have a3 : 2 ^ 52 * 2 ^ F = 2 ^ 53 * 2 ^ E * 2 ^ d := by rw [hd, show 2 ^ (E + d + 1) = 2 ^ (E + d) * 2 from Nat.pow_succ _ _, Nat.pow_add, Nat.mul_assoc (2 ^ 53)]; generalize 2 ^ E * 2 ^ d = C; omega
  have a4 : X * 2 ^ d * 2 ^ 52 < Y * 2 ^ 52 := by
    rw [Nat.mul_right_comm, h1, h2]
    refine Nat.lt_of_lt_of_le ((Nat.mul_lt_mul_right (Nat.two_pow_pos d)).2 a1) ?_
    rw [← a3]; exact a2
  exact Nat.lt_of_mul_lt_mul_right a4

/-! ### Mod -/
theorem fin_abs_word {x : Nat} (hx : Fnt x) : rg x < INF := hx
set_option maxRecDepth 100000 in
set_option maxHeartbeats 2000000 in
theorem sMod_num (x y : Nat) (w : World) (hx : Fnt x) (hy : Fnt y) (hx0 : x < 2 ^ 64) (hy0 : y < 2 ^ 64) (hxz : rg x ≠ 0) (hz : rg y ≠ 0) :
    Calls Try.prog 23 #[.float .f64 x, .float .f64 y] w fun e w' => e = .returned (.float .f64 (modW x y)) ∧ w = w' := by
  obtain ⟨M, E, m1, m2, m3, m4⟩ := norm_form hxz
  obtain ⟨N, F, n1, n2, n3, n4⟩ := norm_form hz
  have hE := m4 hx
  have hF := n4 hy
  have hD := fun u => divides_yes x y u hx (fin_nan hy) hz
  have hI := fun u => isInfinity_fin y u hy
  have ho := ord_nonzero (fin_nan hx) hxz
  have hSx := fun u => size_pos x u (fin_nan hx) hx0
  have hSy := fun u => size_pos y u (fin_nan hy) hy0
  have hPx := fun u => parts_any (rg x) M E u hxz hx m1 m2 m3
  have hPy := fun u => parts_any (rg y) N F u hz hy n1 n2 n3
  have hN := fun u => isNegative_num x u (fin_nan hx)
  change ∀ u, Calls Try.prog 36 #[.float .f64 (absW x)] u _ at hPx
  change ∀ u, Calls Try.prog 36 #[.float .f64 (absW y)] u _ at hPy
  by_cases c : E < F
  · have hlt := less_of_digits m2 n1 m3 n3 c
    have hlt2 : mag (rg x) < mag (rg y) := Nat.lt_of_le_of_lt (Nat.le_mul_of_pos_right _ (Nat.two_pow_pos _)) hlt
    have hres : modW x y = x := by rw [modW_eq (r := rg x) (Nat.mod_eq_of_lt hlt2).symm, wd_sg_rg hx0]
    rw [hres]
    have c1 : (E : Int) - 1126 < (F : Int) - 1126 := by omega
    clear hlt hlt2 hres m1 m2 m3 m4 n1 n2 n3 n4 hx hy hxz hz hN c
    generalize (E : Int) - 1126 = e1 at *
    generalize (F : Int) - 1126 = f1 at *
    generalize absW x = ax at *
    generalize absW y = ay at *
    rcases ho with ho | ho
    all_goals
      go_enter Try.func23, Try.ntmps23
      go_wp2_with (first | (go_at_call 33; refine (hD _).mono ?_; rintro e w' ⟨rfl, rfl⟩) | (go_at_call 35; refine (hI _).mono ?_; rintro e w' ⟨rfl, rfl⟩) | (go_at_call 37; (with_reducible refine (hSx _).mono ?_); rintro e w' ⟨rfl, rfl⟩) | (go_at_call 37; (with_reducible refine (hSy _).mono ?_); rintro e w' ⟨rfl, rfl⟩) | (go_at_call 36; (with_reducible refine (hPx _).mono ?_); rintro e w' ⟨rfl, rfl⟩) | (go_at_call 36; (with_reducible refine (hPy _).mono ?_); rintro e w' ⟨rfl, rfl⟩))
      go_ret
      exact ⟨rfl, rfl⟩
  · obtain ⟨k, hk⟩ : ∃ k, E = k + F := ⟨E - F, by omega⟩
    rw [hk] at m3
    obtain ⟨u1, -, hNp⟩ := units (mag_pos hz) m3 n3
    obtain ⟨t, ht, hti, -⟩ := mod_rung (rg x) (rg y) hx hz
    have hres : modW x y = wd (sg x) t := modW_eq ht
    rw [hres]
    rw [← ht] at u1
    have hR := fun u => rest_any M N k _ _ u hNp (by omega) (by omega) (by omega) rfl rfl
    have hlt := Nat.mod_lt (M * 2 ^ k) hNp
    have hC := fun u => scaled_any ((M * 2 ^ k) % N) t ((F : Int) - 1126) u (by omega) (by omega) (by omega) (scale_exact u1)
    rw [Nat.min_eq_left (Nat.le_of_lt hti)] at hC
    have hC' : ∀ u, Calls Try.prog 40 #[.int .u64 (((M * 2 ^ k) % N : Nat) : Int), .int .i64 ((F : Int) - 1126)] u fun e w' => e = .returned (.float .f64 (wd false t)) ∧ u = w' := fun u => (hC u).mono fun e w' ⟨q1, q2, _⟩ => ⟨q1, q2 hti⟩
    have hG := fun u => signed_any (sg x) (wd false t) u
    rw [sgnW_wd _ (Nat.lt_trans hti INF_lt)] at hG
    have c1 : ¬ (E : Int) - 1126 < (F : Int) - 1126 := by omega
    have c2 : (E : Int) - 1126 - ((F : Int) - 1126) = (k : Int) := by omega
    have c3 : -5000 ≤ (E : Int) - 1126 ∧ (E : Int) - 1126 ≤ 5000 := by omega
    have c4 : -5000 ≤ (F : Int) - 1126 ∧ (F : Int) - 1126 ≤ 5000 := by omega
    generalize hRR : (M * 2 ^ k) % N = R at *
    generalize decide ((M * 2 ^ k) / N % 2 = 1) = B at *
    generalize (E : Int) - 1126 = e1 at *
    generalize (F : Int) - 1126 = f1 at *
    clear hC m1 m2 m3 m4 n1 n2 n3 n4 hx hy hxz hz hk u1 hNp ht hti hres hlt hRR
    generalize absW x = ax at *
    generalize absW y = ay at *
    generalize wd false t = zt at *
    generalize wd (sg x) t = z at *
    generalize sg x = sx at *
    rcases ho with ho | ho
    all_goals
      go_enter Try.func23, Try.ntmps23
      go_wp2_with (first | (go_at_call 33; refine (hD _).mono ?_; rintro e w' ⟨rfl, rfl⟩) | (go_at_call 35; refine (hI _).mono ?_; rintro e w' ⟨rfl, rfl⟩) | (go_at_call 37; (with_reducible refine (hSx _).mono ?_); rintro e w' ⟨rfl, rfl⟩) | (go_at_call 37; (with_reducible refine (hSy _).mono ?_); rintro e w' ⟨rfl, rfl⟩) | (go_at_call 36; (with_reducible refine (hPx _).mono ?_); rintro e w' ⟨rfl, rfl⟩) | (go_at_call 36; (with_reducible refine (hPy _).mono ?_); rintro e w' ⟨rfl, rfl⟩) | (go_at_call 38; (with_reducible refine (hR _).mono ?_); rintro e w' ⟨rfl, rfl⟩) | (go_at_call 40; (with_reducible refine (hC' _).mono ?_); rintro e w' ⟨rfl, rfl⟩) | (go_at_call 28; (with_reducible refine (hN _).mono ?_); rintro e w' ⟨rfl, rfl⟩) | (go_at_call 39; (with_reducible refine (hG _).mono ?_); rintro e w' ⟨rfl, rfl⟩))
      go_ret
      exact ⟨rfl, rfl⟩
theorem sMod_zero (x y : Nat) (w : World) (hy : Fnt y) (hxz : rg x = 0) (hz : rg y ≠ 0) :
    Calls Try.prog 23 #[.float .f64 x, .float .f64 y] w fun e w' => e = .returned (.float .f64 x) ∧ w = w' := by
  have hD := fun u => divides_yes x y u (fin_of_zero hxz) (fin_nan hy) hz
  have hI := fun u => isInfinity_fin y u hy
  have ho := ord_zero hxz
  clear hxz hz
  go_enter Try.func23, Try.ntmps23
  go_wp2_with (first | (go_at_call 33; refine (hD _).mono ?_; rintro e w' ⟨rfl, rfl⟩) | (go_at_call 35; refine (hI _).mono ?_; rintro e w' ⟨rfl, rfl⟩))
  go_ret
  exact ⟨rfl, rfl⟩
theorem sMod_inf (x y : Nat) (w : World) (hx : Fnt x) (hy : Inf y) :
    Calls Try.prog 23 #[.float .f64 x, .float .f64 y] w fun e w' => e = .returned (.float .f64 x) ∧ Grown w w' := by
  have hz : rg y ≠ 0 := by have h' : rg y = INF := hy; unfold INF at h'; omega
  have hD := fun u => divides_yes x y u hx (inf_nan hy) hz
  have hI := fun u => isInfinity_yes y u hy
  clear hz
  go_enter Try.func23, Try.ntmps23
  go_wp2_with (first | (go_at_call 33; refine (hD _).mono ?_; rintro e w' ⟨rfl, rfl⟩) | (go_at_call 35; refine (hI _).mono ?_; rintro e w' ⟨rfl, rfl⟩))
  go_ret
  exact ⟨rfl, (Grown.refl _).drew⟩
theorem sMod_none (x y : Nat) (w : World) (h : rg y = 0 ∨ ¬ Fnt x ∨ NaN y) :
    Calls Try.prog 23 #[.float .f64 x, .float .f64 y] w fun e w' => ∃ r, e = .returned (.float .f64 r) ∧ NaN r ∧ Grown w w' := by
  have hD := fun u => divides_not x y u h
  clear h
  go_enter Try.func23, Try.ntmps23
  go_wp2_with (first | (go_at_call 33; refine (hD _).mono ?_; rintro e w' ⟨rfl, hg⟩) | (go_at_call 34; refine (nothing_any _).mono ?_; rintro e w' ⟨rfl, rfl⟩))
  go_ret
  exact ⟨_, rfl, tapeNaN_nan _ _ _, hg.drew⟩
theorem sRemainder_zero (x y : Nat) (w : World) (hy : Fnt y) (hxz : rg x = 0) (hz : rg y ≠ 0) :
    Calls Try.prog 26 #[.float .f64 x, .float .f64 y] w fun e w' => e = .returned (.float .f64 x) ∧ w = w' := by
  have hD := fun u => divides_yes x y u (fin_of_zero hxz) (fin_nan hy) hz
  have hI := fun u => isInfinity_fin y u hy
  have ho := ord_zero hxz
  clear hxz hz
  go_enter Try.func26, Try.ntmps26
  go_wp2_with (first | (go_at_call 33; refine (hD _).mono ?_; rintro e w' ⟨rfl, rfl⟩) | (go_at_call 35; refine (hI _).mono ?_; rintro e w' ⟨rfl, rfl⟩))
  go_ret
  exact ⟨rfl, rfl⟩
theorem sRemainder_inf (x y : Nat) (w : World) (hx : Fnt x) (hy : Inf y) :
    Calls Try.prog 26 #[.float .f64 x, .float .f64 y] w fun e w' => e = .returned (.float .f64 x) ∧ Grown w w' := by
  have hz : rg y ≠ 0 := by have h' : rg y = INF := hy; unfold INF at h'; omega
  have hD := fun u => divides_yes x y u hx (inf_nan hy) hz
  have hI := fun u => isInfinity_yes y u hy
  clear hz
  go_enter Try.func26, Try.ntmps26
  go_wp2_with (first | (go_at_call 33; refine (hD _).mono ?_; rintro e w' ⟨rfl, rfl⟩) | (go_at_call 35; refine (hI _).mono ?_; rintro e w' ⟨rfl, rfl⟩))
  go_ret
  exact ⟨rfl, (Grown.refl _).drew⟩
theorem sRemainder_none (x y : Nat) (w : World) (h : rg y = 0 ∨ ¬ Fnt x ∨ NaN y) :
    Calls Try.prog 26 #[.float .f64 x, .float .f64 y] w fun e w' => ∃ r, e = .returned (.float .f64 r) ∧ NaN r ∧ Grown w w' := by
  have hD := fun u => divides_not x y u h
  clear h
  go_enter Try.func26, Try.ntmps26
  go_wp2_with (first | (go_at_call 33; refine (hD _).mono ?_; rintro e w' ⟨rfl, hg⟩) | (go_at_call 34; refine (nothing_any _).mono ?_; rintro e w' ⟨rfl, rfl⟩))
  go_ret
  exact ⟨_, rfl, tapeNaN_nan _ _ _, hg.drew⟩
end Go.Proofs.Ytnegjfdaijnadaa
