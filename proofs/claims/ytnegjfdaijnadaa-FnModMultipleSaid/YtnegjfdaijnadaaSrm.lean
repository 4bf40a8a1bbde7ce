/- The contract of the reference's Remainder of finite numbers. Conditions: as each states. -/
import Derived.Test.YtnegjfdaijnadaaSmd
namespace Go.Proofs.Ytnegjfdaijnadaa
open Flt Ieee Go.RowKit

theorem remW_pos {x y t : Nat} (ht : t < INF) (h : remZ (mag (rg x)) (mag (rg y)) = (mag t : Int)) : remW x y = wd (sg x) t := by
  have hl : t < 9223372036854775808 := Nat.lt_trans ht INF_lt
  unfold remW
  rw [h]
  exact (word_near (wd_lt _ hl) (by unfold Fnt; rw [rg_wd _ hl]; exact ht) (val_wd _ hl) (fun _ => sg_wd _ hl)).symm
theorem remW_neg {x y t : Nat} (ht : t < INF) (h0 : t ≠ 0) (h : remZ (mag (rg x)) (mag (rg y)) = -(mag t : Int)) : remW x y = wd (!sg x) t := by
  have hl : t < 9223372036854775808 := Nat.lt_trans ht INF_lt
  have hp := mag_pos h0
  unfold remW
  rw [h]
  refine (word_near (wd_lt _ hl) (by unfold Fnt; rw [rg_wd _ hl]; exact ht) ?_ ?_).symm
  · rw [val_wd _ hl]
    cases sg x
    · rfl
    · exact (Int.neg_neg _).symm
  · intro e
    cases hs : sg x
    · rw [hs] at e; simp only [Bool.false_eq_true, if_false] at e; omega
    · rw [hs] at e; simp only [if_true] at e; omega
/-- The end of Remainder, in the unit of f. -/
theorem rem_tail {x y M n k f : Nat} (hx : Fnt x) (hz : rg y ≠ 0) (h1 : mag (rg x) * 2 ^ 52 = M * 2 ^ (k + f)) (h2 : mag (rg y) * 2 ^ 52 = n * 2 ^ f) (hn : n < 2 ^ 54) (hf : f ≤ 2097) :
    ∃ (R D t : Nat) (B c : Bool), 0 < n ∧ (M * 2 ^ k) % n = R ∧ decide ((M * 2 ^ k) / n % 2 = 1) = B ∧ R < n ∧ D + R = n ∧ (n < 2 * R ∨ (2 * R = n ∧ B = true) ↔ c = true) ∧
      (c = true → remW x y = wd (!sg x) t ∧ ∀ u, Calls Try.prog 40 #[.int .u64 (D : Int), .int .i64 ((f : Int) - 1126)] u fun e w' => e = .returned (.float .f64 (wd false t)) ∧ u = w') ∧
      (c = false → remW x y = wd (sg x) t ∧ ∀ u, Calls Try.prog 40 #[.int .u64 (R : Int), .int .i64 ((f : Int) - 1126)] u fun e w' => e = .returned (.float .f64 (wd false t)) ∧ u = w') ∧ t < INF := by
  have hp := mag_pos hz
  obtain ⟨u1, u2, hn0⟩ := units hp h1 h2
  have hRn := Nat.mod_lt (M * 2 ^ k) hn0
  have hmY := Nat.mod_lt (mag (rg x)) hp
  obtain ⟨t, ht, hti⟩ := rem_rung (rg x) (rg y) hx hz
  -- the tests on both sides
  have hP := Nat.two_pow_pos f
  have hQ := Nat.two_pow_pos 52
  have t1 : mag (rg y) < 2 * (mag (rg x) % mag (rg y)) ↔ n < 2 * ((M * 2 ^ k) % n) := by
    rw [← Nat.mul_lt_mul_right hQ, Nat.mul_assoc, u1, h2, ← Nat.mul_assoc, Nat.mul_lt_mul_right hP]
  have t2 : 2 * (mag (rg x) % mag (rg y)) = mag (rg y) ↔ 2 * ((M * 2 ^ k) % n) = n := by
    rw [← Nat.mul_left_inj (Nat.ne_of_gt hQ), Nat.mul_assoc, u1, h2, ← Nat.mul_assoc, Nat.mul_left_inj (Nat.ne_of_gt hP)]
  have t3 : 2 * (mag (rg x) % mag (rg y)) < mag (rg y) ↔ 2 * ((M * 2 ^ k) % n) < n := by
    rw [← Nat.mul_lt_mul_right hQ, Nat.mul_assoc, u1, h2, ← Nat.mul_assoc, Nat.mul_lt_mul_right hP]
  have hz2 : remZ (mag (rg x)) (mag (rg y)) = if 2 * ((M * 2 ^ k) % n) < n ∨ (2 * ((M * 2 ^ k) % n) = n ∧ (M * 2 ^ k) / n % 2 = 0) then ((mag (rg x) % mag (rg y) : Nat) : Int) else ((mag (rg x) % mag (rg y) : Nat) : Int) - (mag (rg y) : Int) := by
    unfold remZ
    rw [u2]
    simp only [t2, t3]
  clear t1 t2 t3
  by_cases c : 2 * ((M * 2 ^ k) % n) < n ∨ (2 * ((M * 2 ^ k) % n) = n ∧ (M * 2 ^ k) / n % 2 = 0)
  · rw [if_pos c] at hz2
    rw [hz2, Int.natAbs_natCast] at ht
    refine ⟨_, n - (M * 2 ^ k) % n, t, _, false, hn0, rfl, rfl, hRn, by omega, ?_, fun q => Bool.noConfusion q, fun _ => ⟨remW_pos hti (by rw [hz2, ht]), fun u => ?_⟩, hti⟩
    · constructor
      · rintro (q | ⟨q, q2⟩)
        · omega
        · have := of_decide_eq_true q2; omega
      · exact fun q => Bool.noConfusion q
    · have hs := scaled_any ((M * 2 ^ k) % n) t ((f : Int) - 1126) u (by omega) (by omega) (by omega) (scale_exact (by rw [ht]; exact u1))
      rw [Nat.min_eq_left (Nat.le_of_lt hti)] at hs
      exact hs.mono fun e w' ⟨q1, q2, _⟩ => ⟨q1, q2 hti⟩
  · rw [if_neg c] at hz2
    have ht' : mag t = mag (rg y) - mag (rg x) % mag (rg y) := by rw [ht, hz2]; generalize mag (rg x) % mag (rg y) = A at *; omega
    have ht0 : t ≠ 0 := by
      intro e
      rw [e, mag_zero] at ht'
      generalize mag (rg x) % mag (rg y) = A at *
      omega
    refine ⟨_, n - (M * 2 ^ k) % n, t, _, true, hn0, rfl, rfl, hRn, by omega, ?_, fun _ => ⟨remW_neg hti ht0 (by rw [hz2, ht']; generalize mag (rg x) % mag (rg y) = A at *; omega), fun u => ?_⟩, fun q => Bool.noConfusion q, hti⟩
    · constructor
      · exact fun _ => rfl
      · intro _
        rcases Nat.lt_or_ge n (2 * ((M * 2 ^ k) % n)) with q | q
        · exact .inl q
        · refine .inr ⟨by omega, decide_eq_true ?_⟩
          generalize (M * 2 ^ k) / n = S at *
          omega
    · have hs := scaled_any (n - (M * 2 ^ k) % n) t ((f : Int) - 1126) u (by omega) (by omega) (by omega) (scale_exact (by rw [ht', Nat.sub_mul, u1, h2, ← Nat.sub_mul]))
      rw [Nat.min_eq_left (Nat.le_of_lt hti)] at hs
      exact hs.mono fun e w' ⟨q1, q2, _⟩ => ⟨q1, q2 hti⟩
set_option maxRecDepth 100000 in
set_option maxHeartbeats 4000000 in
theorem sRemainder_num (x y : Nat) (w : World) (hx : Fnt x) (hy : Fnt y) (hx0 : x < 2 ^ 64) (hy0 : y < 2 ^ 64) (hxz : rg x ≠ 0) (hz : rg y ≠ 0) :
    Calls Try.prog 26 #[.float .f64 x, .float .f64 y] w fun e w' => e = .returned (.float .f64 (remW x y)) ∧ w = w' := by
  obtain ⟨M, E, m1, m2, m3, m4⟩ := norm_form hxz
  obtain ⟨N, F, n1, n2, n3, n4⟩ := norm_form hz
  have hE := m4 hx
  have hF := n4 hy
  have hD := fun u => divides_yes x y u hx (fin_nan hy) hz
  have hI := fun u => isInfinity_fin y u hy
  have ho := ord_nonzero (fin_nan hx) hxz
  have hSx := fun u => size_pos x u (fin_nan hx) hx0
  have hSy := fun u => size_pos y u (fin_nan hy) hy0
  have hPx := fun u => parts_any (rg x) M E u hxz hx m1 m2 m3
  have hPy := fun u => parts_any (rg y) N F u hz hy n1 n2 n3
  have hN := fun u => isNegative_num x u (fin_nan hx)
  change ∀ u, Calls Try.prog 36 #[.float .f64 (absW x)] u _ at hPx
  change ∀ u, Calls Try.prog 36 #[.float .f64 (absW y)] u _ at hPy
  have b1 : -5000 ≤ (E : Int) - 1126 ∧ (E : Int) - 1126 ≤ 5000 := by omega
  have b2 : -5000 ≤ (F : Int) - 1126 ∧ (F : Int) - 1126 ≤ 5000 := by omega
  by_cases c : E + 1 < F
  · have hlt := less_of_digits m2 n1 m3 n3 (by omega)
    have hle : 2 * mag (rg x) ≤ mag (rg y) := by
      have h2 : 2 ^ 1 ≤ 2 ^ (F - E - 1) := Nat.pow_le_pow_right (by omega) (by omega)
      have := Nat.mul_le_mul_left (mag (rg x)) h2
      omega
    rw [remW_keep hx hx0 hz hle]
    have c1 : (E : Int) - 1126 + 1 < (F : Int) - 1126 := by omega
    clear hlt hle m1 m2 m3 m4 n1 n2 n3 n4 hx hy hxz hz hN c
    generalize (E : Int) - 1126 = e1 at *
    generalize (F : Int) - 1126 = f1 at *
    generalize absW x = ax at *
    generalize absW y = ay at *
    rcases ho with ho | ho
    all_goals
      go_enter Try.func26, Try.ntmps26
      go_wp2_with (first | (go_at_call 33; refine (hD _).mono ?_; rintro e w' ⟨rfl, rfl⟩) | (go_at_call 35; refine (hI _).mono ?_; rintro e w' ⟨rfl, rfl⟩) | (go_at_call 37; (with_reducible refine (hSx _).mono ?_); rintro e w' ⟨rfl, rfl⟩) | (go_at_call 37; (with_reducible refine (hSy _).mono ?_); rintro e w' ⟨rfl, rfl⟩) | (go_at_call 36; (with_reducible refine (hPx _).mono ?_); rintro e w' ⟨rfl, rfl⟩) | (go_at_call 36; (with_reducible refine (hPy _).mono ?_); rintro e w' ⟨rfl, rfl⟩))
      go_ret
      exact ⟨rfl, rfl⟩
  · -- the adjusted divisor
    obtain ⟨n, k, f, ht1, ht2, hn54, hf, hcase⟩ : ∃ n k f : Nat, mag (rg x) * 2 ^ 52 = M * 2 ^ (k + f) ∧ mag (rg y) * 2 ^ 52 = n * 2 ^ f ∧ n < 2 ^ 54 ∧ f ≤ 2097 ∧ ((E < F ∧ n = 2 * N ∧ f = E ∧ k = 0) ∨ (¬ E < F ∧ n = N ∧ f = F ∧ E = k + F)) := by
      by_cases d : E < F
      · refine ⟨2 * N, 0, E, by rw [Nat.zero_add]; exact m3, ?_, by omega, hE, .inl ⟨d, rfl, rfl, rfl⟩⟩
        rw [n3, show F = E + 1 by omega, Nat.pow_succ, Nat.mul_comm 2 N, Nat.mul_assoc, Nat.mul_comm 2]
      · exact ⟨N, E - F, F, by rw [Nat.sub_add_cancel (by omega)]; exact m3, n3, by omega, hF, .inr ⟨d, rfl, rfl, by omega⟩⟩
    obtain ⟨R, D, t, B, cb, hn0, hR, hB, hRn, hD2, hcb, k1, k2, hti⟩ := rem_tail hx hz ht1 ht2 hn54 hf
    have hRe := fun u => rest_any M n k R B u hn0 (by omega) (by omega) (by omega) hR hB
    have w1 : IntKind.u64.wrap (2 * (R : Int)) = 2 * (R : Int) := by rw [IntKind.wrap_u64]; omega
    have w2 : IntKind.u64.wrap ((n : Int) - (R : Int)) = (D : Int) := by rw [IntKind.wrap_u64]; omega
    have w3 : IntKind.u64.wrap (2 * (N : Int)) = 2 * (N : Int) := by rw [IntKind.wrap_u64]; omega
    have c1 : ¬ (E : Int) - 1126 + 1 < (F : Int) - 1126 := by omega
    have hG1 := fun u => signed_any (sg x) (wd false t) u
    have hG2 := fun u => signed_any (!sg x) (wd false t) u
    rw [sgnW_wd _ (Nat.lt_trans hti INF_lt)] at hG1 hG2
    -- the test
    have hco : cb = true ∧ (n : Int) < 2 * (R : Int) ∨ (cb = true ∧ ¬ (n : Int) < 2 * (R : Int) ∧ (2 * (R : Int) == (n : Int)) = true ∧ B = true) ∨ (cb = false ∧ ¬ (n : Int) < 2 * (R : Int) ∧ (2 * (R : Int) == (n : Int)) = true ∧ B = false) ∨ (cb = false ∧ ¬ (n : Int) < 2 * (R : Int) ∧ (2 * (R : Int) == (n : Int)) = false) := by
      rcases Nat.lt_trichotomy n (2 * R) with q | q | q
      · exact .inl ⟨hcb.1 (.inl q), by omega⟩
      · have q2 : (2 * (R : Int) == (n : Int)) = true := by rw [beq_iff_eq]; omega
        cases hBB : B
        · refine .inr (.inr (.inl ⟨?_, by omega, q2, rfl⟩))
          cases hcc : cb
          · rfl
          · rcases hcb.2 hcc with z | z
            · omega
            · rw [hBB] at z; exact Bool.noConfusion z.2
        · exact .inr (.inl ⟨hcb.1 (.inr ⟨q.symm, hBB⟩), by omega, q2, rfl⟩)
      · refine .inr (.inr (.inr ⟨?_, by omega, by rw [beq_eq_false_iff_ne]; omega⟩))
        cases hcc : cb
        · rfl
        · rcases hcb.2 hcc with z | z <;> omega
    have HN := Lib.hid hco
    clear hco hcb hR hB m1 m2 m3 m4 n1 n2 n3 n4 hx hy hxz hz ht1 ht2 hn54 hf hti hRn hn0 hD2 c
    generalize absW x = ax at *
    generalize absW y = ay at *
    generalize wd false t = zt at *
    generalize wd (sg x) t = z1 at *
    generalize wd (!sg x) t = z2 at *
    generalize sg x = sx at *
    rcases hcase with ⟨d1, d2, d3, d4⟩ | ⟨d1, d2, d3, d4⟩
    · subst d3
      subst d4
      have d5 : (f : Int) - 1126 < (F : Int) - 1126 := by omega
      have w4 : 2 * (N : Int) = (n : Int) := by omega
      rw [w4] at w3
      have w5 : IntKind.u64.wrap (n : Int) = (n : Int) := w3
      have hRe' : ∀ u, Calls Try.prog 38 #[.int .u64 (M : Int), .int .u64 (n : Int), .int .i64 0] u fun e' w' => e' = .returned (.tuple #[.int .u64 (R : Int), .bool B]) ∧ u = w' := hRe
      clear hRe d1 d2
      generalize (f : Int) - 1126 = e1 at *
      generalize (F : Int) - 1126 = f1 at *
      rcases HN.out with ⟨rfl, q1⟩ | ⟨rfl, q1, q2, rfl⟩ | ⟨rfl, q1, q2, rfl⟩ | ⟨rfl, q1, q2⟩
      · obtain ⟨kr, kc⟩ := k1 rfl
        clear k1 k2 HN
        rw [kr]
        rcases ho with ho | ho
        all_goals
          go_enter Try.func26, Try.ntmps26
          go_wp2_with (first | (go_at_call 33; refine (hD _).mono ?_; rintro e w' ⟨rfl, rfl⟩) | (go_at_call 35; refine (hI _).mono ?_; rintro e w' ⟨rfl, rfl⟩) | (go_at_call 37; (with_reducible refine (hSx _).mono ?_); rintro e w' ⟨rfl, rfl⟩) | (go_at_call 37; (with_reducible refine (hSy _).mono ?_); rintro e w' ⟨rfl, rfl⟩) | (go_at_call 36; (with_reducible refine (hPx _).mono ?_); rintro e w' ⟨rfl, rfl⟩) | (go_at_call 36; (with_reducible refine (hPy _).mono ?_); rintro e w' ⟨rfl, rfl⟩) | (go_at_call 38; (with_reducible refine (hRe' _).mono ?_); rintro e w' ⟨rfl, rfl⟩) | (go_at_call 40; (with_reducible refine (kc _).mono ?_); rintro e w' ⟨rfl, rfl⟩) | (go_at_call 28; (with_reducible refine (hN _).mono ?_); rintro e w' ⟨rfl, rfl⟩) | (go_at_call 39; (with_reducible refine (hG2 _).mono ?_); rintro e w' ⟨rfl, rfl⟩))
          go_ret
          exact ⟨rfl, rfl⟩
      · obtain ⟨kr, kc⟩ := k1 rfl
        clear k1 k2 HN
        rw [kr]
        rcases ho with ho | ho
        all_goals
          go_enter Try.func26, Try.ntmps26
          go_wp2_with (first | (go_at_call 33; refine (hD _).mono ?_; rintro e w' ⟨rfl, rfl⟩) | (go_at_call 35; refine (hI _).mono ?_; rintro e w' ⟨rfl, rfl⟩) | (go_at_call 37; (with_reducible refine (hSx _).mono ?_); rintro e w' ⟨rfl, rfl⟩) | (go_at_call 37; (with_reducible refine (hSy _).mono ?_); rintro e w' ⟨rfl, rfl⟩) | (go_at_call 36; (with_reducible refine (hPx _).mono ?_); rintro e w' ⟨rfl, rfl⟩) | (go_at_call 36; (with_reducible refine (hPy _).mono ?_); rintro e w' ⟨rfl, rfl⟩) | (go_at_call 38; (with_reducible refine (hRe' _).mono ?_); rintro e w' ⟨rfl, rfl⟩) | (go_at_call 40; (with_reducible refine (kc _).mono ?_); rintro e w' ⟨rfl, rfl⟩) | (go_at_call 28; (with_reducible refine (hN _).mono ?_); rintro e w' ⟨rfl, rfl⟩) | (go_at_call 39; (with_reducible refine (hG2 _).mono ?_); rintro e w' ⟨rfl, rfl⟩))
          go_ret
          exact ⟨rfl, rfl⟩
      · obtain ⟨kr, kc⟩ := k2 rfl
        clear k1 k2 HN
        rw [kr]
        rcases ho with ho | ho
        all_goals
          go_enter Try.func26, Try.ntmps26
          go_wp2_with (first | (go_at_call 33; refine (hD _).mono ?_; rintro e w' ⟨rfl, rfl⟩) | (go_at_call 35; refine (hI _).mono ?_; rintro e w' ⟨rfl, rfl⟩) | (go_at_call 37; (with_reducible refine (hSx _).mono ?_); rintro e w' ⟨rfl, rfl⟩) | (go_at_call 37; (with_reducible refine (hSy _).mono ?_); rintro e w' ⟨rfl, rfl⟩) | (go_at_call 36; (with_reducible refine (hPx _).mono ?_); rintro e w' ⟨rfl, rfl⟩) | (go_at_call 36; (with_reducible refine (hPy _).mono ?_); rintro e w' ⟨rfl, rfl⟩) | (go_at_call 38; (with_reducible refine (hRe' _).mono ?_); rintro e w' ⟨rfl, rfl⟩) | (go_at_call 40; (with_reducible refine (kc _).mono ?_); rintro e w' ⟨rfl, rfl⟩) | (go_at_call 28; (with_reducible refine (hN _).mono ?_); rintro e w' ⟨rfl, rfl⟩) | (go_at_call 39; (with_reducible refine (hG1 _).mono ?_); rintro e w' ⟨rfl, rfl⟩))
          go_ret
          exact ⟨rfl, rfl⟩
      · obtain ⟨kr, kc⟩ := k2 rfl
        clear k1 k2 HN
        rw [kr]
        rcases ho with ho | ho
        all_goals
          go_enter Try.func26, Try.ntmps26
          go_wp2_with (first | (go_at_call 33; refine (hD _).mono ?_; rintro e w' ⟨rfl, rfl⟩) | (go_at_call 35; refine (hI _).mono ?_; rintro e w' ⟨rfl, rfl⟩) | (go_at_call 37; (with_reducible refine (hSx _).mono ?_); rintro e w' ⟨rfl, rfl⟩) | (go_at_call 37; (with_reducible refine (hSy _).mono ?_); rintro e w' ⟨rfl, rfl⟩) | (go_at_call 36; (with_reducible refine (hPx _).mono ?_); rintro e w' ⟨rfl, rfl⟩) | (go_at_call 36; (with_reducible refine (hPy _).mono ?_); rintro e w' ⟨rfl, rfl⟩) | (go_at_call 38; (with_reducible refine (hRe' _).mono ?_); rintro e w' ⟨rfl, rfl⟩) | (go_at_call 40; (with_reducible refine (kc _).mono ?_); rintro e w' ⟨rfl, rfl⟩) | (go_at_call 28; (with_reducible refine (hN _).mono ?_); rintro e w' ⟨rfl, rfl⟩) | (go_at_call 39; (with_reducible refine (hG1 _).mono ?_); rintro e w' ⟨rfl, rfl⟩))
          go_ret
          exact ⟨rfl, rfl⟩
    · subst d2
      subst d3
      have d5 : ¬ (E : Int) - 1126 < (f : Int) - 1126 := by omega
      have d6 : (E : Int) - 1126 - ((f : Int) - 1126) = (k : Int) := by omega
      clear d1 d4 w3
      generalize (E : Int) - 1126 = e1 at *
      generalize (f : Int) - 1126 = f1 at *
      rcases HN.out with ⟨rfl, q1⟩ | ⟨rfl, q1, q2, rfl⟩ | ⟨rfl, q1, q2, rfl⟩ | ⟨rfl, q1, q2⟩
      · obtain ⟨kr, kc⟩ := k1 rfl
        clear k1 k2 HN
        rw [kr]
        rcases ho with ho | ho
        all_goals
          go_enter Try.func26, Try.ntmps26
          go_wp2_with (first | (go_at_call 33; refine (hD _).mono ?_; rintro e w' ⟨rfl, rfl⟩) | (go_at_call 35; refine (hI _).mono ?_; rintro e w' ⟨rfl, rfl⟩) | (go_at_call 37; (with_reducible refine (hSx _).mono ?_); rintro e w' ⟨rfl, rfl⟩) | (go_at_call 37; (with_reducible refine (hSy _).mono ?_); rintro e w' ⟨rfl, rfl⟩) | (go_at_call 36; (with_reducible refine (hPx _).mono ?_); rintro e w' ⟨rfl, rfl⟩) | (go_at_call 36; (with_reducible refine (hPy _).mono ?_); rintro e w' ⟨rfl, rfl⟩) | (go_at_call 38; (with_reducible refine (hRe _).mono ?_); rintro e w' ⟨rfl, rfl⟩) | (go_at_call 40; (with_reducible refine (kc _).mono ?_); rintro e w' ⟨rfl, rfl⟩) | (go_at_call 28; (with_reducible refine (hN _).mono ?_); rintro e w' ⟨rfl, rfl⟩) | (go_at_call 39; (with_reducible refine (hG2 _).mono ?_); rintro e w' ⟨rfl, rfl⟩))
          go_ret
          exact ⟨rfl, rfl⟩
      · obtain ⟨kr, kc⟩ := k1 rfl
        clear k1 k2 HN
        rw [kr]
        rcases ho with ho | ho
        all_goals
          go_enter Try.func26, Try.ntmps26
          go_wp2_with (first | (go_at_call 33; refine (hD _).mono ?_; rintro e w' ⟨rfl, rfl⟩) | (go_at_call 35; refine (hI _).mono ?_; rintro e w' ⟨rfl, rfl⟩) | (go_at_call 37; (with_reducible refine (hSx _).mono ?_); rintro e w' ⟨rfl, rfl⟩) | (go_at_call 37; (with_reducible refine (hSy _).mono ?_); rintro e w' ⟨rfl, rfl⟩) | (go_at_call 36; (with_reducible refine (hPx _).mono ?_); rintro e w' ⟨rfl, rfl⟩) | (go_at_call 36; (with_reducible refine (hPy _).mono ?_); rintro e w' ⟨rfl, rfl⟩) | (go_at_call 38; (with_reducible refine (hRe _).mono ?_); rintro e w' ⟨rfl, rfl⟩) | (go_at_call 40; (with_reducible refine (kc _).mono ?_); rintro e w' ⟨rfl, rfl⟩) | (go_at_call 28; (with_reducible refine (hN _).mono ?_); rintro e w' ⟨rfl, rfl⟩) | (go_at_call 39; (with_reducible refine (hG2 _).mono ?_); rintro e w' ⟨rfl, rfl⟩))
          go_ret
          exact ⟨rfl, rfl⟩
      · obtain ⟨kr, kc⟩ := k2 rfl
        clear k1 k2 HN
        rw [kr]
        rcases ho with ho | ho
        all_goals
          go_enter Try.func26, Try.ntmps26
          go_wp2_with (first | (go_at_call 33; refine (hD _).mono ?_; rintro e w' ⟨rfl, rfl⟩) | (go_at_call 35; refine (hI _).mono ?_; rintro e w' ⟨rfl, rfl⟩) | (go_at_call 37; (with_reducible refine (hSx _).mono ?_); rintro e w' ⟨rfl, rfl⟩) | (go_at_call 37; (with_reducible refine (hSy _).mono ?_); rintro e w' ⟨rfl, rfl⟩) | (go_at_call 36; (with_reducible refine (hPx _).mono ?_); rintro e w' ⟨rfl, rfl⟩) | (go_at_call 36; (with_reducible refine (hPy _).mono ?_); rintro e w' ⟨rfl, rfl⟩) | (go_at_call 38; (with_reducible refine (hRe _).mono ?_); rintro e w' ⟨rfl, rfl⟩) | (go_at_call 40; (with_reducible refine (kc _).mono ?_); rintro e w' ⟨rfl, rfl⟩) | (go_at_call 28; (with_reducible refine (hN _).mono ?_); rintro e w' ⟨rfl, rfl⟩) | (go_at_call 39; (with_reducible refine (hG1 _).mono ?_); rintro e w' ⟨rfl, rfl⟩))
          go_ret
          exact ⟨rfl, rfl⟩
      · obtain ⟨kr, kc⟩ := k2 rfl
        clear k1 k2 HN
        rw [kr]
        rcases ho with ho | ho
        all_goals
          go_enter Try.func26, Try.ntmps26
          go_wp2_with (first | (go_at_call 33; refine (hD _).mono ?_; rintro e w' ⟨rfl, rfl⟩) | (go_at_call 35; refine (hI _).mono ?_; rintro e w' ⟨rfl, rfl⟩) | (go_at_call 37; (with_reducible refine (hSx _).mono ?_); rintro e w' ⟨rfl, rfl⟩) | (go_at_call 37; (with_reducible refine (hSy _).mono ?_); rintro e w' ⟨rfl, rfl⟩) | (go_at_call 36; (with_reducible refine (hPx _).mono ?_); rintro e w' ⟨rfl, rfl⟩) | (go_at_call 36; (with_reducible refine (hPy _).mono ?_); rintro e w' ⟨rfl, rfl⟩) | (go_at_call 38; (with_reducible refine (hRe _).mono ?_); rintro e w' ⟨rfl, rfl⟩) | (go_at_call 40; (with_reducible refine (kc _).mono ?_); rintro e w' ⟨rfl, rfl⟩) | (go_at_call 28; (with_reducible refine (hN _).mono ?_); rintro e w' ⟨rfl, rfl⟩) | (go_at_call 39; (with_reducible refine (hG1 _).mono ?_); rintro e w' ⟨rfl, rfl⟩))
          go_ret
          exact ⟨rfl, rfl⟩
end Go.Proofs.Ytnegjfdaijnadaa
