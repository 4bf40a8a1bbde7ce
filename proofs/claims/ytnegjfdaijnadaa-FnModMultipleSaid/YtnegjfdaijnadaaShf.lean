/- Contracts of the reference's shift and scaled. Conditions: as each states. -/
import Derived.Test.YtnegjfdaijnadaaPow
namespace Go.Proofs.Ytnegjfdaijnadaa
open Flt Ieee Go.RowKit

theorem hEven_big {m n : Nat} (hm : m < 2 ^ 54) (hn : 64 ≤ n) : hEven m n = 0 := by
  have h1 : 2 ^ 64 ≤ 2 ^ n := Nat.pow_le_pow_right (by omega) hn
  have h2 : m < 2 ^ n := by omega
  unfold hEven
  rw [Nat.div_eq_of_lt h2, Nat.mod_eq_of_lt h2, if_neg (by omega)]
theorem shift_plain {m n : Nat} (hm : m < 2 ^ 54) (hn : 1 ≤ n) (hn2 : n < 64) : ∃ q p r h : Nat, (m : Int) / 2 ^ n = (q : Int) ∧ IntKind.u64.wrap ((q : Int) * 2 ^ n) = (p : Int) ∧ IntKind.u64.wrap ((m : Int) - (p : Int)) = (r : Int) ∧ IntKind.u64.wrap (2 ^ (n - 1)) = (h : Int) ∧
    q < 2 ^ 54 ∧ hEven m n = q + (if h < r ∨ (r = h ∧ q % 2 = 1) then 1 else 0) := by
  have hp := Nat.two_pow_pos n
  have hd := Nat.div_add_mod m (2 ^ n)
  have hr := Nat.mod_lt m hp
  have hq : m / 2 ^ n ≤ m := Nat.div_le_self _ _
  obtain ⟨k, rfl⟩ : ∃ k, n = k + 1 := ⟨n - 1, by omega⟩
  have h63 : 2 ^ k ≤ 2 ^ 62 := Nat.pow_le_pow_right (by omega) (by omega)
  have h2 : 2 ^ (k + 1) = 2 * 2 ^ k := by rw [Nat.pow_succ]; omega
  refine ⟨m / 2 ^ (k + 1), m / 2 ^ (k + 1) * 2 ^ (k + 1), m % 2 ^ (k + 1), 2 ^ k, ?_, ?_, ?_, ?_, by omega, ?_⟩
  · rw [Int.natCast_ediv, Int.natCast_pow]; rfl
  · rw [show ((m / 2 ^ (k + 1) : Nat) : Int) * 2 ^ (k + 1) = ((m / 2 ^ (k + 1) * 2 ^ (k + 1) : Nat) : Int) by rw [Int.natCast_mul, Int.natCast_pow]; rfl, IntKind.wrap_u64]
    rw [Nat.mul_comm] at hd
    generalize m / 2 ^ (k + 1) * 2 ^ (k + 1) = A at *
    omega
  · rw [IntKind.wrap_u64]
    rw [Nat.mul_comm] at hd
    generalize m / 2 ^ (k + 1) * 2 ^ (k + 1) = A at *
    generalize m % 2 ^ (k + 1) = B at *
    omega
  · rw [show k + 1 - 1 = k by omega, show (2 : Int) ^ k = ((2 ^ k : Nat) : Int) by rw [Int.natCast_pow]; rfl, IntKind.wrap_u64]
    generalize 2 ^ k = A at *
    omega
  · unfold hEven
    rw [h2] at hd hr ⊢
    generalize 2 ^ k = A at *
    generalize m % (2 * A) = B at *
    generalize m / (2 * A) = C at *
    congr 1
    by_cases c : A < B ∨ (B = A ∧ C % 2 = 1)
    · rw [if_pos c, if_pos (by omega)]
    · rw [if_neg c, if_neg (by omega)]
set_option maxRecDepth 100000 in
theorem shift_low (m n F : Nat) (w : World) (hm : m < 2 ^ 54) (hn : 1 ≤ n) (hn2 : n < 64) (hF : hEven m n = F) :
    Calls Try.prog 53 #[.int .u64 (m : Int), .int .i64 (n : Int)] w fun e w' => e = .returned (.int .u64 (F : Int)) ∧ w = w' := by
  have n1 : ¬ (64 : Int) < (n : Int) := by omega
  have n2 : (n : Int) < 64 := by omega
  have n3 : (1 : Int) ≤ (n : Int) := by omega
  obtain ⟨q, p, r, h, d1, d2, d3, d4, hq, hE⟩ := shift_plain hm hn hn2
  rw [hF] at hE
  have w1 : IntKind.u64.wrap ((q : Int) + 1) = (q : Int) + 1 := by rw [IntKind.wrap_u64]; omega
  by_cases c : h < r
  · rw [if_pos (.inl c)] at hE
    have c1 : (h : Int) < (r : Int) := by omega
    have HE := Lib.hid hE
    clear hE hF c hm hn hn2 hq
    go_enter Try.func53, Try.ntmps53
    go_wp2_with fail
    go_ret
    rw [HE.out]
    exact ⟨rfl, rfl⟩
  · have c1 : ¬ (h : Int) < (r : Int) := by omega
    by_cases c2 : r = h
    · subst c2
      by_cases c3 : q % 2 = 1
      · rw [if_pos (.inr ⟨rfl, c3⟩)] at hE
        have t1 : (q : Int).tmod 2 = 1 := by rw [show (q : Int).tmod 2 = ((q % 2 : Nat) : Int) from (Int.ofNat_tmod q 2).symm, c3]; rfl
        have t2 : (q : Int) % 2 = 1 := by omega
        have HE := Lib.hid hE
        clear hE hF c hm hn hn2 hq c1
        go_enter Try.func53, Try.ntmps53
        go_wp2_with fail
        go_ret
        rw [HE.out]
        exact ⟨rfl, rfl⟩
      · rw [if_neg (by omega), Nat.add_zero] at hE
        have t1 : (q : Int).tmod 2 = 0 := by rw [show (q : Int).tmod 2 = ((q % 2 : Nat) : Int) from (Int.ofNat_tmod q 2).symm, show q % 2 = 0 by omega]; rfl
        have t2 : (q : Int) % 2 = 0 := by omega
        have HE := Lib.hid hE
        clear hE hF c hm hn hn2 hq c1 w1 c3
        go_enter Try.func53, Try.ntmps53
        go_wp2_with fail
        go_ret
        rw [HE.out]
        exact ⟨rfl, rfl⟩
    · rw [if_neg (by omega), Nat.add_zero] at hE
      have c4 : ((r : Int) == (h : Int)) = false := by rw [beq_eq_false_iff_ne]; omega
      have HE := Lib.hid hE
      clear hE hF c hm hn hn2 hq w1 c2
      go_enter Try.func53, Try.ntmps53
      go_wp2_with fail
      go_ret
      rw [HE.out]
      exact ⟨rfl, rfl⟩
set_option maxRecDepth 100000 in
theorem shift_any (m n F : Nat) (w : World) (hm : m < 2 ^ 54) (hn : 1 ≤ n) (hn2 : n ≤ 100000) (hF : hEven m n = F) :
    Calls Try.prog 53 #[.int .u64 (m : Int), .int .i64 (n : Int)] w fun e w' => e = .returned (.int .u64 (F : Int)) ∧ w = w' := by
  by_cases c : n < 64
  · exact shift_low m n F w hm hn c hF
  · rw [hEven_big hm (by omega)] at hF
    subst hF
    by_cases c2 : n = 64
    · subst c2
      have n1 : ¬ (9223372036854775808 : Int) < (m : Int) := by omega
      have n2 : ((m : Int) == 9223372036854775808) = false := by rw [beq_eq_false_iff_ne]; omega
      clear hn hn2 c
      go_enter Try.func53, Try.ntmps53
      go_wp2_with fail
      go_ret
      exact ⟨rfl, rfl⟩
    · have n1 : (64 : Int) < (n : Int) := by omega
      clear hn c c2
      go_enter Try.func53, Try.ntmps53
      go_wp2_with fail
      go_ret
      exact ⟨rfl, rfl⟩
/-! ### scaled -/
/-- The rung of 'scaled'. -/
def ScaleRel (m : Nat) (e : Int) (t : Nat) : Prop :=
  (0 ≤ e ∧ m * U * 2 ^ e.toNat = mag t) ∨ (-1074 ≤ e ∧ e < 0 ∧ m * U = mag t * 2 ^ (-e).toNat) ∨ (e < -1074 ∧ mag t = hEven m (-1074 - e).toNat)
theorem hEven_le {m n : Nat} (hm : m < 2 ^ 53) : hEven m n ≤ 2 ^ 53 := by
  have h : m / 2 ^ n ≤ m := Nat.div_le_self _ _
  unfold hEven
  split <;> omega
theorem scaled_zero (e : Int) (w : World) : Calls Try.prog 40 #[.int .u64 0, .int .i64 e] w fun e w' => e = .returned (.float .f64 0) ∧ w = w' := by
  go_enter Try.func40, Try.ntmps40
  go_wp2_with fail
  go_ret
  exact ⟨rfl, rfl⟩
theorem scaled_any (m t : Nat) (e : Int) (w : World) (hm : m < 2 ^ 53) (he1 : -90000 ≤ e) (he2 : e ≤ 90000) (h : ScaleRel m e t) :
    Calls Try.prog 40 #[.int .u64 (m : Int), .int .i64 e] w fun e w' => e = .returned (.float .f64 (wd false (min t INF))) ∧ (t < INF → w = w') ∧ Grown w w' := by
  by_cases h0 : m = 0
  · subst h0
    have ht : t = 0 := by
      rcases h with ⟨-, h⟩ | ⟨-, -, h⟩ | ⟨-, h⟩
      · rw [Nat.zero_mul, Nat.zero_mul] at h; exact mag_eq_zero.1 h.symm
      · rw [Nat.zero_mul] at h
        rcases Nat.mul_eq_zero.1 h.symm with q | q
        · exact mag_eq_zero.1 q
        · exact absurd q (Nat.ne_of_gt (Nat.two_pow_pos _))
      · have e0 : ∀ d, hEven 0 d = 0 := by
          intro d
          unfold hEven
          rw [Nat.zero_div, Nat.zero_mod, if_neg (by have := Nat.two_pow_pos d; omega)]
        rw [e0] at h; exact mag_eq_zero.1 h
    subst ht
    refine (scaled_zero e w).mono ?_
    rintro e' w' ⟨rfl, rfl⟩
    exact ⟨rfl, fun _ => rfl, Grown.refl _⟩
  · have z1 : ((m : Int) == 0) = false := by rw [beq_eq_false_iff_ne]; omega
    have z2 : ¬ (m : Int) = 0 := by omega
    rcases h with ⟨h1, h2⟩ | ⟨h1, h1', h2⟩ | ⟨h1, h2⟩
    · have hP := fun u => power_up m e.toNat t u (by omega) h2 (by omega)
      rw [show ((e.toNat : Nat) : Int) = e by omega] at hP
      have e1 : ¬ e < -1074 := by omega
      clear h1 h2 he1 he2 h0
      go_enter Try.func40, Try.ntmps40
      go_wp2_with (go_at_call 54; refine (hP _).mono ?_; rintro e w' ⟨rfl, hw1, hw2⟩)
      go_ret
      exact ⟨rfl, hw1, hw2⟩
    · have hti : t < INF := by
        rw [← mag_lt_iff]
        refine Nat.lt_of_le_of_lt ?_ big_lt_INF
        have a1 : mag t ≤ mag t * 2 ^ (-e).toNat := Nat.le_mul_of_pos_right _ (Nat.two_pow_pos _)
        rw [← h2] at a1
        exact Nat.le_trans a1 (Nat.mul_le_mul_right _ (by omega))
      have hP := fun u => power_down m (-e).toNat t u (by omega) h2 (by omega)
      rw [show -(((-e).toNat : Nat) : Int) = e by omega] at hP
      rw [Nat.min_eq_left (Nat.le_of_lt hti)]
      have e1 : ¬ e < -1074 := by omega
      clear h1 h1' h2 he1 he2 h0 hti
      go_enter Try.func40, Try.ntmps40
      go_wp2_with (go_at_call 54; refine (hP _).mono ?_; rintro e w' ⟨rfl, rfl⟩)
      go_ret
      exact ⟨rfl, fun _ => rfl, Grown.refl _⟩
    · have hq := hEven_le (m := m) (n := (-1074 - e).toNat) hm
      have hS := fun u => shift_any m (-1074 - e).toNat (hEven m (-1074 - e).toNat) u (by omega) (by omega) (by omega) rfl
      rw [show (((-1074 - e).toNat : Nat) : Int) = -1074 - e by omega] at hS
      have hti : t < INF := by
        have := le_mag t
        unfold INF; omega
      have hP := fun u => power_down (hEven m (-1074 - e).toNat) UE t u hq (by rw [h2]; rfl) (by rw [UE_eq]; omega)
      rw [UE_eq] at hP
      rw [Nat.min_eq_left (Nat.le_of_lt hti)]
      clear h2 h0 hti hq
      generalize hEven m (-1074 - e).toNat = q at *
      go_enter Try.func40, Try.ntmps40
      go_wp2_with (first | (go_at_call 53; refine (hS _).mono ?_; rintro e w' ⟨rfl, rfl⟩) | (go_at_call 54; refine (hP _).mono ?_; rintro e w' ⟨rfl, rfl⟩))
      go_ret
      exact ⟨rfl, fun _ => rfl, Grown.refl _⟩
end Go.Proofs.Ytnegjfdaijnadaa
