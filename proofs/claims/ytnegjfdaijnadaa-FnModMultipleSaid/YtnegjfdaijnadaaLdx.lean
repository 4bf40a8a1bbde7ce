/- The contract of the library's Ldexp where the product is exact. Conditions: as each states. -/
import Derived.Test.YtnegjfdaijnadaaLdw
namespace Go.Proofs.Ytnegjfdaijnadaa
open Flt Ieee Go.RowKit

theorem expo_bits_i64 {b : Nat} (h : b < 2 ^ 64) : bits .and .i64 (wrap64 ((b : Int) / 4503599627370496)) 2047 = (expo b : Int) := by
  have e1 : wrap64 ((b : Int) / 4503599627370496) = (b : Int) / 4503599627370496 := IntWalk.wrap64_in _ ⟨by omega, by omega⟩
  rw [e1]
  have e2 : bits .and .i64 ((b : Int) / 4503599627370496) 2047 = ((b : Int) / 4503599627370496) % 2048 := bits_mask .i64 62 (by decide) (fun n h0 h1 => by rw [IntKind.wrap_i64]; omega) 11 (by decide) _ (by omega) (by omega)
  rw [e2]
  unfold expo rg
  omega

theorem mag_c53 : mag (rg 4368491638549381120) * 2 ^ 53 = U := by
  have h : rg 4368491638549381120 = (969 + 1) * 2 ^ 52 := by unfold rg; omega
  rw [h]
  have e := mag_of0 969
  have : ∀ q : Nat, UE = 52 + q + 53 → 2 ^ 52 * 2 ^ q * 2 ^ 53 = U := by
    intro q hq
    unfold U; rw [hq, Nat.pow_add, Nat.pow_add]
  rw [e]
  exact this 969 (by rw [UE_eq])
theorem fin_c53 : Fnt 4368491638549381120 := by unfold Fnt rg INF; omega

theorem mul_one_word {s : Bool} {r : Nat} (h : r < INF) : double.mul 4607182418800017408 (wd s r) = some (wd s r) := by
  have hl := INF_lt
  have hrg := rg_wd s (r := r) (by omega)
  have hf : Fnt (wd s r) := by unfold Fnt; rw [hrg]; exact h
  have := mul_exact (t := r) fin_one hf (by rw [mag_one, hrg, Nat.mul_comm]) (by omega)
  rw [sg_one, sg_wd s (by omega), Bool.false_xor] at this
  exact this

theorem put_at (s : Bool) {f G : Nat} {v : Int} (hf : f < 2 ^ 52) (hG : G < 2048) (hv : v = (G : Int)) : bits .or .u64 (wd s f : Int) (v * 4503599627370496) = (wd s (G * 2 ^ 52 + f) : Int) := by
  have e : v * 4503599627370496 = ((G * 2 ^ 52 : Nat) : Int) := by omega
  rw [e]
  exact put_expo_bits s hf hG
theorem digits_same {t r a c M e : Nat} (hz : r ≠ 0) (m1 : 2 ^ 52 ≤ M) (m2 : M < 2 ^ 53) (m3 : mag r * 2 ^ 52 = M * 2 ^ e) (ht : t < INF) (hm : mag t * 2 ^ a = mag r * 2 ^ c) :
    ∃ f, mag t * 2 ^ 52 = M * 2 ^ f ∧ f + a = e + c ∧ f ≤ 2097 := by
  have ht0 : t ≠ 0 := by
    intro e0
    rw [e0, mag_zero, Nat.zero_mul] at hm
    have h2 := Nat.two_pow_pos c
    rcases Nat.mul_eq_zero.1 hm.symm with q | q
    · exact hz (mag_eq_zero.1 q)
    · exact absurd q (Nat.ne_of_gt h2)
  obtain ⟨M', f, p1, p2, p3, p4⟩ := norm_form ht0
  have hu : M' = M ∧ f + a = e + c := by
    refine norm_unique p1 p2 m1 m2 ?_
    rw [Nat.pow_add, ← Nat.mul_assoc, ← p3, Nat.mul_right_comm, hm, Nat.mul_right_comm, m3, Nat.pow_add, Nat.mul_assoc]
  exact ⟨f, by rw [p3, hu.1], hu.2, p4 ht⟩
theorem mul_c53 (s : Bool) {t M f : Nat} (m1 : 2 ^ 52 ≤ M) (m2 : M < 2 ^ 53) (hf : f < 52) (ht : t < INF) (p3 : mag t * 2 ^ 52 = M * 2 ^ f) :
    double.mul 4368491638549381120 (wd s ((f + 2) * 2 ^ 52 + (M - 2 ^ 52))) = some (wd s t) := by
  have hl := INF_lt
  have hr : (f + 2) * 2 ^ 52 + (M - 2 ^ 52) < INF := by unfold INF; omega
  have hr2 : (f + 2) * 2 ^ 52 + (M - 2 ^ 52) < 9223372036854775808 := by omega
  have hrg := rg_wd s hr2
  have hsg := sg_wd s hr2
  have hff : Fnt (wd s ((f + 2) * 2 ^ 52 + (M - 2 ^ 52))) := by unfold Fnt; rw [hrg]; exact hr
  have hmg : mag (rg 4368491638549381120) * mag (rg (wd s ((f + 2) * 2 ^ 52 + (M - 2 ^ 52)))) = mag t * U := by
    have e1 : mag ((f + 2) * 2 ^ 52 + (M - 2 ^ 52)) = M * 2 ^ (f + 1) := mag_norm (e := f + 1) m1 m2
    have e2 := mag_c53
    rw [hrg, e1, ← e2, Nat.pow_succ, ← Nat.mul_assoc M, ← p3]
    generalize mag (rg 4368491638549381120) = A
    generalize mag t = B
    have e3 : B * 2 ^ 52 * 2 = B * 2 ^ 53 := Nat.mul_assoc B (2 ^ 52) 2
    rw [e3]
    exact Nat.mul_left_comm A B (2 ^ 53)
  have := mul_exact (t := t) fin_c53 hff hmg (Nat.le_of_lt ht)
  rw [show sg 4368491638549381120 = false from rfl, hsg, Bool.false_xor] at this
  exact this
theorem norm_rung {t M g : Nat} (m1 : 2 ^ 52 ≤ M) (m2 : M < 2 ^ 53) (p3 : mag t * 2 ^ 52 = M * 2 ^ (g + 52)) : (g + 1) * 2 ^ 52 + (M - 2 ^ 52) = t := by
  apply mag_inj
  rw [mag_norm m1 m2]
  rw [Nat.pow_add, ← Nat.mul_assoc] at p3
  exact (Nat.eq_of_mul_eq_mul_right (Nat.two_pow_pos 52) p3).symm

theorem ldexp_arith {k n : Int} {E e f a c : Nat} (hk : k = (c : Int) - (a : Int)) (hfe : f + a = e + c) (hne : n + E = e - 51) (m5 : e ≤ 2097) (p5 : f ≤ 2097) :
    -100000 ≤ k ∧ k ≤ 100000 ∧ ¬ k + n + ((E : Int) - 1023) < -1075 ∧ ¬ 1023 < k + n + ((E : Int) - 1023) ∧
    (f < 52 → k + n + ((E : Int) - 1023) < -1022 ∧ f + 2 < 2048 ∧ k + n + ((E : Int) - 1023) + 53 + 1023 = ((f + 2 : Nat) : Int)) ∧
    (¬ f < 52 → ¬ k + n + ((E : Int) - 1023) < -1022 ∧ f - 52 + 1 < 2048 ∧ k + n + ((E : Int) - 1023) + 1023 = ((f - 52 + 1 : Nat) : Int) ∧ f = f - 52 + 52) := by
  refine ⟨by omega, by omega, by omega, by omega, fun h => ⟨by omega, by omega, by omega⟩, fun h => ⟨by omega, by omega, by omega, by omega⟩⟩
theorem word_parts (s : Bool) {M E : Nat} (m2 : M < 2 ^ 53) (e1 : E < 2047) : M - 2 ^ 52 < 2 ^ 52 ∧ bits .and .i64 (wrap64 ((wd s (E * 2 ^ 52 + (M - 2 ^ 52)) : Int) / 4503599627370496)) 2047 = (E : Int) ∧ bits .andNot .u64 (wd s (E * 2 ^ 52 + (M - 2 ^ 52)) : Int) 9218868437227405312 = (wd s (M - 2 ^ 52) : Int) := by
  have hf : M - 2 ^ 52 < 2 ^ 52 := by omega
  have hX : wd s (E * 2 ^ 52 + (M - 2 ^ 52)) < 2 ^ 64 := wd_lt _ (by omega)
  have hE := expo_bits_i64 hX
  rw [expo_wd s hf (by omega)] at hE
  have hc := clear_expo hX
  rw [sg_wd' s (by omega), frac_wd s hf (by omega)] at hc
  exact ⟨hf, hE, hc⟩
/-- What the walk through ldexp meets. -/
theorem ldexp_data (b t a c : Nat) (k : Int) (h : Fnt b) (h64 : b < 2 ^ 64) (hz : rg b ≠ 0) (ht : t < INF) (hk : k = (c : Int) - (a : Int)) (hm : mag t * 2 ^ a = mag (rg b) * 2 ^ c) :
    ∃ (X E c0 d : Nat) (n : Int), (∀ w, Calls Try.prog 68 #[.float .f64 b] w fun e' w' => e' = .returned (.tuple #[.float .f64 X, .int .i64 n]) ∧ w = w') ∧ E < 2047 ∧ n ≤ 0 ∧ -52 ≤ n ∧ -100000 ≤ k ∧ k ≤ 100000 ∧ ¬ k + n + ((E : Int) - 1023) < -1075 ∧ ¬ 1023 < k + n + ((E : Int) - 1023) ∧
      bits .and .i64 (wrap64 ((X : Int) / 4503599627370496)) 2047 = (E : Int) ∧ bits .andNot .u64 (X : Int) 9218868437227405312 = (c0 : Int) ∧
      ((k + n + ((E : Int) - 1023) < -1022 ∧ bits .or .u64 (c0 : Int) ((k + n + ((E : Int) - 1023) + 53 + 1023) * 4503599627370496) = (d : Int) ∧ double.mul 4368491638549381120 d = some (wd (sg b) t)) ∨
       (¬ k + n + ((E : Int) - 1023) < -1022 ∧ bits .or .u64 (c0 : Int) ((k + n + ((E : Int) - 1023) + 1023) * 4503599627370496) = (d : Int) ∧ double.mul 4607182418800017408 d = some (wd (sg b) t))) := by
  obtain ⟨M, e, m1, m2, m3, m4⟩ := norm_form hz
  have m5 := m4 h
  obtain ⟨f, p3, hfe, p5⟩ := digits_same hz m1 m2 m3 ht hm
  obtain ⟨E, n, n1, n2, e1, e2, hne, hN⟩ := mnormalize_any b M e h h64 m1 m2 m3
  obtain ⟨kb1, kb2, q1, q2, r1, r2⟩ := ldexp_arith hk hfe hne m5 p5
  obtain ⟨hf, hE, hc⟩ := word_parts (sg b) m2 e1
  by_cases q : f < 52
  · obtain ⟨hq3, hg, hv⟩ := r1 q
    exact ⟨_, E, _, _, n, hN, e1, n1, n2, kb1, kb2, q1, q2, hE, hc, .inl ⟨hq3, put_at (sg b) hf hg hv, mul_c53 (sg b) m1 m2 q ht p3⟩⟩
  · obtain ⟨hq3, hg, hv, hff⟩ := r2 q
    have hd := put_at (sg b) hf hg hv
    rw [hff] at p3
    rw [norm_rung m1 m2 p3] at hd
    exact ⟨_, E, _, _, n, hN, e1, n1, n2, kb1, kb2, q1, q2, hE, hc, .inr ⟨hq3, hd, mul_one_word ht⟩⟩
/-- Where the product is a word's magnitude, Ldexp is this word, with the sign. -/
theorem mldexp_exact (b t a c : Nat) (k : Int) (w : World) (h : Fnt b) (h64 : b < 2 ^ 64) (hz : rg b ≠ 0) (ht : t < INF) (hk : k = (c : Int) - (a : Int)) (hm : mag t * 2 ^ a = mag (rg b) * 2 ^ c) :
    Calls Try.prog 52 #[.float .f64 b, .int .i64 k] w fun e' w' => e' = .returned (.float .f64 (wd (sg b) t)) ∧ w = w' := by
  obtain ⟨X, E, c0, d, n, hN, e1, n1, n2, kb1, kb2, q1, q2, hE, hc, hd⟩ := ldexp_data b t a c k h h64 hz ht hk hm
  have ho := ord_nonzero (fin_nan h) hz
  rcases hd with ⟨q3, hd, hmm⟩ | ⟨q3, hd, hmm⟩
  · exact ldexp_den b X E c0 d _ n k w h h64 ho hN e1 n1 n2 kb1 kb2 q1 q2 q3 hE hc hd hmm
  · exact ldexp_norm b X E c0 d _ n k w h h64 ho hN e1 n1 n2 kb1 kb2 q1 q2 q3 hE hc hd hmm
theorem mLdexp_exact (b t a c : Nat) (k : Int) (w : World) (h : Fnt b) (h64 : b < 2 ^ 64) (hz : rg b ≠ 0) (ht : t < INF) (hk : k = (c : Int) - (a : Int)) (hm : mag t * 2 ^ a = mag (rg b) * 2 ^ c) :
    Calls Try.prog 32 #[.float .f64 b, .int .i64 k] w fun e' w' => e' = .returned (.float .f64 (wd (sg b) t)) ∧ w = w' := by
  have hL := fun u => mldexp_exact b t a c k u h h64 hz ht hk hm
  clear hm hk ht hz
  go_enter Try.func32, Try.ntmps32
  go_wp2_with (go_at_call 52; refine (hL _).mono ?_; rintro e w' ⟨rfl, rfl⟩)
  go_ret
  exact ⟨rfl, rfl⟩
theorem mLdexp_zero (b : Nat) (k : Int) (w : World) (hz : rg b = 0) :
    Calls Try.prog 32 #[.float .f64 b, .int .i64 k] w fun e' w' => e' = .returned (.float .f64 b) ∧ w = w' := by
  have hL := fun u => ldexp_zero b k u hz
  clear hz
  go_enter Try.func32, Try.ntmps32
  go_wp2_with (go_at_call 52; refine (hL _).mono ?_; rintro e w' ⟨rfl, rfl⟩)
  go_ret
  exact ⟨rfl, rfl⟩
theorem Ldexp_exact (b t a c : Nat) (k : Int) (w : World) (h : Fnt b) (h64 : b < 2 ^ 64) (hz : rg b ≠ 0) (ht : t < INF) (hk : k = (c : Int) - (a : Int)) (hm : mag t * 2 ^ a = mag (rg b) * 2 ^ c) :
    Calls Try.prog 20 #[.float .f64 b, .int .i64 k] w fun e' w' => e' = .returned (.float .f64 (wd (sg b) t)) ∧ w = w' := by
  have hL := fun u => mLdexp_exact b t a c k u h h64 hz ht hk hm
  clear hm hk ht hz
  go_enter Try.func20, Try.ntmps20
  go_wp2_with (go_at_call 32; refine (hL _).mono ?_; rintro e w' ⟨rfl, rfl⟩)
  go_ret
  exact ⟨rfl, rfl⟩
theorem Ldexp_zero (b : Nat) (k : Int) (w : World) (hz : rg b = 0) :
    Calls Try.prog 20 #[.float .f64 b, .int .i64 k] w fun e' w' => e' = .returned (.float .f64 b) ∧ w = w' := by
  have hL := fun u => mLdexp_zero b k u hz
  clear hz
  go_enter Try.func20, Try.ntmps20
  go_wp2_with (go_at_call 32; refine (hL _).mono ?_; rintro e w' ⟨rfl, rfl⟩)
  go_ret
  exact ⟨rfl, rfl⟩
end Go.Proofs.Ytnegjfdaijnadaa
