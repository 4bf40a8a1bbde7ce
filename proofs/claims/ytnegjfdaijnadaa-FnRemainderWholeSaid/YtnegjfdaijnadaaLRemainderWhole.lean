/- FnRemainderWhole returns true for every input. No condition. -/
import Derived.Test.YtnegjfdaijnadaaRows
import Derived.Test.YtnegjfdaijnadaaRml
import Derived.ProofKit
import Derived.OpenShut
namespace Go.Proofs.Ytnegjfdaijnadaa.fnRemainderWhole
open Go.ChangeShapes Go.WideShapes Go.ChangeAt Go.RowKit Flt Ieee
theorem own : ownKnob Try.prog.godebug = none := by kernel_rfl
theorem lt_of_wf {b : Nat} (h : (Lit.float .f64 b).wf = true) : b < 2 ^ 64 := by simpa [Lit.wf] using h
theorem bounds_of_wf {n : Int} (h : (Lit.int .i64 n).wf = true) : -9223372036854775808 ≤ n ∧ n ≤ 9223372036854775807 := by simpa [Lit.wf, IntKind.min, IntKind.max, IntKind.signed, IntKind.bits] using h
theorem remZ_scale (A N V : Nat) (hV : 0 < V) : remZ (A * V) (N * V) = remZ A N * (V : Int) := by
  unfold remZ
  rw [Nat.mul_mod_mul_right, Nat.mul_div_mul_right _ _ hV, ← Nat.mul_assoc]
  have h1 : (2 * (A % N) * V < N * V) ↔ (2 * (A % N) < N) := Nat.mul_lt_mul_right hV
  have h2 : (2 * (A % N) * V = N * V) ↔ (2 * (A % N) = N) := Nat.mul_left_inj (Nat.ne_of_gt hV)
  simp only [h1, h2]
  split
  · rw [Int.natCast_mul]
  · rw [Int.natCast_mul, Int.natCast_mul, Int.sub_mul]
theorem whole_rem {a b : Int} (ha : a.natAbs ≤ 2 ^ 53) (hb : b.natAbs ≤ 2 ^ 53) (hz : b ≠ 0) :
    rg (floatOfInt .f64 b) ≠ 0 ∧ Fnt (remW (floatOfInt .f64 a) (floatOfInt .f64 b)) ∧ val (remW (floatOfInt .f64 a) (floatOfInt .f64 b)) = (if a < 0 then -remZ a.natAbs b.natAbs else remZ a.natAbs b.natAbs) * (U : Int) ∧
    (remZ a.natAbs b.natAbs = 0 → sg (remW (floatOfInt .f64 a) (floatOfInt .f64 b)) = decide (a < 0)) := by
  have iA := ofInt_int ha
  have iB := ofInt_int hb
  have hbz : rg (floatOfInt .f64 b) ≠ 0 := by
    intro e
    have h := iB.2.2.2
    rw [e, mag_zero] at h
    have hp := Nat.mul_pos (show 0 < b.natAbs by omega) U_pos
    omega
  obtain ⟨h1, h2, h3, h4, h5⟩ := remW_spec iA.2.1 hbz
  rw [iA.2.2.2, iB.2.2.2, remZ_scale _ _ _ U_pos, iA.2.2.1] at h2
  rw [iA.2.2.2, iB.2.2.2, remZ_scale _ _ _ U_pos, iA.2.2.1] at h4
  refine ⟨hbz, h1, ?_, fun e => h4 (by rw [e, Int.zero_mul])⟩
  rw [h2]
  by_cases c : a < 0
  · rw [decide_eq_true c, if_pos rfl, if_pos c, Int.neg_mul]
  · rw [decide_eq_false c, if_neg Bool.false_ne_true, if_neg c]
theorem eq_float {r : Nat} {n : Int} (h : Fnt r) (hv : val r = n * (U : Int)) (hn : n.natAbs ≤ 2 ^ 53) : FloatKind.f64.format.order r (floatOfInt .f64 n) = some .eq := by
  have hi := ofInt_int hn
  refine ord_eq h hi.2.1 ?_
  rw [hv, isInt_val hi]
  by_cases c : n < 0
  · rw [decide_eq_true c, if_pos rfl, Int.natCast_mul, ← Int.neg_mul]
    congr 1; omega
  · rw [decide_eq_false c, if_neg Bool.false_ne_true, Int.natCast_mul]
    congr 1; omega
theorem tmod_nat (a b : Int) : a.tmod b = if a < 0 then -((a.natAbs % b.natAbs : Nat) : Int) else ((a.natAbs % b.natAbs : Nat) : Int) := by
  have h1 := Int.natAbs_tmod a b
  by_cases c : a < 0
  · have q := Int.tmod_nonneg (a := -a) b (by omega)
    rw [Int.neg_tmod] at q
    rw [if_pos c, ← h1]; omega
  · have q := Int.tmod_nonneg (a := a) b (by omega)
    rw [if_neg c, ← h1]; omega
theorem tdiv_nat (a b : Int) : (if b < 0 then -a.tdiv b else a.tdiv b) = if a < 0 then -((a.natAbs / b.natAbs : Nat) : Int) else ((a.natAbs / b.natAbs : Nat) : Int) := by
  have key : ∀ (A N : Nat), ((A : Int).tdiv (N : Int)) = ((A / N : Nat) : Int) := fun A N => (Int.ofNat_tdiv A N).symm
  obtain ⟨A, hA⟩ : ∃ A : Nat, A = a.natAbs := ⟨_, rfl⟩
  obtain ⟨N, hN⟩ : ∃ N : Nat, N = b.natAbs := ⟨_, rfl⟩
  rw [← hA, ← hN]
  by_cases c : a < 0 <;> by_cases d : b < 0
  · rw [if_pos d, if_pos c, show a = -(A : Int) by omega, show b = -(N : Int) by omega, Int.neg_tdiv, Int.tdiv_neg, key, Int.neg_neg]
  · rw [if_neg d, if_pos c, show a = -(A : Int) by omega, show b = (N : Int) by omega, Int.neg_tdiv, key]
  · rw [if_pos d, if_neg c, show a = (A : Int) by omega, show b = -(N : Int) by omega, Int.tdiv_neg, key, Int.neg_neg]
  · rw [if_neg d, if_neg c, show a = (A : Int) by omega, show b = (N : Int) by omega, key]
set_option maxRecDepth 100000 in
theorem tmod_two (z : Int) : z.tmod 2 = if z < 0 then -((z.natAbs % 2 : Nat) : Int) else ((z.natAbs % 2 : Nat) : Int) := tmod_nat z 2
set_option maxHeartbeats 4000000 in
theorem walk (a0 a1 : Int) (h0 : -9223372036854775808 ≤ a0 ∧ a0 ≤ 9223372036854775807) (h1 : -9223372036854775808 ≤ a1 ∧ a1 ≤ 9223372036854775807) (w : World) :
    Calls Try.prog 3 #[.int .i64 a0, .int .i64 a1] w fun e w' => e = .returned (.bool true) ∧ Grown w w' := by
  by_cases c0 : a1 = 0
  · subst c0
    clear h0 h1
    go_enter Try.func3, Try.ntmps3
    go_wp2
    go_ret
    exact ⟨rfl, Grown.refl _⟩
  have c0' : (a1 == 0) = false := by simpa using c0
  by_cases c1 : 9007199254740992 < a0
  · clear h0 h1 c0
    go_enter Try.func3, Try.ntmps3
    go_wp2
    go_ret
    exact ⟨rfl, Grown.refl _⟩
  by_cases c2 : a0 < -9007199254740992
  · clear h0 h1 c0
    go_enter Try.func3, Try.ntmps3
    go_wp2
    go_ret
    exact ⟨rfl, Grown.refl _⟩
  by_cases c3 : 9007199254740992 < a1
  · clear h0 h1 c0
    go_enter Try.func3, Try.ntmps3
    go_wp2
    go_ret
    exact ⟨rfl, Grown.refl _⟩
  by_cases c4 : a1 < -9007199254740992
  · clear h0 h1 c0
    go_enter Try.func3, Try.ntmps3
    go_wp2
    go_ret
    exact ⟨rfl, Grown.refl _⟩
  obtain ⟨hz, hf, hv, hsz⟩ := whole_rem (a := a0) (b := a1) (by omega) (by omega) c0
  have iA := ofInt_int (n := a0) (by omega)
  have iB := ofInt_int (n := a1) (by omega)
  have hM := fun u => Remainder_fin _ _ u iA.2.1 iB.2.1 iA.1 iB.1 hz
  have hS := fun u => Signbit_num _ u (fin_nan hf)
  generalize remW (floatOfInt .f64 a0) (floatOfInt .f64 a1) = r at *
  have hA : a0.natAbs ≤ 2 ^ 53 := by omega
  have hB : a1.natAbs ≤ 2 ^ 53 := by omega
  have hNp : 0 < a1.natAbs := by omega
  have hMl := Nat.mod_lt a0.natAbs hNp
  have hKl : a0.natAbs / a1.natAbs ≤ a0.natAbs := Nat.div_le_self _ _
  -- m and q, by the divisor as it came
  obtain ⟨m, q, t1, t2, t3, t4⟩ : ∃ m q : Int, a0.tmod a1 = m ∧ a0.tdiv a1 = q ∧ m = (if a0 < 0 then -((a0.natAbs % a1.natAbs : Nat) : Int) else ((a0.natAbs % a1.natAbs : Nat) : Int)) ∧
      (if a1 < 0 then -q else q) = (if a0 < 0 then -((a0.natAbs / a1.natAbs : Nat) : Int) else ((a0.natAbs / a1.natAbs : Nat) : Int)) := by
    refine ⟨_, _, rfl, rfl, tmod_nat a0 a1, tdiv_nat a0 a1⟩
  generalize hMM : a0.natAbs % a1.natAbs = M at *
  generalize hKK : a0.natAbs / a1.natAbs = K at *
  have hrz : remZ a0.natAbs a1.natAbs = if 2 * M < a1.natAbs ∨ (2 * M = a1.natAbs ∧ K % 2 = 0) then (M : Int) else (M : Int) - (a1.natAbs : Int) := by
    unfold remZ; rw [hMM, hKK]
  rw [hrz] at hv hsz
  clear hrz hMM hKK
  generalize hn : a1.natAbs = N at *
  -- the bounds of m and q
  have m1 : -9007199254740992 ≤ m := by rw [t3]; split <;> omega
  have m2 : m ≤ 9007199254740992 := by rw [t3]; split <;> omega
  have q1 : -9007199254740992 ≤ q := by split at t4 <;> split at t4 <;> omega
  have q2 : q ≤ 9007199254740992 := by split at t4 <;> split at t4 <;> omega
  have i1 : -9007199254740992 ≤ a0 := by omega
  have i2 : a0 ≤ 9007199254740992 := by omega
  have i3 : -9007199254740992 ≤ a1 := by omega
  have i4 : a1 ≤ 9007199254740992 := by omega
  clear h0 h1 iA iB hz
  have ozr : (FloatKind.f64.format.order r 0 = some .eq ∧ sg r = decide (a0 < 0)) ∨ (FloatKind.f64.format.order r 0 != some .eq) = true := by
    by_cases k : rg r = 0
    · refine .inl ⟨ord_zero k, hsz ?_⟩
      have hz0 := val_eq_zero.2 k
      rw [hv] at hz0
      have hU := U_pos
      rcases Int.mul_eq_zero.1 hz0 with z | z
      · by_cases c : a0 < 0
        · rw [if_pos c] at z; exact Int.neg_eq_zero.1 z
        · rw [if_neg c] at z; exact z
      · omega
    · refine .inr ?_
      rcases ord_nonzero (fin_nan hf) k with o | o <;> rw [o] <;> rfl
  clear hsz
  by_cases s0 : a0 < 0
  · rw [if_pos s0] at t3 t4 hv
    have hdc := decide_eq_true s0
    by_cases s1 : a1 < 0
    · rw [if_pos s1] at t4
      by_cases e0 : M = 0
      · have e1 : ¬ m < 0 := by omega
        have e2 : 2 * M < N := by omega
        rw [if_pos (.inl e2)] at hv
        have ho0 := eq_float (n := m) hf (by rw [hv]; congr 1; omega) (by omega)
        have g1 : ¬ -a1 < 2 * m := by omega
        have g2 : (2 * m == -a1) = false := by rw [beq_eq_false_iff_ne]; omega
        clear hv t3 t4 hA hB hNp hMl hKl hf e2
        rcases ozr with ⟨oz, hsr⟩ | oz
        all_goals
          try rw [hsr, hdc] at hS
          go_enter Try.func3, Try.ntmps3
          go_wp2_with (first | (go_at_call 15; refine (hM _).mono ?_; rintro e w' ⟨rfl, rfl⟩) | (go_at_call 16; refine (hS _).mono ?_; rintro e w' ⟨rfl, rfl⟩))
          go_ret
          exact ⟨rfl, Grown.refl _⟩
      · have e1 : m < 0 := by omega
        have hc : (2 * M < N) ∨ (2 * M = N ∧ K % 2 = 0) ∨ (2 * M = N ∧ K % 2 = 1) ∨ (N < 2 * M) := by omega
        rcases hc with e2 | e2 | e2 | e2
        · rw [if_pos (by omega)] at hv
          have ho0 := eq_float (n := m + -a1 + a1) hf (by rw [hv]; congr 1; omega) (by omega)
          have g1 : -a1 < 2 * (m + -a1) := by omega
          clear hv t3 t4 hA hB hNp hMl hKl hf e2
          rcases ozr with ⟨oz, hsr⟩ | oz
          all_goals
            try rw [hsr, hdc] at hS
            go_enter Try.func3, Try.ntmps3
            go_wp2_with (first | (go_at_call 15; refine (hM _).mono ?_; rintro e w' ⟨rfl, rfl⟩) | (go_at_call 16; refine (hS _).mono ?_; rintro e w' ⟨rfl, rfl⟩))
            go_ret
            exact ⟨rfl, Grown.refl _⟩
        · rw [if_pos (by omega)] at hv
          have ho0 := eq_float (n := m + -a1 + a1) hf (by rw [hv]; congr 1; omega) (by omega)
          have g1 : ¬ -a1 < 2 * (m + -a1) := by omega
          have g2 : (2 * (m + -a1) == -a1) = true := by rw [beq_iff_eq]; omega
          have g3 : (-q - 1).tmod 2 = -1 := by rw [tmod_two]; split <;> omega
          clear hv t3 t4 hA hB hNp hMl hKl hf e2
          rcases ozr with ⟨oz, hsr⟩ | oz
          all_goals
            try rw [hsr, hdc] at hS
            go_enter Try.func3, Try.ntmps3
            go_wp2_with (first | (go_at_call 15; refine (hM _).mono ?_; rintro e w' ⟨rfl, rfl⟩) | (go_at_call 16; refine (hS _).mono ?_; rintro e w' ⟨rfl, rfl⟩))
            go_ret
            exact ⟨rfl, Grown.refl _⟩
        · rw [if_neg (by omega)] at hv
          have ho0 := eq_float (n := m + -a1) hf (by rw [hv]; congr 1; omega) (by omega)
          have g1 : ¬ -a1 < 2 * (m + -a1) := by omega
          have g2 : (2 * (m + -a1) == -a1) = true := by rw [beq_iff_eq]; omega
          have g3 : (-q - 1).tmod 2 = 0 := by rw [tmod_two]; split <;> omega
          clear hv t3 t4 hA hB hNp hMl hKl hf e2
          rcases ozr with ⟨oz, hsr⟩ | oz
          all_goals
            try rw [hsr, hdc] at hS
            go_enter Try.func3, Try.ntmps3
            go_wp2_with (first | (go_at_call 15; refine (hM _).mono ?_; rintro e w' ⟨rfl, rfl⟩) | (go_at_call 16; refine (hS _).mono ?_; rintro e w' ⟨rfl, rfl⟩))
            go_ret
            exact ⟨rfl, Grown.refl _⟩
        · rw [if_neg (by omega)] at hv
          have ho0 := eq_float (n := m + -a1) hf (by rw [hv]; congr 1; omega) (by omega)
          have g1 : ¬ -a1 < 2 * (m + -a1) := by omega
          have g2 : (2 * (m + -a1) == -a1) = false := by rw [beq_eq_false_iff_ne]; omega
          clear hv t3 t4 hA hB hNp hMl hKl hf e2
          rcases ozr with ⟨oz, hsr⟩ | oz
          all_goals
            try rw [hsr, hdc] at hS
            go_enter Try.func3, Try.ntmps3
            go_wp2_with (first | (go_at_call 15; refine (hM _).mono ?_; rintro e w' ⟨rfl, rfl⟩) | (go_at_call 16; refine (hS _).mono ?_; rintro e w' ⟨rfl, rfl⟩))
            go_ret
            exact ⟨rfl, Grown.refl _⟩
    · rw [if_neg s1] at t4
      by_cases e0 : M = 0
      · have e1 : ¬ m < 0 := by omega
        have e2 : 2 * M < N := by omega
        rw [if_pos (.inl e2)] at hv
        have ho0 := eq_float (n := m) hf (by rw [hv]; congr 1; omega) (by omega)
        have g1 : ¬ a1 < 2 * m := by omega
        have g2 : (2 * m == a1) = false := by rw [beq_eq_false_iff_ne]; omega
        clear hv t3 t4 hA hB hNp hMl hKl hf e2
        rcases ozr with ⟨oz, hsr⟩ | oz
        all_goals
          try rw [hsr, hdc] at hS
          go_enter Try.func3, Try.ntmps3
          go_wp2_with (first | (go_at_call 15; refine (hM _).mono ?_; rintro e w' ⟨rfl, rfl⟩) | (go_at_call 16; refine (hS _).mono ?_; rintro e w' ⟨rfl, rfl⟩))
          go_ret
          exact ⟨rfl, Grown.refl _⟩
      · have e1 : m < 0 := by omega
        have hc : (2 * M < N) ∨ (2 * M = N ∧ K % 2 = 0) ∨ (2 * M = N ∧ K % 2 = 1) ∨ (N < 2 * M) := by omega
        rcases hc with e2 | e2 | e2 | e2
        · rw [if_pos (by omega)] at hv
          have ho0 := eq_float (n := m + a1 - a1) hf (by rw [hv]; congr 1; omega) (by omega)
          have ho1 := eq_float (n := m) hf (by rw [hv]; congr 1; omega) (by omega)
          have g1 : a1 < 2 * (m + a1) := by omega
          clear hv t3 t4 hA hB hNp hMl hKl hf e2
          rcases ozr with ⟨oz, hsr⟩ | oz
          all_goals
            try rw [hsr, hdc] at hS
            go_enter Try.func3, Try.ntmps3
            go_wp2_with (first | (go_at_call 15; refine (hM _).mono ?_; rintro e w' ⟨rfl, rfl⟩) | (go_at_call 16; refine (hS _).mono ?_; rintro e w' ⟨rfl, rfl⟩))
            go_ret
            exact ⟨rfl, Grown.refl _⟩
        · rw [if_pos (by omega)] at hv
          have ho0 := eq_float (n := m + a1 - a1) hf (by rw [hv]; congr 1; omega) (by omega)
          have ho1 := eq_float (n := m) hf (by rw [hv]; congr 1; omega) (by omega)
          have g1 : ¬ a1 < 2 * (m + a1) := by omega
          have g2 : (2 * (m + a1) == a1) = true := by rw [beq_iff_eq]; omega
          have g3 : (q - 1).tmod 2 = -1 := by rw [tmod_two]; split <;> omega
          clear hv t3 t4 hA hB hNp hMl hKl hf e2
          rcases ozr with ⟨oz, hsr⟩ | oz
          all_goals
            try rw [hsr, hdc] at hS
            go_enter Try.func3, Try.ntmps3
            go_wp2_with (first | (go_at_call 15; refine (hM _).mono ?_; rintro e w' ⟨rfl, rfl⟩) | (go_at_call 16; refine (hS _).mono ?_; rintro e w' ⟨rfl, rfl⟩))
            go_ret
            exact ⟨rfl, Grown.refl _⟩
        · rw [if_neg (by omega)] at hv
          have ho0 := eq_float (n := m + a1) hf (by rw [hv]; congr 1; omega) (by omega)
          have g1 : ¬ a1 < 2 * (m + a1) := by omega
          have g2 : (2 * (m + a1) == a1) = true := by rw [beq_iff_eq]; omega
          have g3 : (q - 1).tmod 2 = 0 := by rw [tmod_two]; split <;> omega
          clear hv t3 t4 hA hB hNp hMl hKl hf e2
          rcases ozr with ⟨oz, hsr⟩ | oz
          all_goals
            try rw [hsr, hdc] at hS
            go_enter Try.func3, Try.ntmps3
            go_wp2_with (first | (go_at_call 15; refine (hM _).mono ?_; rintro e w' ⟨rfl, rfl⟩) | (go_at_call 16; refine (hS _).mono ?_; rintro e w' ⟨rfl, rfl⟩))
            go_ret
            exact ⟨rfl, Grown.refl _⟩
        · rw [if_neg (by omega)] at hv
          have ho0 := eq_float (n := m + a1) hf (by rw [hv]; congr 1; omega) (by omega)
          have g1 : ¬ a1 < 2 * (m + a1) := by omega
          have g2 : (2 * (m + a1) == a1) = false := by rw [beq_eq_false_iff_ne]; omega
          clear hv t3 t4 hA hB hNp hMl hKl hf e2
          rcases ozr with ⟨oz, hsr⟩ | oz
          all_goals
            try rw [hsr, hdc] at hS
            go_enter Try.func3, Try.ntmps3
            go_wp2_with (first | (go_at_call 15; refine (hM _).mono ?_; rintro e w' ⟨rfl, rfl⟩) | (go_at_call 16; refine (hS _).mono ?_; rintro e w' ⟨rfl, rfl⟩))
            go_ret
            exact ⟨rfl, Grown.refl _⟩
  · rw [if_neg s0] at t3 t4 hv
    have hdc := decide_eq_false s0
    have t1' : a0 % a1 = m := by rw [← t1, Int.tmod_eq_emod_of_nonneg (by omega)]
    have t2' : a0 / a1 = q := by rw [← t2, Int.tdiv_eq_ediv_of_nonneg (by omega)]
    by_cases s1 : a1 < 0
    · rw [if_pos s1] at t4
      have e1 : ¬ m < 0 := by omega
      have hc : (N < 2 * M) ∨ (2 * M = N ∧ K % 2 = 1) ∨ (2 * M = N ∧ K % 2 = 0) ∨ (2 * M < N) := by omega
      rcases hc with e2 | e2 | e2 | e2
      · rw [if_neg (by omega)] at hv
        have ho0 := eq_float (n := m + a1) hf (by rw [hv]; congr 1; omega) (by omega)
        have g1 : -a1 < 2 * m := by omega
        clear hv t3 t4 hA hB hNp hMl hKl hf e2
        rcases ozr with ⟨oz, hsr⟩ | oz
        all_goals
          try rw [hsr, hdc] at hS
          go_enter Try.func3, Try.ntmps3
          go_wp2_with (first | (go_at_call 15; refine (hM _).mono ?_; rintro e w' ⟨rfl, rfl⟩) | (go_at_call 16; refine (hS _).mono ?_; rintro e w' ⟨rfl, rfl⟩))
          go_ret
          exact ⟨rfl, Grown.refl _⟩
      · rw [if_neg (by omega)] at hv
        have ho0 := eq_float (n := m + a1) hf (by rw [hv]; congr 1; omega) (by omega)
        have g1 : ¬ -a1 < 2 * m := by omega
        have g2 : (2 * m == -a1) = true := by rw [beq_iff_eq]; omega
        have g3 : (-q).tmod 2 = 1 := by rw [tmod_two]; split <;> omega
        have g4 : q.tmod 2 = -1 := by rw [tmod_two]; split <;> omega
        have g5 : (-q) % 2 = 1 := by omega
        clear hv t3 t4 hA hB hNp hMl hKl hf e2
        rcases ozr with ⟨oz, hsr⟩ | oz
        all_goals
          try rw [hsr, hdc] at hS
          go_enter Try.func3, Try.ntmps3
          go_wp2_with (first | (go_at_call 15; refine (hM _).mono ?_; rintro e w' ⟨rfl, rfl⟩) | (go_at_call 16; refine (hS _).mono ?_; rintro e w' ⟨rfl, rfl⟩))
          go_ret
          exact ⟨rfl, Grown.refl _⟩
      · rw [if_pos (by omega)] at hv
        have ho0 := eq_float (n := m) hf (by rw [hv]; congr 1; omega) (by omega)
        have g1 : ¬ -a1 < 2 * m := by omega
        have g2 : (2 * m == -a1) = true := by rw [beq_iff_eq]; omega
        have g3 : (-q).tmod 2 = 0 := by rw [tmod_two]; split <;> omega
        have g4 : q.tmod 2 = 0 := by rw [tmod_two]; split <;> omega
        have g5 : (-q) % 2 = 0 := by omega
        clear hv t3 t4 hA hB hNp hMl hKl hf e2
        rcases ozr with ⟨oz, hsr⟩ | oz
        all_goals
          try rw [hsr, hdc] at hS
          go_enter Try.func3, Try.ntmps3
          go_wp2_with (first | (go_at_call 15; refine (hM _).mono ?_; rintro e w' ⟨rfl, rfl⟩) | (go_at_call 16; refine (hS _).mono ?_; rintro e w' ⟨rfl, rfl⟩))
          go_ret
          exact ⟨rfl, Grown.refl _⟩
      · rw [if_pos (by omega)] at hv
        have ho0 := eq_float (n := m) hf (by rw [hv]; congr 1; omega) (by omega)
        have g1 : ¬ -a1 < 2 * m := by omega
        have g2 : (2 * m == -a1) = false := by rw [beq_eq_false_iff_ne]; omega
        clear hv t3 t4 hA hB hNp hMl hKl hf e2
        rcases ozr with ⟨oz, hsr⟩ | oz
        all_goals
          try rw [hsr, hdc] at hS
          go_enter Try.func3, Try.ntmps3
          go_wp2_with (first | (go_at_call 15; refine (hM _).mono ?_; rintro e w' ⟨rfl, rfl⟩) | (go_at_call 16; refine (hS _).mono ?_; rintro e w' ⟨rfl, rfl⟩))
          go_ret
          exact ⟨rfl, Grown.refl _⟩
    · rw [if_neg s1] at t4
      have e1 : ¬ m < 0 := by omega
      have hc : (N < 2 * M) ∨ (2 * M = N ∧ K % 2 = 1) ∨ (2 * M = N ∧ K % 2 = 0) ∨ (2 * M < N) := by omega
      rcases hc with e2 | e2 | e2 | e2
      · rw [if_neg (by omega)] at hv
        have ho0 := eq_float (n := m - a1) hf (by rw [hv]; congr 1; omega) (by omega)
        have g1 : a1 < 2 * m := by omega
        clear hv t3 t4 hA hB hNp hMl hKl hf e2
        rcases ozr with ⟨oz, hsr⟩ | oz
        all_goals
          try rw [hsr, hdc] at hS
          go_enter Try.func3, Try.ntmps3
          go_wp2_with (first | (go_at_call 15; refine (hM _).mono ?_; rintro e w' ⟨rfl, rfl⟩) | (go_at_call 16; refine (hS _).mono ?_; rintro e w' ⟨rfl, rfl⟩))
          go_ret
          exact ⟨rfl, Grown.refl _⟩
      · rw [if_neg (by omega)] at hv
        have ho0 := eq_float (n := m - a1) hf (by rw [hv]; congr 1; omega) (by omega)
        have g1 : ¬ a1 < 2 * m := by omega
        have g2 : (2 * m == a1) = true := by rw [beq_iff_eq]; omega
        have g3 : q.tmod 2 = 1 := by rw [tmod_two]; split <;> omega
        have g5 : q % 2 = 1 := by omega
        clear hv t3 t4 hA hB hNp hMl hKl hf e2
        rcases ozr with ⟨oz, hsr⟩ | oz
        all_goals
          try rw [hsr, hdc] at hS
          go_enter Try.func3, Try.ntmps3
          go_wp2_with (first | (go_at_call 15; refine (hM _).mono ?_; rintro e w' ⟨rfl, rfl⟩) | (go_at_call 16; refine (hS _).mono ?_; rintro e w' ⟨rfl, rfl⟩))
          go_ret
          exact ⟨rfl, Grown.refl _⟩
      · rw [if_pos (by omega)] at hv
        have ho0 := eq_float (n := m) hf (by rw [hv]; congr 1; omega) (by omega)
        have g1 : ¬ a1 < 2 * m := by omega
        have g2 : (2 * m == a1) = true := by rw [beq_iff_eq]; omega
        have g3 : q.tmod 2 = 0 := by rw [tmod_two]; split <;> omega
        have g5 : q % 2 = 0 := by omega
        clear hv t3 t4 hA hB hNp hMl hKl hf e2
        rcases ozr with ⟨oz, hsr⟩ | oz
        all_goals
          try rw [hsr, hdc] at hS
          go_enter Try.func3, Try.ntmps3
          go_wp2_with (first | (go_at_call 15; refine (hM _).mono ?_; rintro e w' ⟨rfl, rfl⟩) | (go_at_call 16; refine (hS _).mono ?_; rintro e w' ⟨rfl, rfl⟩))
          go_ret
          exact ⟨rfl, Grown.refl _⟩
      · rw [if_pos (by omega)] at hv
        have ho0 := eq_float (n := m) hf (by rw [hv]; congr 1; omega) (by omega)
        have g1 : ¬ a1 < 2 * m := by omega
        have g2 : (2 * m == a1) = false := by rw [beq_eq_false_iff_ne]; omega
        clear hv t3 t4 hA hB hNp hMl hKl hf e2
        rcases ozr with ⟨oz, hsr⟩ | oz
        all_goals
          try rw [hsr, hdc] at hS
          go_enter Try.func3, Try.ntmps3
          go_wp2_with (first | (go_at_call 15; refine (hM _).mono ?_; rintro e w' ⟨rfl, rfl⟩) | (go_at_call 16; refine (hS _).mono ?_; rintro e w' ⟨rfl, rfl⟩))
          go_ret
          exact ⟨rfl, Grown.refl _⟩

set_option maxRecDepth 100000 in
theorem lifted (os : Os) (started : os.Started) (H : Type) (enc : TypeId × Value → H) :
    ReturnsInHanded {} Try.checked os 3 .any (Rows.fnRemainderWholeSpec.pre6 enc Try.prog Try.f3 Rows.fnRemainderWholeRow.domain false) (Rows.fnRemainderWholeSpec.post enc Try.prog Try.f3 false true false false) := by
  refine returnsInHanded_of_change (C := Try.checked) own started (by kernel_rfl) Try.func3
    (ChangeSpec.witness6 (enc := enc) (C := Try.checked) false ⟨#[], #[.int .i64 0, .int .i64 0], []⟩ 8 (by kernel_rfl) (by kernel_rfl) (by kernel_rfl) (by kernel_rfl)) ?_
  intro W base args ds gs before hval0 hW hcnd _
  have hval : ∀ (j : Nat) t v, Try.f3.params[j]? = some t → args[j]? = some v → Value.okWide Try.prog W .any base t v := hval0
  have hW' := hW
  obtain ⟨p, q, hA0, hV, rfl, hfz, hnd⟩ := hW
  have hA : DataW.TrodAll enc Try.prog W 0 (fun _ => true) true Try.f3.params.toList args.toList ds p := hA0
  rw [Try.params3] at hA hval
  obtain ⟨v0, vs0, d0, ds0, p0, q0, hargs, rfl, rfl, h0, r0⟩ := trodAll_cons hA
  obtain ⟨v1, vs1, d1, ds1, p1, q1, rfl, rfl, rfl, h1, r1⟩ := trodAll_cons r0
  obtain ⟨rfl, rfl, rfl⟩ := trodAll_nil r1
  obtain rfl : args = #[v0, v1] := by cases args; simp_all
  obtain ⟨rfl, rfl⟩ := trodVars_none hV
  obtain ⟨a0, rfl, rfl, rfl, w0⟩ := open_int Try.underlying2 (hval 0 2 v0 rfl rfl) h0
  obtain ⟨a1, rfl, rfl, rfl, w1⟩ := open_int Try.underlying2 (hval 1 2 v1 rfl rfl) h1
  clear hA0 hval0
  simp only [List.append_nil] at hW'
  refine (walk a0 a1 (bounds_of_wf w0) (bounds_of_wf w1) W).mono fun e W' ⟨he, hg⟩ => ?_
  subst he
  exact ⟨_, rfl, post_of_same (pa := []) (pv := []) hW' (fun _ _ _ => (trodAll_cons_mk (shut_bool Try.underlying4 _) trodAll_mk0)) (fun sp _ => (trodAll_cons_mk (shut_int Try.underlying2 w0) (trodAll_cons_mk (shut_int Try.underlying2 w1) trodAll_mk0))) (fun _ _ => rfl) rfl
    (hg.frame _) hg.2.1 (ok_one (by kernel_rfl) rfl (okWide_bool_mk Try.underlying4 _))⟩

theorem over : Rows.fnRemainderWholeRow.holds Try.pinned (OpenSpec.ofChange Rows.fnRemainderWholeSpec) :=
  OpenClaim.holds_of_wide 3 Try.f3 rfl rfl rfl rfl rfl rfl rfl ⟨rfl, rfl, rfl, rfl, rfl⟩ rfl rfl rfl rfl rfl (by kernel_rfl) Try.func3 (by kernel_rfl)
    (of_decide_eq_true (by kernel_rfl)) (by unfold Func.isWrapper; first | (rw [if_pos (by decide +kernel)]; kernel_rfl) | (rw [if_neg (by decide +kernel)]; exact ⟨rfl, rfl⟩))
    (fun os started H enc _ => lifted os started H enc)

theorem proved : Rows.FnRemainderWholeSaid := over
#print axioms proved
end Go.Proofs.Ytnegjfdaijnadaa.fnRemainderWhole
