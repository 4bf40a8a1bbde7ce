/- Plain facts for Remainder: comparisons as Booleans, the nearest remainder of magnitudes, and what the library's steps give. Conditions: as each states. -/
import Derived.Test.YtnegjfdaijnadaaMds
namespace Go.Proofs.Ytnegjfdaijnadaa
open Flt Ieee Go.RowKit

/-! ### comparisons as Booleans -/
theorem b_lt {a b : Nat} (ha : Fnt a) (hb : Fnt b) : (FloatKind.f64.format.order a b == some .lt) = decide (val a < val b) := by
  rcases Int.lt_trichotomy (val a) (val b) with c | c | c
  · rw [ord_lt ha hb c, decide_eq_true c]; rfl
  · rw [ord_eq ha hb c, decide_eq_false (Int.not_lt.2 (Int.le_of_eq c.symm))]; rfl
  · rw [ord_gt ha hb c, decide_eq_false (Int.not_lt.2 (Int.le_of_lt c))]; rfl
theorem b_gt {a b : Nat} (ha : Fnt a) (hb : Fnt b) : (FloatKind.f64.format.order a b == some .gt) = decide (val b < val a) := by
  rcases Int.lt_trichotomy (val a) (val b) with c | c | c
  · rw [ord_lt ha hb c, decide_eq_false (Int.not_lt.2 (Int.le_of_lt c))]; rfl
  · rw [ord_eq ha hb c, decide_eq_false (Int.not_lt.2 (Int.le_of_eq c))]; rfl
  · rw [ord_gt ha hb c, decide_eq_true c]; rfl
theorem b_eq {a b : Nat} (ha : Fnt a) (hb : Fnt b) : (FloatKind.f64.format.order a b == some .eq) = decide (val a = val b) := by
  rcases Int.lt_trichotomy (val a) (val b) with c | c | c
  · rw [ord_lt ha hb c, decide_eq_false (Int.ne_of_lt c)]; rfl
  · rw [ord_eq ha hb c, decide_eq_true c]; rfl
  · rw [ord_gt ha hb c, decide_eq_false (fun e => Int.ne_of_lt c e.symm)]; rfl
theorem b_le {a b : Nat} (ha : Fnt a) (hb : Fnt b) : (FloatKind.f64.format.order a b == some .lt || FloatKind.f64.format.order a b == some .eq) = decide (val a ≤ val b) := by
  rcases Int.lt_trichotomy (val a) (val b) with c | c | c
  · rw [ord_lt ha hb c, decide_eq_true (Int.le_of_lt c)]; rfl
  · rw [ord_eq ha hb c, decide_eq_true (Int.le_of_eq c)]; rfl
  · rw [ord_gt ha hb c, decide_eq_false (Int.not_le.2 c)]; rfl
theorem b_ge {a b : Nat} (ha : Fnt a) (hb : Fnt b) : (FloatKind.f64.format.order a b == some .gt || FloatKind.f64.format.order a b == some .eq) = decide (val b ≤ val a) := by
  rcases Int.lt_trichotomy (val a) (val b) with c | c | c
  · rw [ord_lt ha hb c, decide_eq_false (Int.not_le.2 c)]; rfl
  · rw [ord_eq ha hb c, decide_eq_true (Int.le_of_eq c.symm)]; rfl
  · rw [ord_gt ha hb c, decide_eq_true (Int.le_of_lt c)]; rfl

/-- A word is the nearest one to its own value. -/
theorem word_near {g : Nat} {z : Int} {s : Bool} (h64 : g < 2 ^ 64) (hf : Fnt g) (hv : val g = z) (hs : z = 0 → sg g = s) : g = near s z := by
  obtain ⟨-, -, h3, h4⟩ := near_val s (z := z) (r := rg g) (by rw [← hv, natAbs_val]) hf
  refine wd_ext h64 (near_lt _ _) ?_ h4.symm
  rw [h3]
  by_cases c : z = 0
  · rw [if_pos c]; exact hs c
  · rw [if_neg c]
    have h5 := @val_neg_iff g
    have h6 : rg g ≠ 0 := fun e => c (by rw [← hv]; exact val_eq_zero.2 e)
    rw [hv] at h5
    cases hg : sg g
    · rw [hg] at h5
      exact (decide_eq_false (fun q => Bool.false_ne_true (h5.1 q).1)).symm
    · exact (decide_eq_true (h5.2 ⟨hg, h6⟩)).symm

/-! ### the nearest remainder -/
def remZ (X Y : Nat) : Int := if 2 * (X % Y) < Y ∨ (2 * (X % Y) = Y ∧ X / Y % 2 = 0) then ((X % Y : Nat) : Int) else ((X % Y : Nat) : Int) - (Y : Int)
def remW (x y : Nat) : Nat := near (sg x) (if sg x then -remZ (mag (rg x)) (mag (rg y)) else remZ (mag (rg x)) (mag (rg y)))

theorem remZ_two (X Y : Nat) (hY : 0 < Y) : X % (Y * 2) < Y * 2 ∧ (2 * (X % (Y * 2)) ≤ Y → remZ X Y = ((X % (Y * 2) : Nat) : Int)) ∧
    (Y < 2 * (X % (Y * 2)) → 2 * (X % (Y * 2)) < 3 * Y → remZ X Y = ((X % (Y * 2) : Nat) : Int) - Y) ∧ (3 * Y ≤ 2 * (X % (Y * 2)) → remZ X Y = ((X % (Y * 2) : Nat) : Int) - Y - Y) := by
  have hm := Nat.mod_lt X hY
  have e := @Nat.mod_mul Y 2 X
  unfold remZ
  rw [e]
  have hp : X / Y % 2 = 0 ∨ X / Y % 2 = 1 := by omega
  generalize X % Y = m at hm ⊢
  rcases hp with hp | hp
  · rw [hp, Nat.mul_zero, Nat.add_zero]
    refine ⟨by omega, fun h => ?_, fun h1 h2 => ?_, fun h => ?_⟩
    · rw [if_pos (by omega)]
    · rw [if_neg (by omega)]
    · omega
  · rw [hp, Nat.mul_one]
    refine ⟨by omega, fun h => ?_, fun h1 h2 => ?_, fun h => ?_⟩
    · omega
    · rw [if_pos (by omega)]; omega
    · rw [if_neg (by omega)]; omega
theorem remZ_abs (X Y : Nat) (hY : 0 < Y) : (remZ X Y).natAbs = X % Y ∧ 2 * (X % Y) ≤ Y ∨ (remZ X Y).natAbs = Y - X % Y ∧ Y ≤ 2 * (X % Y) := by
  have hm := Nat.mod_lt X hY
  unfold remZ
  split
  · exact .inl ⟨Int.natAbs_natCast _, by omega⟩
  · exact .inr ⟨by omega, by omega⟩
theorem rem_rung (x y : Nat) (hx : x < INF) (hy : y ≠ 0) : ∃ r, mag r = (remZ (mag x) (mag y)).natAbs ∧ r < INF := by
  have hp : 0 < mag y := Nat.pos_of_ne_zero (fun q => hy (mag_eq_zero.1 q))
  obtain ⟨t, h1, h2, h3⟩ := mod_rung x y hx hy
  rcases remZ_abs (mag x) (mag y) hp with ⟨e, -⟩ | ⟨e, c⟩
  · exact ⟨t, by rw [e, h1], h2⟩
  · have hm := Nat.mod_lt (mag x) hp
    obtain ⟨u, hu⟩ := diff_rung (r := y) (t := t) (by rw [h1]; exact Nat.le_of_lt hm) (by rw [h1]; exact c)
    refine ⟨u, by rw [hu, e, h1], ?_⟩
    have : mag u ≤ mag t := by
      rw [hu, h1]
      generalize mag x % mag y = m at c hm
      omega
    exact Nat.lt_of_le_of_lt (mag_le_iff.1 this) h2
/-- What 'remW' is. -/
theorem remW_spec {x y : Nat} (hx : Fnt x) (hy : rg y ≠ 0) : Fnt (remW x y) ∧ val (remW x y) = (if sg x then -remZ (mag (rg x)) (mag (rg y)) else remZ (mag (rg x)) (mag (rg y))) ∧ remW x y < 2 ^ 64 ∧ (remZ (mag (rg x)) (mag (rg y)) = 0 → sg (remW x y) = sg x) ∧ mag (rg (remW x y)) = (remZ (mag (rg x)) (mag (rg y))).natAbs := by
  obtain ⟨r, h1, h2⟩ := rem_rung (rg x) (rg y) hx hy
  have hz : (if sg x then -remZ (mag (rg x)) (mag (rg y)) else remZ (mag (rg x)) (mag (rg y))).natAbs = (remZ (mag (rg x)) (mag (rg y))).natAbs := by
    cases sg x
    · rfl
    · rw [if_pos rfl, Int.natAbs_neg]
  obtain ⟨k1, k2, k3, k4⟩ := near_val (sg x) (z := if sg x then -remZ (mag (rg x)) (mag (rg y)) else remZ (mag (rg x)) (mag (rg y))) (r := r) (by rw [h1, hz]) h2
  refine ⟨k1, k2, near_lt _ _, fun e => ?_, ?_⟩
  · show sg (near _ _) = _
    rw [k3, e]
    cases sg x <;> simp
  · have := natAbs_val (remW x y)
    rw [← this, show val (remW x y) = _ from k2, hz]

/-! ### what the library's steps give -/
theorem mag_double {r : Nat} (h : 2 ^ 52 ≤ r) : mag (r + 2 ^ 52) = mag r * 2 := by
  rcases rung_cases r with c | ⟨e, f, hf, rfl⟩
  · omega
  · rw [mag_of _ _ hf, show (e + 1) * 2 ^ 52 + f + 2 ^ 52 = (e + 1 + 1) * 2 ^ 52 + f by omega, mag_of _ _ hf, show 2 ^ (e + 1) = 2 ^ e * 2 from Nat.pow_succ _ _, Nat.mul_assoc]
theorem fin_hmax : Fnt 9214364837600034815 := by unfold Fnt rg INF; omega
theorem val_hmax : val 9214364837600034815 = (mag 9214364837600034815 : Int) := by
  rw [val_eq (b := 9214364837600034815) (s := false) rfl, if_neg Bool.false_ne_true, show rg 9214364837600034815 = 9214364837600034815 by unfold rg; omega]
theorem fin_tiny : Fnt 9007199254740992 := by unfold Fnt rg INF; omega
theorem val_tiny : val 9007199254740992 = ((2 ^ 53 : Nat) : Int) := by
  rw [val_eq (b := 9007199254740992) (s := false) rfl, if_neg Bool.false_ne_true, show rg 9007199254740992 = (1 + 1) * 2 ^ 52 by unfold rg; omega, mag_of0]
theorem double_small {b : Nat} (h : mag b ≤ mag 9214364837600034815) : ∃ t, mag t = mag b * 2 ∧ t < INF := by
  obtain ⟨t, ht⟩ := scale_rung b 1
  rw [Nat.pow_one] at ht
  refine ⟨t, ht, ?_⟩
  have h1 : mag t ≤ mag 9218868437227405311 := by
    rw [ht, show (9218868437227405311 : Nat) = 9214364837600034815 + 2 ^ 52 from rfl, mag_double (by omega)]
    exact Nat.mul_le_mul_right 2 h
  have := mag_le_iff.1 h1
  unfold INF; omega
theorem double_big {a b : Nat} (ha : a < INF) (h : ¬ mag b ≤ mag 9214364837600034815) : mag a < mag b * 2 := by
  have h1 : 9214364837600034815 + 1 ≤ b := by
    have := @mag_le_iff b 9214364837600034815
    omega
  have h2 := mag_le h1
  have h3 : mag (9214364837600034815 + 1 + 2 ^ 52) = mag (9214364837600034815 + 1) * 2 := mag_double (by omega)
  have h4 : a < 9214364837600034815 + 1 + 2 ^ 52 := by unfold INF at ha; omega
  have h5 := mag_lt h4
  rw [h3] at h5
  exact Nat.lt_of_lt_of_le h5 (Nat.mul_le_mul_right 2 h2)
theorem val_of_sg {g m : Nat} {s : Bool} (hs : sg g = s) (hm : mag (rg g) = m) (h0 : s = true → m = 0) : val g = (m : Int) := by
  rw [val_eq hs, hm]
  cases s
  · rfl
  · rw [if_pos rfl, h0 rfl]; rfl
/-- Up to 'x = Mod(x, y+y)'. -/
theorem rem_data {ax y X : Nat} (hax : Fnt ax) (hax0 : ax < 2 ^ 64) (hm : mag (rg ax) = X) (hs : sg ax = true → X = 0) (hy : Fnt y) (hz : rg y ≠ 0) :
    ∃ r yy b, Fnt r ∧ r < 2 ^ 64 ∧ val r = ((X % (mag (rg y) * 2) : Nat) : Int) ∧ sg r = sg ax ∧
      (FloatKind.f64.format.order (absW y) 9214364837600034815 == some .lt || FloatKind.f64.format.order (absW y) 9214364837600034815 == some .eq) = b ∧
      (b = true → double.add (absW y) (absW y) = some yy ∧ ∀ w, Calls Try.prog 30 #[.float .f64 ax, .float .f64 yy] w fun e w' => e = .returned (.float .f64 r) ∧ w = w') ∧ (b = false → r = ax) := by
  have hb := b_le (fin_absW.2 hy) fin_hmax
  rw [val_absW, val_hmax] at hb
  by_cases c : mag (rg y) ≤ mag 9214364837600034815
  · rw [decide_eq_true (Int.ofNat_le.2 c)] at hb
    obtain ⟨t, ht, hi⟩ := double_small c
    have hvv : (val (absW y) + val (absW y)).natAbs = mag (rg y) * 2 := by rw [val_absW]; omega
    obtain ⟨yy, a1, a2, a3, a4, -⟩ := add_exact (fin_absW.2 hy) (fin_absW.2 hy) (t := t) (by rw [hvv, ht]) hi
    have hyy : mag (rg yy) = mag (rg y) * 2 := by rw [← natAbs_val, a3, hvv]
    have hyz : rg yy ≠ 0 := by
      intro e
      rw [e, mag_zero] at hyy
      exact hz (mag_eq_zero.1 (by omega))
    obtain ⟨g1, g2, g3, g4⟩ := modW_spec hax hyz
    rw [hyy, hm] at g3
    exact ⟨modW ax yy, yy, true, g1, g4, val_of_sg g2 g3 (fun e => by rw [hs e, Nat.zero_mod]), g2, hb, fun _ => ⟨a1, fun w => mMod_fin ax yy w hax a2 hax0 a4 hyz⟩, fun e => Bool.noConfusion e⟩
  · rw [decide_eq_false (fun q => c (Int.ofNat_le.1 q))] at hb
    have hlt := double_big hax c
    rw [hm] at hlt
    refine ⟨ax, 0, false, hax, hax0, ?_, rfl, hb, fun e => Bool.noConfusion e, fun _ => rfl⟩
    rw [Nat.mod_eq_of_lt hlt]
    exact val_of_sg rfl hm hs
theorem half_word {y : Nat} (hy : Fnt y) (h : 2 ^ 53 ≤ mag (rg y)) : ∃ g, double.mul 4602678819172646912 (absW y) = some g ∧ Fnt g ∧ 2 * val g = (mag (rg y) : Int) := by
  have hr : 2 ^ 53 ≤ rg y := by
    rcases Nat.lt_or_ge (rg y) (2 ^ 53) with c | c
    · have := mag_lt (show rg y < (1 + 1) * 2 ^ 52 from c)
      rw [mag_of0] at this
      omega
    · exact c
  obtain ⟨q, hq⟩ : ∃ q, rg y = q + 2 ^ 52 := ⟨rg y - 2 ^ 52, by omega⟩
  have h1 : mag (rg y) = mag q * 2 := by rw [hq, mag_double (by omega)]
  have hf : rg y < INF := hy
  have hl := INF_lt
  have hqi : q < INF := by omega
  have hql : q < 9223372036854775808 := by omega
  refine ⟨wd false q, ?_, by unfold Fnt; rw [rg_wd _ hql]; exact hqi, ?_⟩
  · have := mul_exact (a := 4602678819172646912) (b := absW y) (t := q) fin_half (fin_absW.2 hy) ?_ (Nat.le_of_lt hqi)
    · rw [sg_absW, show sg 4602678819172646912 = false from rfl] at this
      exact this
    · rw [mag_half, rg_absW, h1, U_two]
      generalize mag q = A
      rw [Nat.mul_comm HU, Nat.mul_assoc]
  · rw [val_wd _ hql, if_neg Bool.false_ne_true, h1]; omega
/-- The magnitude of a difference of two magnitudes near to each other is a rung, not above the first one. -/
theorem near_diff {r y : Nat} (h1 : mag y ≤ 2 * mag r) (h2 : mag r ≤ 2 * mag y) : ∃ u, mag u = ((mag r : Int) - (mag y : Int)).natAbs ∧ u ≤ r := by
  rcases Nat.le_total (mag y) (mag r) with c | c
  · obtain ⟨u, hu⟩ := diff_rung c h2
    refine ⟨u, by omega, mag_le_iff.1 (by omega)⟩
  · obtain ⟨u, hu⟩ := diff_rung c h1
    refine ⟨u, by omega, mag_le_iff.1 (by omega)⟩
theorem twice_small {b B : Nat} (h : mag b = B) (hB : B < 2 ^ 54) : ∃ t, mag t = B * 2 ∧ t < INF := by
  have h1 := le_mag b
  obtain ⟨t, ht, hi⟩ := double_small (b := b) (mag_le (by omega))
  exact ⟨t, by rw [ht, h], hi⟩
/-- Behind 'x = Mod(x, y+y)'. -/
theorem tail_data {r y R Y : Nat} {Z : Int} (hr : Fnt r) (hr0 : r < 2 ^ 64) (hv : val r = (R : Int)) (hy : Fnt y) (hY : mag (rg y) = Y) (hlt : R < Y * 2)
    (z1 : 2 * R ≤ Y → Z = (R : Int)) (z2 : Y < 2 * R → 2 * R < 3 * Y → Z = (R : Int) - Y) (z3 : 3 * Y ≤ 2 * R → Z = (R : Int) - Y - Y) :
    ∃ (z c d h r1 : Nat) (tb b1 b2 : Bool), Fnt z ∧ z < 2 ^ 64 ∧ val z = Z ∧ (Z = 0 → sg z = sg r) ∧
      (FloatKind.f64.format.order (absW y) 9007199254740992 == some .lt) = tb ∧
      (tb = true → double.add r r = some c ∧ (FloatKind.f64.format.order c (absW y) == some .gt) = b1 ∧ (b1 = true → double.add r1 r1 = some d ∧ (FloatKind.f64.format.order d (absW y) == some .gt || FloatKind.f64.format.order d (absW y) == some .eq) = b2)) ∧
      (tb = false → double.mul 4602678819172646912 (absW y) = some h ∧ (FloatKind.f64.format.order r h == some .gt) = b1 ∧ (b1 = true → (FloatKind.f64.format.order r1 h == some .gt || FloatKind.f64.format.order r1 h == some .eq) = b2)) ∧
      (b1 = false → z = r) ∧ (b1 = true → double.sub r (absW y) = some r1) ∧ (b1 = true → b2 = false → z = r1) ∧ (b1 = true → b2 = true → double.sub r1 (absW y) = some z) := by
  have hay := fin_absW.2 hy
  have hva := val_absW y
  rw [hY] at hva
  have hn : mag (rg r) = R := by rw [← natAbs_val, hv]; exact Int.natAbs_natCast R
  have htb := b_lt hay fin_tiny
  rw [hva, val_tiny] at htb
  -- the outcome of the tests
  by_cases c1 : Y < 2 * R
  · -- one subtraction at least
    obtain ⟨u, hu, hur⟩ := near_diff (r := rg r) (y := rg y) (by omega) (by omega)
    rw [hn, hY] at hu
    have hui : u < INF := Nat.lt_of_le_of_lt hur hr
    obtain ⟨r1, s1, s2, s3, s4, s5⟩ := sub_exact hr hay (t := u) (by rw [hu, hv, hva]) hui
    rw [hv, hva] at s3 s5
    rw [sg_absW, Bool.not_false, Bool.and_true] at s5
    have hn1 : mag (rg r1) = mag u := by rw [← natAbs_val, s3, hu]
    have huR : mag u ≤ R := by rw [← hn]; exact mag_le hur
    -- the second test
    have key : ∀ b2 : Bool, b2 = decide (3 * Y ≤ 2 * R) → ∃ z, Fnt z ∧ z < 2 ^ 64 ∧ val z = Z ∧ (Z = 0 → sg z = sg r) ∧ (b2 = false → z = r1) ∧ (b2 = true → double.sub r1 (absW y) = some z) := by
      intro b2 hb2
      by_cases c2 : 3 * Y ≤ 2 * R
      · rw [decide_eq_true c2] at hb2
        subst hb2
        have hu' : mag u = R - Y := by omega
        obtain ⟨v, hv', hvr⟩ := near_diff (r := rg r1) (y := rg y) (by rw [hn1, hu', hY]; omega) (by rw [hn1, hu', hY]; omega)
        rw [hn1, hu', hY] at hv'
        obtain ⟨z, t1, t2, t3, t4, -⟩ := sub_exact s2 hay (t := v) (by rw [hv', s3, hva]; congr 1; omega) (Nat.lt_of_le_of_lt hvr s2)
        rw [s3, hva] at t3
        refine ⟨z, t2, t4, by rw [t3, z3 c2], fun e => ?_, fun e => Bool.noConfusion e, fun _ => t1⟩
        rw [z3 c2] at e
        omega
      · rw [decide_eq_false c2] at hb2
        subst hb2
        refine ⟨r1, s2, s4, by rw [s3, z2 c1 (by omega)], fun e => s5 (by rw [← z2 c1 (by omega)]; exact e), fun _ => rfl, fun e => Bool.noConfusion e⟩
    obtain ⟨z, k1, k2, k3, k4, k5, k6⟩ := key _ rfl
    by_cases ct : Y < 2 ^ 53
    · rw [decide_eq_true (Int.ofNat_lt.2 ct)] at htb
      obtain ⟨t, ht, hti⟩ := twice_small hn (by omega)
      obtain ⟨c, a1, a2, a3, -, -⟩ := add_exact hr hr (t := t) (by rw [ht, hv]; omega) hti
      obtain ⟨t', ht', hti'⟩ := twice_small hn1 (by omega)
      obtain ⟨d, d1, d2, d3, -, -⟩ := add_exact s2 s2 (t := t') (by rw [ht', s3, hu]; omega) hti'
      have o1 := b_gt a2 hay
      rw [a3, hv, hva, decide_eq_true (by omega)] at o1
      have o2 := b_ge d2 hay
      rw [d3, s3, hva] at o2
      refine ⟨z, c, d, 0, r1, true, true, decide (3 * Y ≤ 2 * R), k1, k2, k3, k4, htb, fun _ => ⟨a1, o1, fun _ => ⟨d1, ?_⟩⟩, fun e => Bool.noConfusion e, fun e => Bool.noConfusion e, fun _ => s1, fun _ => k5, fun _ => k6⟩
      rw [o2]
      exact decide_eq_decide.2 (by omega)
    · rw [decide_eq_false (fun q => ct (Int.ofNat_lt.1 q))] at htb
      obtain ⟨h, h1, h2, h3⟩ := half_word hy (by omega)
      rw [hY] at h3
      have o1 := b_gt hr h2
      rw [hv, decide_eq_true (by omega)] at o1
      have o2 := b_ge s2 h2
      rw [s3] at o2
      refine ⟨z, 0, 0, h, r1, false, true, decide (3 * Y ≤ 2 * R), k1, k2, k3, k4, htb, fun e => Bool.noConfusion e, fun _ => ⟨h1, o1, fun _ => ?_⟩, fun e => Bool.noConfusion e, fun _ => s1, fun _ => k5, fun _ => k6⟩
      rw [o2]
      exact decide_eq_decide.2 (by omega)
  · by_cases ct : Y < 2 ^ 53
    · rw [decide_eq_true (Int.ofNat_lt.2 ct)] at htb
      obtain ⟨t, ht, hti⟩ := twice_small hn (by omega)
      obtain ⟨c, a1, a2, a3, -, -⟩ := add_exact hr hr (t := t) (by rw [ht, hv]; omega) hti
      have o1 := b_gt a2 hay
      rw [a3, hv, hva, decide_eq_false (by omega)] at o1
      exact ⟨r, c, 0, 0, 0, true, false, false, hr, hr0, by rw [hv, z1 (by omega)], fun _ => rfl, htb, fun _ => ⟨a1, o1, fun e => Bool.noConfusion e⟩, fun e => Bool.noConfusion e, fun _ => rfl, fun e => Bool.noConfusion e, fun e => Bool.noConfusion e, fun e => Bool.noConfusion e⟩
    · rw [decide_eq_false (fun q => ct (Int.ofNat_lt.1 q))] at htb
      obtain ⟨h, h1, h2, h3⟩ := half_word hy (by omega)
      rw [hY] at h3
      have o1 := b_gt hr h2
      rw [hv, decide_eq_false (by omega)] at o1
      exact ⟨r, 0, 0, h, 0, false, false, false, hr, hr0, by rw [hv, z1 (by omega)], fun _ => rfl, htb, fun e => Bool.noConfusion e, fun _ => ⟨h1, o1, fun e => Bool.noConfusion e⟩, fun _ => rfl, fun e => Bool.noConfusion e, fun e => Bool.noConfusion e, fun e => Bool.noConfusion e⟩
end Go.Proofs.Ytnegjfdaijnadaa
