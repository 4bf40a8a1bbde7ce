/- Plain facts for FnRoundingsRise: order of words that are no not-a-numbers by their values, and all roundings are monotone. Conditions: as each states. -/
import Derived.Test.YtaabgcncacdnoaaRnk
namespace Go.Proofs.Ytaabgcncacdnoaa
open Flt Ieee Go.RowKit

theorem val_inf {b : Nat} (h : Inf b) : val b = if sg b then -(mag INF : Int) else (mag INF : Int) := by
  rw [val_eq (b := b) rfl, show rg b = INF from h]
theorem val_bound {b : Nat} (h : ¬ NaN b) : -(mag INF : Int) ≤ val b ∧ val b ≤ (mag INF : Int) := by
  have h1 : rg b ≤ INF := by unfold NaN at h; omega
  have h2 := mag_le h1
  have h3 := natAbs_val b
  omega
theorem val_fin {b : Nat} (h : Fnt b) : -(mag INF : Int) < val b ∧ val b < (mag INF : Int) := by
  have h2 := mag_lt (show rg b < INF from h)
  have h3 := natAbs_val b
  omega
theorem mag_INF_pos : 0 < mag INF := Nat.lt_of_le_of_lt (Nat.zero_le _) (mag_lt (show 0 < INF by unfold INF; omega))
/-- ORDER: words that are no not-a-numbers stand as their values. -/
theorem order_num {a b : Nat} (ha : ¬ NaN a) (hb : ¬ NaN b) : FloatKind.f64.format.order a b = some (compare (val a) (val b)) := by
  have hp := mag_INF_pos
  rcases kinds a with ka | ka | ka
  · rcases kinds b with kb | kb | kb
    · exact order_fin ka kb
    · have va := val_fin ka
      rw [ord_fin_inf ka kb, val_inf kb]
      cases sg b
      · rw [if_neg Bool.false_ne_true, if_neg Bool.false_ne_true, cmp_lt va.2]
      · rw [if_pos rfl, if_pos rfl, cmp_gt va.1]
    · exact absurd kb hb
  · rcases kinds b with kb | kb | kb
    · have vb := val_fin kb
      rw [ord_inf_fin ka kb, val_inf ka]
      cases sg a
      · rw [if_neg Bool.false_ne_true, if_neg Bool.false_ne_true, cmp_gt vb.2]
      · rw [if_pos rfl, if_pos rfl, cmp_lt vb.1]
    · rw [ord_inf_inf ka kb, val_inf ka, val_inf kb]
      cases sg a <;> cases sg b
      · rw [cmp_eq rfl]; rfl
      · rw [if_neg Bool.false_ne_true, if_pos rfl, cmp_gt (by omega)]; rfl
      · rw [if_neg Bool.false_ne_true, if_pos rfl, cmp_lt (by omega)]; rfl
      · rw [cmp_eq rfl]; rfl
    · exact absurd kb hb
  · exact absurd ka ha

/-! ### roundings are monotone -/
def roundK (k : Nat) (s : Bool) (n : Nat) : Nat :=
  match k with
  | 0 => Kof .down s n
  | 1 => Kof .up s n
  | 2 => Kof .zero s n
  | 3 => Kaway n
  | _ => Kof .even s n
theorem roundW_K {x : Nat} (h : Fnt x) (h0 : x < 2 ^ 64) (k : Nat) : IsInt (roundW x k) (sg x) (roundK k (sg x) (mag (rg x))) := by
  match k with
  | 0 => exact intW_int .down h h0
  | 1 => exact intW_int .up h h0
  | 2 => exact intW_int .zero h h0
  | 3 => exact awayW_int h h0
  | _ + 4 => exact intW_int .even h h0
theorem roundK_mono (k : Nat) (s : Bool) {m n : Nat} (h : m ≤ n) : roundK k s m ≤ roundK k s n := by
  have hq : m / U ≤ n / U := Nat.div_le_div_right h
  have hm := Nat.div_add_mod m U
  have hn := Nat.div_add_mod n U
  have hU := U_pos
  have hr : m / U = n / U → m % U ≤ n % U := by
    intro e
    rw [e] at hm
    omega
  unfold roundK
  rcases Nat.lt_or_ge (m / U) (n / U) with c | c
  · match k with
    | 0 => simp only; rw [K_down, K_down]; generalize m / U = a at *; generalize n / U = b at *; split <;> split <;> omega
    | 1 => simp only; rw [K_up, K_up]; generalize m / U = a at *; generalize n / U = b at *; split <;> split <;> omega
    | 2 => simp only; rw [K_zero, K_zero]; exact hq
    | 3 => simp only; unfold Kaway; generalize m / U = a at *; generalize n / U = b at *; split <;> split <;> omega
    | _ + 4 => simp only; rw [K_even, K_even]; generalize m / U = a at *; generalize n / U = b at *; split <;> split <;> omega
  · have e : m / U = n / U := Nat.le_antisymm hq c
    have hr := hr e
    clear hm hn h hq c
    match k with
    | 0 =>
      simp only; rw [K_down, K_down, e]
      generalize m % U = a at *; generalize n % U = b at *
      by_cases q : s = true ∧ a ≠ 0
      · rw [if_pos q, if_pos ⟨q.1, by have := q.2; omega⟩]; exact Nat.le_refl _
      · rw [if_neg q]; exact Nat.le_add_right _ _
    | 1 =>
      simp only; rw [K_up, K_up, e]
      generalize m % U = a at *; generalize n % U = b at *
      by_cases q : s = false ∧ a ≠ 0
      · rw [if_pos q, if_pos ⟨q.1, by have := q.2; omega⟩]; exact Nat.le_refl _
      · rw [if_neg q]; exact Nat.le_add_right _ _
    | 2 => simp only; rw [K_zero, K_zero, e]; exact Nat.le_refl _
    | 3 =>
      simp only; unfold Kaway; rw [e]
      generalize m % U = a at *; generalize n % U = b at *
      by_cases q : U ≤ 2 * a
      · rw [if_pos q, if_pos (by omega)]; exact Nat.le_refl _
      · rw [if_neg q]; exact Nat.le_add_right _ _
    | _ + 4 =>
      simp only; rw [K_even, K_even, e]
      generalize m % U = a at *; generalize n % U = b at *; generalize n / U = d at *
      by_cases q : U < 2 * a ∨ (U = 2 * a ∧ d % 2 = 1)
      · rw [if_pos q, if_pos (by omega)]; exact Nat.le_refl _
      · rw [if_neg q]; exact Nat.le_add_right _ _
theorem roundW_mono {x y : Nat} (hx : Fnt x) (hy : Fnt y) (hx0 : x < 2 ^ 64) (hy0 : y < 2 ^ 64) (k : Nat) (h : val x ≤ val y) : val (roundW x k) ≤ val (roundW y k) := by
  have ix := roundW_K hx hx0 k
  have iy := roundW_K hy hy0 k
  have vx := isInt_val ix
  have vy := isInt_val iy
  rw [val_eq (b := x) rfl, val_eq (b := y) rfl] at h
  rw [vx, vy]
  generalize sg x = s at *
  generalize sg y = t at *
  cases s <;> cases t
  · rw [if_neg Bool.false_ne_true, if_neg Bool.false_ne_true] at h ⊢
    exact Int.ofNat_le.2 (Nat.mul_le_mul_right _ (roundK_mono k false (Int.ofNat_le.1 h)))
  · rw [if_neg Bool.false_ne_true, if_pos rfl] at h
    have hx1 : mag (rg x) = 0 := by omega
    have hy1 : mag (rg y) = 0 := by omega
    rw [hx1, hy1]
    have e1 : roundK k false 0 = 0 := by
      have := roundW_K (x := 0) fin_zero (by omega) k
      have e : rg 0 = 0 := rfl
      rw [e, mag_zero, show sg 0 = false from rfl, roundW_of_mod fin_zero (by omega) k (by rw [e, mag_zero, Nat.zero_mod])] at this
      have h2 := this.2.2.2
      rw [e, mag_zero] at h2
      rcases Nat.mul_eq_zero.1 h2.symm with q | q
      · exact q
      · exact absurd q (Nat.ne_of_gt U_pos)
    have hB : roundK k true 0 = 0 := by
      have hz : (9223372036854775808 : Nat) < 2 ^ 64 := by omega
      have e : rg 9223372036854775808 = 0 := rfl
      have hf : Fnt 9223372036854775808 := by unfold Fnt; rw [e]; unfold INF; omega
      have := roundW_K (x := 9223372036854775808) hf hz k
      rw [e, mag_zero, show sg 9223372036854775808 = true from rfl, roundW_of_mod hf hz k (by rw [e, mag_zero, Nat.zero_mod])] at this
      have h2 := this.2.2.2
      rw [e, mag_zero] at h2
      rcases Nat.mul_eq_zero.1 h2.symm with q | q
      · exact q
      · exact absurd q (Nat.ne_of_gt U_pos)
    rw [e1, hB, Nat.zero_mul, if_neg Bool.false_ne_true, if_pos rfl]
    omega
  · rw [if_pos rfl, if_neg Bool.false_ne_true]
    generalize roundK k true (mag (rg x)) * U = A
    generalize roundK k false (mag (rg y)) * U = B
    omega
  · rw [if_pos rfl, if_pos rfl] at h ⊢
    exact Int.neg_le_neg (Int.ofNat_le.2 (Nat.mul_le_mul_right _ (roundK_mono k true (Int.ofNat_le.1 (by omega)))))

/-! ### what the law meets -/
theorem rnd_num {x k r : Nat} (h0 : x < 2 ^ 64) (nx : ¬ NaN x) (hr : Rnd x k r) : ¬ NaN r ∧ (Fnt x → Fnt r ∧ r = roundW x k) ∧ (Inf x → r = x) := by
  rcases kinds x with h | h | h
  · have e := hr.2.1 h
    have f := (roundW_fin h h0 k).1
    rw [← e] at f
    exact ⟨fin_nan f, fun _ => ⟨f, e⟩, fun i => absurd h (inf_fin i)⟩
  · have e := hr.2.2.1 h
    exact ⟨by rw [e]; exact nx, fun i => absurd i (inf_fin h), fun _ => e⟩
  · exact absurd h nx
theorem rise {x y k r t : Nat} (hx0 : x < 2 ^ 64) (hy0 : y < 2 ^ 64) (nx : ¬ NaN x) (ny : ¬ NaN y) (hr : Rnd x k r) (ht : Rnd y k t) (h : val x ≤ val y) : val r ≤ val t := by
  obtain ⟨n1, f1, i1⟩ := rnd_num hx0 nx hr
  obtain ⟨n2, f2, i2⟩ := rnd_num hy0 ny ht
  have b1 := val_bound n1
  have b2 := val_bound n2
  rcases kinds x with kx | kx | kx
  · rcases kinds y with ky | ky | ky
    · rw [(f1 kx).2, (f2 ky).2]; exact roundW_mono kx ky hx0 hy0 k h
    · have e := i2 ky
      have v := val_inf ky
      have vf := val_fin kx
      rw [e]
      cases hs : sg y
      · rw [hs, if_neg Bool.false_ne_true] at v; rw [v]; exact b1.2
      · rw [hs, if_pos rfl] at v; omega
    · exact absurd ky ny
  · have e := i1 kx
    have v := val_inf kx
    have vb := val_bound ny
    rw [e]
    cases hs : sg x
    · rw [hs, if_neg Bool.false_ne_true] at v
      rcases kinds y with ky | ky | ky
      · have vf := val_fin ky; omega
      · rw [i2 ky]; exact h
      · exact absurd ky ny
    · rw [hs, if_pos rfl] at v; rw [v]; exact b2.1
  · exact absurd kx nx
theorem rise_inf {x y k r t : Nat} (hx0 : x < 2 ^ 64) (hy0 : y < 2 ^ 64) (nx : ¬ NaN x) (ny : ¬ NaN y) (hr : Rnd x k r) (ht : Rnd y k t) (h : val x < val y) (hi : Inf x ∨ Inf y) : val r < val t := by
  obtain ⟨n1, f1, i1⟩ := rnd_num hx0 nx hr
  obtain ⟨n2, f2, i2⟩ := rnd_num hy0 ny ht
  rcases kinds x with kx | kx | kx
  · have ky : Inf y := by rcases hi with q | q; exact absurd kx (inf_fin q); exact q
    have v := val_inf ky
    have vf := val_fin kx
    have vr := val_fin (f1 kx).1
    rw [i2 ky]
    cases hs : sg y
    · rw [hs, if_neg Bool.false_ne_true] at v; omega
    · rw [hs, if_pos rfl] at v; omega
  · have v := val_inf kx
    have vb := val_bound ny
    rw [i1 kx]
    cases hs : sg x
    · rw [hs, if_neg Bool.false_ne_true] at v; omega
    · rw [hs, if_pos rfl] at v
      rcases kinds y with ky | ky | ky
      · have vr := val_fin (f2 ky).1; omega
      · rw [i2 ky]; exact h
      · exact absurd ky ny
  · exact absurd kx nx
theorem fin_two : Fnt 4611686018427387904 := by unfold Fnt rg INF; omega
theorem val_two : val 4611686018427387904 = ((2 * U : Nat) : Int) := by
  rw [val_eq (b := 4611686018427387904) (s := false) rfl, if_neg Bool.false_ne_true]
  have h : rg 4611686018427387904 = rg 4607182418800017408 + 2 ^ 52 := by unfold rg; omega
  have h1 : rg 4607182418800017408 = (1022 + 1) * 2 ^ 52 := by unfold rg; omega
  have h2 : mag (rg 4607182418800017408 + 2 ^ 52) = 2 * mag (rg 4607182418800017408) := by
    rw [h1, show (1022 + 1) * 2 ^ 52 + 2 ^ 52 = (1023 + 1) * 2 ^ 52 by omega]
    have e : ∀ q : Nat, mag ((q + 1 + 1) * 2 ^ 52) = 2 * mag ((q + 1) * 2 ^ 52) := by
      intro q
      rw [mag_of0, mag_of0, show 2 ^ (q + 1) = 2 ^ q * 2 from Nat.pow_succ _ _]
      omega
    exact e 1022
  rw [h, h2, mag_one]
theorem sub_infs {a b : Nat} (ha : ¬ NaN a) (hb : ¬ NaN b) (hi : Inf a ∨ Inf b) (h : ¬ (Inf a ∧ Inf b ∧ sg a = sg b)) : ∃ s, double.sub a b = some (wd s INF) ∧ (val a ≤ val b → s = true) := by
  have hp := mag_INF_pos
  rcases kinds a with ka | ka | ka
  · have kb : Inf b := by rcases hi with q | q; exact absurd ka (inf_fin q); exact q
    obtain ⟨m, i, ra, -⟩ := read_fin ka
    have v := val_inf kb
    have vf := val_fin ka
    refine ⟨!sg b, ?_, fun q => ?_⟩
    · unfold Format.sub; rw [ra, read_inf kb]; rfl
    · cases hs : sg b
      · rfl
      · rw [hs, if_pos rfl] at v; omega
  · have v := val_inf ka
    rcases kinds b with kb | kb | kb
    · obtain ⟨m, i, rb, -⟩ := read_fin kb
      have vf := val_fin kb
      refine ⟨sg a, ?_, fun q => ?_⟩
      · unfold Format.sub; rw [rb, read_inf ka]; rfl
      · cases hs : sg a
        · rw [hs, if_neg Bool.false_ne_true] at v; omega
        · rfl
    · have vb := val_inf kb
      have hne : sg a ≠ sg b := fun q => h ⟨ka, kb, q⟩
      refine ⟨sg a, ?_, fun q => ?_⟩
      · unfold Format.sub; rw [read_inf ka, read_inf kb]
        cases h1 : sg a <;> cases h2 : sg b
        · rw [h1, h2] at hne; exact absurd rfl hne
        · rfl
        · rfl
        · rw [h1, h2] at hne; exact absurd rfl hne
      · cases h1 : sg a
        · cases h2 : sg b
          · rw [h1, h2] at hne; exact absurd rfl hne
          · rw [h1, if_neg Bool.false_ne_true] at v
            rw [h2, if_pos rfl] at vb
            omega
        · rfl
    · exact absurd kb hb
  · exact absurd ka ha
/-- 'x - y > 2'. -/
theorem gap {x y : Nat} (nx : ¬ NaN x) (ny : ¬ NaN y) (hx0 : x < 2 ^ 64) (hy0 : y < 2 ^ 64) (h : ¬ (Inf x ∧ Inf y ∧ sg x = sg y)) :
    ∃ g b, double.sub x y = some g ∧ (FloatKind.f64.format.order g 4611686018427387904 == some .gt) = b ∧ (val x ≤ val y → b = false) ∧
      (b = true → ∀ k r t, Rnd x k r → Rnd y k t → val t < val r) := by
  by_cases hi : Inf x ∨ Inf y
  · obtain ⟨s, hs, h1⟩ := sub_infs nx ny hi h
    refine ⟨_, _, hs, rfl, fun q => ?_, fun q k r t hr ht => ?_⟩
    · rw [ord_inf_fin (inf_wd s) fin_two, sg_inf, h1 q]; rfl
    · have hlt : val y < val x := by
        apply Classical.byContradiction
        intro c
        rw [ord_inf_fin (inf_wd s) fin_two, sg_inf, h1 (by omega)] at q
        exact absurd q (by decide)
      exact rise_inf hy0 hx0 ny nx ht hr hlt hi.symm
  · have fx : Fnt x := by
      rcases kinds x with q | q | q
      · exact q
      · exact absurd (.inl q) hi
      · exact absurd q nx
    have fy : Fnt y := by
      rcases kinds y with q | q | q
      · exact q
      · exact absurd (.inr q) hi
      · exact absurd q ny
    have key : val x - val y ≤ ((2 * U : Nat) : Int) → (FloatKind.f64.format.order (near (sg x && !sg y) (val x - val y)) 4611686018427387904 == some .gt) = false := by
      intro c
      have hn : ¬ NaN (near (sg x && !sg y) (val x - val y)) := by
        unfold NaN
        rw [rg_near]
        have := Nat.min_le_right (rd (val x - val y).natAbs) INF
        omega
      rw [order_num hn (fin_nan fin_two), val_two]
      have hle : val (near (sg x && !sg y) (val x - val y)) ≤ ((2 * U : Nat) : Int) := by
        rw [val_eq (b := near (sg x && !sg y) (val x - val y)) rfl]
        cases hs : sg (near (sg x && !sg y) (val x - val y))
        · rw [if_neg Bool.false_ne_true, rg_near]
          refine Int.ofNat_le.2 ?_
          by_cases hz : val x - val y ≤ 0
          · have h0 : val x - val y = 0 := by
              rw [sg_near] at hs
              by_cases z : val x - val y = 0
              · exact z
              · rw [if_neg z] at hs
                have := of_decide_eq_false hs
                omega
            rw [h0, Int.natAbs_zero, rd_zero, Nat.zero_min, mag_zero]
            exact Nat.zero_le _
          · have h2 : (val x - val y).natAbs ≤ mag (rg 4611686018427387904) := by
              have := natAbs_val 4611686018427387904
              rw [val_two] at this
              generalize 2 * U = A at this c
              generalize val x - val y = B at c hz ⊢
              omega
            have h3 := rd_le h2
            have h4 : mag (min (rd (val x - val y).natAbs) INF) ≤ mag (rg 4611686018427387904) := mag_le (Nat.le_trans (Nat.min_le_left _ _) h3)
            have := natAbs_val 4611686018427387904
            rw [val_two, Int.natAbs_natCast] at this
            rw [this]; exact h4
        · rw [if_pos rfl]
          generalize mag (rg (near (sg x && !sg y) (val x - val y))) = A
          generalize 2 * U = B
          omega
      rcases Int.lt_or_eq_of_le hle with q | q
      · rw [cmp_lt q]; rfl
      · rw [cmp_eq q]; rfl
    refine ⟨_, _, sub_fin fx fy, rfl, fun q => ?_, fun q k r t hr ht => ?_⟩
    · refine key ?_
      generalize 2 * U = A
      omega
    · have hgt : ¬ (val x - val y ≤ ((2 * U : Nat) : Int)) := fun c => by rw [key c] at q; exact Bool.noConfusion q
      rw [hr.2.1 fx, ht.2.1 fy]
      have d1 := roundW_dist fx hx0 k
      have d2 := roundW_dist fy hy0 k
      generalize val (roundW x k) = A at *
      generalize val (roundW y k) = B at *
      generalize val x = C at *
      generalize val y = D at *
      generalize U = V at *
      omega
end Go.Proofs.Ytaabgcncacdnoaa
