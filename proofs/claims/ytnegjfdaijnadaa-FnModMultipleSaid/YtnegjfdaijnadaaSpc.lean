/- Contracts of the reference's small functions (isNegative, size, signed, isFinite, whole and their kin) and of the laws' own (size, same, sameFloat). Conditions: as each states. -/
import Derived.Test.YtnegjfdaijnadaaRun
import Derived.Test.YtnegjfdaijnadaaOrd
import Derived.Test.YtnegjfdaijnadaaChecked
import Derived.WalkSpells
import Derived.Outline
namespace Go.Proofs.Ytnegjfdaijnadaa
open Flt Ieee Go.RowKit

theorem grown_trans {a b c : World} (h : Grown a b) (k : Grown b c) : Grown a c :=
  ⟨World.keptBut_trans h.1 (World.keptBut_mono (fun _ f => f.elim) k.1), fun x => (k.2.1 x).trans (h.2.1 x), Nat.le_trans h.2.2 k.2.2⟩

theorem isNegative_lt (b : Nat) (w : World) (h : FloatKind.f64.format.order b 0 = some .lt) :
    Calls Try.prog 28 #[.float .f64 b] w fun e w' => e = .returned (.bool true) ∧ w = w' := by
  go_enter Try.func28, Try.ntmps28
  go_wp2
  go_ret
  exact ⟨rfl, rfl⟩
theorem isNegative_gt (b : Nat) (w : World) (h : FloatKind.f64.format.order b 0 = some .gt) :
    Calls Try.prog 28 #[.float .f64 b] w fun e w' => e = .returned (.bool false) ∧ w = w' := by
  go_enter Try.func28, Try.ntmps28
  go_wp2
  go_ret
  exact ⟨rfl, rfl⟩
theorem isNegative_none (b : Nat) (w : World) (h : FloatKind.f64.format.order b 0 = none) :
    Calls Try.prog 28 #[.float .f64 b] w fun e w' => e = .returned (.bool false) ∧ w = w' := by
  go_enter Try.func28, Try.ntmps28
  go_wp2
  go_ret
  exact ⟨rfl, rfl⟩
theorem isNegative_eq (b r : Nat) (s : Bool) (w : World) (h : FloatKind.f64.format.order b 0 = some .eq) (h1 : double.div 4607182418800017408 b = some r) (h2 : (FloatKind.f64.format.order r 0 == some .lt) = s) :
    Calls Try.prog 28 #[.float .f64 b] w fun e w' => e = .returned (.bool s) ∧ w = w' := by
  go_enter Try.func28, Try.ntmps28
  go_wp2
  go_ret
  exact ⟨rfl, rfl⟩
theorem isNegative_num (b : Nat) (w : World) (h : ¬ NaN b) :
    Calls Try.prog 28 #[.float .f64 b] w fun e w' => e = .returned (.bool (sg b)) ∧ w = w' := by
  rcases kinds b with h1 | h1 | h1
  · rcases Int.lt_trichotomy (val b) (val 0) with c | c | c
    · have hs : sg b = true := (val_neg_iff.1 (by rw [val_zero] at c; exact c)).1
      rw [hs]; exact isNegative_lt b w (ord_lt h1 fin_zero c)
    · have hr : rg b = 0 := val_eq_zero.1 (by rw [val_zero] at c; exact c)
      refine isNegative_eq b _ _ w (ord_eq h1 fin_zero c) (div_one_zero hr) ?_
      rw [order_inf_zero]; cases sg b <;> rfl
    · have hs : sg b = false := by
        have h2 := @val_neg_iff b
        rw [val_zero] at c
        have h3 := @val_eq_zero b
        cases hb : sg b
        · rfl
        · rw [hb] at h2
          have : val b < 0 := h2.2 ⟨rfl, fun hr => by have := h3.2 hr; omega⟩
          omega
      rw [hs]; exact isNegative_gt b w (ord_gt h1 fin_zero c)
  · have e := ord_inf_fin h1 fin_zero
    cases hs : sg b
    · exact isNegative_gt b w (by rw [e, hs]; rfl)
    · exact isNegative_lt b w (by rw [e, hs]; rfl)
  · exact absurd h1 h

theorem size_pos (b : Nat) (w : World) (h : ¬ NaN b) (h64 : b < 2 ^ 64) :
    Calls Try.prog 37 #[.float .f64 b] w fun e w' => e = .returned (.float .f64 (absW b)) ∧ w = w' := by
  have hc := isNegative_num b w h
  cases hs : sg b
  · rw [hs] at hc
    rw [absW_of_pos h64 hs]
    go_enter Try.func37, Try.ntmps37
    go_wp2_with (go_at_call 28; refine hc.mono ?_; rintro e w' ⟨rfl, rfl⟩)
    go_ret
    exact ⟨rfl, rfl⟩
  · rw [hs] at hc
    rw [absW_of_neg h64 hs]
    go_enter Try.func37, Try.ntmps37
    go_wp2_with (go_at_call 28; refine hc.mono ?_; rintro e w' ⟨rfl, rfl⟩)
    go_ret
    exact ⟨rfl, rfl⟩

theorem isNegative_nan (b : Nat) (w : World) (h : NaN b) :
    Calls Try.prog 28 #[.float .f64 b] w fun e w' => e = .returned (.bool false) ∧ w = w' := isNegative_none b w (ord_nan_left 0 h)

theorem signed_true (b : Nat) (w : World) :
    Calls Try.prog 39 #[.bool true, .float .f64 b] w fun e w' => e = .returned (.float .f64 (negW b)) ∧ w = w' := by
  go_enter Try.func39, Try.ntmps39
  go_wp2
  go_ret
  exact ⟨rfl, rfl⟩
theorem signed_false (b : Nat) (w : World) :
    Calls Try.prog 39 #[.bool false, .float .f64 b] w fun e w' => e = .returned (.float .f64 b) ∧ w = w' := by
  go_enter Try.func39, Try.ntmps39
  go_wp2
  go_ret
  exact ⟨rfl, rfl⟩
def sgnW (s : Bool) (b : Nat) : Nat := if s then negW b else b
theorem signed_any (s : Bool) (b : Nat) (w : World) :
    Calls Try.prog 39 #[.bool s, .float .f64 b] w fun e w' => e = .returned (.float .f64 (sgnW s b)) ∧ w = w' := by
  cases s
  · exact signed_false b w
  · exact signed_true b w

theorem sub_self {b : Nat} (h : Fnt b) : ∃ r, double.sub b b = some r ∧ FloatKind.f64.format.order r 0 = some .eq := by
  have hz : (val b - val b).natAbs = 0 := by omega
  obtain ⟨h1, h2, -⟩ := near_val (sg b && !sg b) (z := val b - val b) (r := 0) (by rw [mag_zero]; omega) (by unfold INF; omega)
  exact ⟨_, sub_fin h h, ord_eq h1 fin_zero (by rw [h2, val_zero]; omega)⟩
theorem isFinite_yes (b : Nat) (w : World) (h : Fnt b) :
    Calls Try.prog 29 #[.float .f64 b] w fun e w' => e = .returned (.bool true) ∧ w = w' := by
  obtain ⟨r, h1, h2⟩ := sub_self h
  go_enter Try.func29, Try.ntmps29
  go_wp2
  go_ret
  exact ⟨rfl, rfl⟩
theorem sub_not {b : Nat} (h : ¬ Fnt b) : double.sub b b = none := by
  rcases kinds b with h1 | h1 | h1
  · exact absurd h1 h
  · exact sub_inf_self h1
  · exact sub_nan_left b h1
theorem isFinite_not (b : Nat) (w : World) (h : ¬ Fnt b) :
    Calls Try.prog 29 #[.float .f64 b] w fun e w' => e = .returned (.bool false) ∧ w.drew = w' := by
  have h1 := fun (u : World) (t : TypeId) => run_sub_nan (P := Try.prog) u t (sub_not h)
  have h2 : FloatKind.f64.format.order (tapeNaN w b b) 0 = none := ord_nan_left 0 (tapeNaN_nan w b b)
  go_enter Try.func29, Try.ntmps29
  go_wp2
  go_ret
  exact ⟨rfl, rfl⟩
theorem IsFinite_yes (b : Nat) (w : World) (h : Fnt b) :
    Calls Try.prog 17 #[.float .f64 b] w fun e w' => e = .returned (.bool true) ∧ w = w' := by
  go_enter Try.func17, Try.ntmps17
  go_wp2_with (go_at_call 29; refine (isFinite_yes b _ h).mono ?_; rintro e w' ⟨rfl, rfl⟩)
  go_ret
  exact ⟨rfl, rfl⟩
theorem IsFinite_not (b : Nat) (w : World) (h : ¬ Fnt b) :
    Calls Try.prog 17 #[.float .f64 b] w fun e w' => e = .returned (.bool false) ∧ w.drew = w' := by
  go_enter Try.func17, Try.ntmps17
  go_wp2_with (go_at_call 29; refine (isFinite_not b _ h).mono ?_; rintro e w' ⟨rfl, rfl⟩)
  go_ret
  exact ⟨rfl, rfl⟩
theorem Signbit_num (b : Nat) (w : World) (h : ¬ NaN b) :
    Calls Try.prog 16 #[.float .f64 b] w fun e w' => e = .returned (.bool (sg b)) ∧ w = w' := by
  go_enter Try.func16, Try.ntmps16
  go_wp2_with (go_at_call 28; refine (isNegative_num b _ h).mono ?_; rintro e w' ⟨rfl, rfl⟩)
  go_ret
  exact ⟨rfl, rfl⟩
/-! ### same, sameFloat -/
theorem fin_nan {b : Nat} (h : Fnt b) : ¬ NaN b := by unfold Fnt at h; unfold NaN; omega
theorem inf_nan {b : Nat} (h : Inf b) : ¬ NaN b := by unfold Inf at h; unfold NaN; omega
theorem inf_fin {b : Nat} (h : Inf b) : ¬ Fnt b := by unfold Inf at h; unfold Fnt; omega
theorem nan_fin {b : Nat} (h : NaN b) : ¬ Fnt b := by unfold NaN at h; unfold Fnt; omega
theorem ord_nonzero {b : Nat} (h : ¬ NaN b) (hz : rg b ≠ 0) : FloatKind.f64.format.order b 0 = some .lt ∨ FloatKind.f64.format.order b 0 = some .gt := by
  rcases kinds b with h1 | h1 | h1
  · have : val b ≠ 0 := fun e => hz (val_eq_zero.1 e)
    rcases Int.lt_trichotomy (val b) (val 0) with c | c | c
    · exact .inl (ord_lt h1 fin_zero c)
    · rw [val_zero] at c; exact absurd c this
    · exact .inr (ord_gt h1 fin_zero c)
  · rw [ord_inf_fin h1 fin_zero]; cases sg b
    · exact .inr rfl
    · exact .inl rfl
  · exact absurd h1 h
theorem fin_of_zero {b : Nat} (h : rg b = 0) : Fnt b := by unfold Fnt INF; omega
theorem ord_zero {b : Nat} (h : rg b = 0) : FloatKind.f64.format.order b 0 = some .eq := ord_eq (fin_of_zero h) fin_zero (by rw [val_zero, val_eq_zero]; exact h)
theorem same_self (b : Nat) (w : World) (h : ¬ NaN b) :
    Calls Try.prog 21 #[.float .f64 b, .float .f64 b] w fun e w' => e = .returned (.bool true) ∧ w = w' := by
  have e := ord_self h
  by_cases hz : rg b = 0
  · have h1 := ord_zero hz
    have h2 := div_one_zero hz
    have h3 := ord_self (inf_nan (inf_wd (sg b)))
    go_enter Try.func21, Try.ntmps21
    go_wp2
    go_ret
    exact ⟨rfl, rfl⟩
  · rcases ord_nonzero h hz with h1 | h1
    · go_enter Try.func21, Try.ntmps21
      go_wp2
      go_ret
      exact ⟨rfl, rfl⟩
    · go_enter Try.func21, Try.ntmps21
      go_wp2
      go_ret
      exact ⟨rfl, rfl⟩
theorem same_nan (a b : Nat) (w : World) (ha : NaN a) (hb : NaN b) :
    Calls Try.prog 21 #[.float .f64 a, .float .f64 b] w fun e w' => e = .returned (.bool true) ∧ w = w' := by
  have h1 := ord_nan_left a ha
  have h2 := ord_nan_left b hb
  go_enter Try.func21, Try.ntmps21
  go_wp2
  go_ret
  exact ⟨rfl, rfl⟩
theorem sameFloat_self (b : Nat) (w : World) (h : ¬ NaN b) :
    Calls Try.prog 24 #[.float .f64 b, .float .f64 b] w fun e w' => e = .returned (.bool true) ∧ w = w' := by
  have e := ord_self h
  by_cases hz : rg b = 0
  · have h1 := ord_zero hz
    have h2 := div_one_zero hz
    have h3 := order_inf_zero (sg b)
    cases hs : sg b
    all_goals
      rw [hs] at h2 h3
      go_enter Try.func24, Try.ntmps24
      go_wp2
      go_ret
      exact ⟨rfl, rfl⟩
  · rcases ord_nonzero h hz with h1 | h1
    · go_enter Try.func24, Try.ntmps24
      go_wp2
      go_ret
      exact ⟨rfl, rfl⟩
    · go_enter Try.func24, Try.ntmps24
      go_wp2
      go_ret
      exact ⟨rfl, rfl⟩
theorem sameFloat_nan (a b : Nat) (w : World) (ha : NaN a) (hb : NaN b) :
    Calls Try.prog 24 #[.float .f64 a, .float .f64 b] w fun e w' => e = .returned (.bool true) ∧ w = w' := by
  have h1 := ord_nan_left a ha
  have h2 := ord_nan_left b hb
  go_enter Try.func24, Try.ntmps24
  go_wp2
  go_ret
  exact ⟨rfl, rfl⟩
/-! ### the laws' size -/
/-- What the laws' 'size' gives: a negative zero stays one. -/
def lsize (b : Nat) : Nat := if sg b = true ∧ rg b ≠ 0 then negW b else b
theorem lsize_pos (b : Nat) (w : World) (h : Fnt b) :
    Calls Try.prog 22 #[.float .f64 b] w fun e w' => e = .returned (.float .f64 (lsize b)) ∧ w = w' := by
  by_cases c : val b < 0
  · have h1 := ord_lt h fin_zero (by rw [val_zero]; exact c)
    have e : lsize b = negW b := if_pos (val_neg_iff.1 c)
    rw [e]
    go_enter Try.func22, Try.ntmps22
    go_wp2
    go_ret
    exact ⟨rfl, rfl⟩
  · have e : lsize b = b := if_neg (fun k => c (val_neg_iff.2 k))
    rw [e]
    have h1 : FloatKind.f64.format.order b 0 = some .eq ∨ FloatKind.f64.format.order b 0 = some .gt := by
      rcases Int.lt_trichotomy (val b) (val 0) with c' | c' | c'
      · rw [val_zero] at c'; exact absurd c' c
      · exact .inl (ord_eq h fin_zero c')
      · exact .inr (ord_gt h fin_zero c')
    rcases h1 with h1 | h1
    · go_enter Try.func22, Try.ntmps22
      go_wp2
      go_ret
      exact ⟨rfl, rfl⟩
    · go_enter Try.func22, Try.ntmps22
      go_wp2
      go_ret
      exact ⟨rfl, rfl⟩
theorem lsize_inf (b : Nat) (w : World) (h : Inf b) :
    Calls Try.prog 22 #[.float .f64 b] w fun e w' => e = .returned (.float .f64 (lsize b)) ∧ w = w' := by
  have hz : rg b ≠ 0 := by have h' : rg b = INF := h; unfold INF at h'; omega
  have e := ord_inf_fin h fin_zero
  cases hs : sg b
  · have e' : lsize b = b := if_neg (fun k => by rw [hs] at k; exact Bool.false_ne_true k.1)
    rw [hs, if_neg Bool.false_ne_true] at e
    rw [e']
    go_enter Try.func22, Try.ntmps22
    go_wp2
    go_ret
    exact ⟨rfl, rfl⟩
  · have e' : lsize b = negW b := if_pos ⟨hs, hz⟩
    rw [hs, if_pos rfl] at e
    rw [e']
    go_enter Try.func22, Try.ntmps22
    go_wp2
    go_ret
    exact ⟨rfl, rfl⟩
theorem lsize_nan (b : Nat) (w : World) (h : NaN b) :
    Calls Try.prog 22 #[.float .f64 b] w fun e w' => e = .returned (.float .f64 b) ∧ w = w' := by
  have e := ord_nan_left 0 h
  go_enter Try.func22, Try.ntmps22
  go_wp2
  go_ret
  exact ⟨rfl, rfl⟩
theorem lsize_lt {b : Nat} (h : b < 2 ^ 64) : lsize b < 2 ^ 64 := by
  unfold lsize; split
  · exact negW_lt h
  · exact h
theorem lsize_fin {b : Nat} (h : b < 2 ^ 64) (hb : Fnt b) : Fnt (lsize b) := by
  unfold lsize; split
  · exact (fin_negW h).2 hb
  · exact hb
theorem lsize_val {b : Nat} (h : b < 2 ^ 64) : val (lsize b) = (mag (rg b) : Int) := by
  unfold lsize; split
  · rename_i c
    rw [val_negW h]; unfold val; rw [c.1]; simp
  · rename_i c
    unfold val
    cases hs : sg b
    · simp
    · have hr : rg b = 0 := by
        apply Classical.byContradiction
        intro hz
        exact c ⟨hs, hz⟩
      rw [hr, mag_zero]; simp
theorem lsize_isInf {b : Nat} (h : b < 2 ^ 64) (hb : Inf b) : Inf (lsize b) ∧ sg (lsize b) = false := by
  have hz : rg b ≠ 0 := by have h' : rg b = INF := hb; unfold INF at h'; omega
  unfold lsize
  cases hs : sg b
  · rw [if_neg (fun k => Bool.false_ne_true k.1)]; exact ⟨hb, hs⟩
  · rw [if_pos ⟨rfl, hz⟩]; exact ⟨(inf_negW h).2 hb, by rw [sg_negW h, hs]; rfl⟩
end Go.Proofs.Ytnegjfdaijnadaa
