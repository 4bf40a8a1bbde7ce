/- FnRemainderValue returns true for every input. No condition. -/
import Derived.Test.YtnegjfdaijnadaaRows
import Derived.Test.YtnegjfdaijnadaaRml
import Derived.ProofKit
import Derived.OpenShut
namespace Go.Proofs.Ytnegjfdaijnadaa.fnRemainderValue
open Go.ChangeShapes Go.WideShapes Go.ChangeAt Go.RowKit Flt Ieee
theorem own : ownKnob Try.prog.godebug = none := by kernel_rfl
theorem lt_of_wf {b : Nat} (h : (Lit.float .f64 b).wf = true) : b < 2 ^ 64 := by simpa [Lit.wf] using h
theorem bounds_of_wf {n : Int} (h : (Lit.int .i64 n).wf = true) : -9223372036854775808 ≤ n ∧ n ≤ 9223372036854775807 := by simpa [Lit.wf, IntKind.min, IntKind.max, IntKind.signed, IntKind.bits] using h
theorem facts {x y : Nat} (hx : Fnt x) (hy : Fnt y) (hx0 : x < 2 ^ 64) (hy0 : y < 2 ^ 64) (hz : rg y ≠ 0) :
    ∃ (d1 d2 : Nat) (c1 c2 : Bool), double.sub (lsize y) (lsize (remW x y)) = some d1 ∧ double.sub (lsize y) (lsize x) = some d2 ∧
    (FloatKind.f64.format.order (lsize (remW x y)) d1 == some .lt || FloatKind.f64.format.order (lsize (remW x y)) d1 == some .eq) = true ∧
    (FloatKind.f64.format.order (lsize (remW x y)) (lsize x) == some .lt || FloatKind.f64.format.order (lsize (remW x y)) (lsize x) == some .eq) = true ∧
    (FloatKind.f64.format.order (remW x y) 0 == some .eq) = c1 ∧ (c1 = true → sg (remW x y) = sg x) ∧
    (FloatKind.f64.format.order d2 (lsize x) == some .lt) = c2 ∧ (c2 = false → remW x y = x) := by
  obtain ⟨h1, h2, h3, h4, h5⟩ := remW_spec hx hz
  have hp := mag_pos hz
  obtain ⟨l1, l2⟩ := remZ_le (mag (rg x)) (mag (rg y)) hp
  have fr := lsize_fin h3 h1
  have fy := lsize_fin hy0 hy
  have fx := lsize_fin hx0 hx
  have vr := lsize_val h3
  rw [h5] at vr
  have hrg : rg (remW x y) < INF := h1
  have D1 := diff_cmp (sg (lsize y) && !sg (lsize (remW x y))) (y := rg y) (x := rg (remW x y)) hy hrg hz
  have D2 := diff_cmp (sg (lsize y) && !sg (lsize x)) (y := rg y) (x := rg x) hy hx hz
  have s1 := sub_fin fy fr
  rw [lsize_val hy0, lsize_val h3] at s1
  have s2 := sub_fin fy fx
  rw [lsize_val hy0, lsize_val hx0] at s2
  refine ⟨_, _, _, _, s1, s2, ?_, ?_, rfl, ?_, rfl, ?_⟩
  · rw [b_le fr D1.1, lsize_val h3]
    exact decide_eq_true (D1.2.1 (by rw [h5]; exact l1))
  · rw [b_le fr fx, vr, lsize_val hx0]
    exact decide_eq_true (Int.ofNat_le.2 l2)
  · rw [b_eq h1 fin_zero, val_zero]
    intro e
    have e' := of_decide_eq_true e
    have e2 := val_eq_zero.1 e'
    refine h4 ?_
    rw [e2, mag_zero] at h5
    exact Int.natAbs_eq_zero.1 h5.symm
  · rw [b_lt D2.1 fx, lsize_val hx0]
    intro e
    have e' := of_decide_eq_false e
    refine remW_keep hx hx0 hz ?_
    rcases Nat.lt_or_ge (mag (rg y)) (2 * mag (rg x)) with c | c
    · exact absurd (D2.2.2 c) e'
    · exact c
theorem sub_inf_fin {y x : Nat} (hy : Inf y) (hs : sg y = false) (hx : Fnt x) : double.sub y x = some (wd false INF) := by
  obtain ⟨n, j, rx, -⟩ := read_fin hx
  unfold Format.sub
  rw [read_inf hy, rx, hs]
  rfl
set_option maxHeartbeats 4000000 in
theorem walk (a0 a1 : Nat) (h0 : a0 < 2 ^ 64) (h1 : a1 < 2 ^ 64) (w : World) :
    Calls Try.prog 14 #[.float .f64 a0, .float .f64 a1] w fun e w' => e = .returned (.bool true) ∧ Grown w w' := by
  by_cases hx : Fnt a0
  · have hnx := fin_nan hx
    by_cases hny : NaN a1
    · have hM := fun u => Remainder_none a0 a1 u h0 (.inr (.inr hny))
      have e1 := ord_nan_left a1 hny
      have e2 := ord_nan_left 9221120237041090561 nan_lit
      go_enter Try.func14, Try.ntmps14
      go_wp2_with (first | (go_at_call 15; refine (hM _).mono ?_; rintro e w' ⟨rfl, rfl⟩) | (go_at_call 17; refine (IsFinite_yes _ _ hx).mono ?_; rintro e w' ⟨rfl, rfl⟩))
      go_ret
      exact ⟨rfl, Grown.refl _⟩
    · have e1 := ord_self hny
      by_cases hz : rg a1 = 0
      · have hM := fun u => Remainder_none a0 a1 u h0 (.inl hz)
        have e2 := ord_nan_left 9221120237041090561 nan_lit
        have e3 := ord_zero hz
        go_enter Try.func14, Try.ntmps14
        go_wp2_with (first | (go_at_call 15; refine (hM _).mono ?_; rintro e w' ⟨rfl, rfl⟩) | (go_at_call 17; refine (IsFinite_yes _ _ hx).mono ?_; rintro e w' ⟨rfl, rfl⟩))
        go_ret
        exact ⟨rfl, Grown.refl _⟩
      · have e3 := ord_nonzero hny hz
        rcases kinds a1 with hy | hy | hy
        · have hM := fun u => Remainder_fin a0 a1 u hx hy h0 h1 hz
          obtain ⟨d1, d2, c1, c2, f1, f2, f3, f4, f5, f6, f7, f8⟩ := facts hx hy h0 h1 hz
          obtain ⟨g1, g2, g3, g4, g5⟩ := remW_spec hx hz
          have hS1 := fun u => Signbit_num (remW a0 a1) u (fin_nan g1)
          have hS2 := fun u => Signbit_num a0 u hnx
          have hsm : c2 = false → ∀ u, Calls Try.prog 21 #[.float .f64 (remW a0 a1), .float .f64 a0] u fun e w' => e = .returned (.bool true) ∧ u = w' := by
            intro q u
            rw [f8 q]; exact same_self a0 u hnx
          generalize remW a0 a1 = r at *
          generalize sg a0 = s at *
          generalize sg r = t at *
          have o1 : FloatKind.f64.format.order r 0 = some .eq ∧ t = s ∨ FloatKind.f64.format.order r 0 = some .lt ∨ FloatKind.f64.format.order r 0 = some .gt := by
            by_cases q : rg r = 0
            · have q1 := ord_zero q
              exact .inl ⟨q1, f6 (by rw [← f5, q1]; rfl)⟩
            · exact .inr (ord_nonzero (fin_nan g1) q)
          clear f8 g2 g4 g5 hz f5 f6
          have e4 : (FloatKind.f64.format.order a1 0 == some .eq) = false := by rcases e3 with e3 | e3 <;> rw [e3] <;> rfl
          clear e3
          cases c2
          all_goals
            simp only [forall_const, Bool.true_eq_false, false_implies] at hsm
            rcases o1 with ⟨o1, rfl⟩ | o1 | o1
            all_goals
              cases t
              all_goals
                go_enter Try.func14, Try.ntmps14
                go_wp2_with (first | (go_at_call 15; refine (hM _).mono ?_; rintro e w' ⟨rfl, rfl⟩) | (go_at_call 17; refine (IsFinite_yes _ _ hx).mono ?_; rintro e w' ⟨rfl, rfl⟩) | (go_at_call 22; (with_reducible refine (lsize_pos _ _ (by assumption)).mono ?_); rintro e w' ⟨rfl, rfl⟩) | (go_at_call 16; (with_reducible refine (hS1 _).mono ?_); rintro e w' ⟨rfl, rfl⟩) | (go_at_call 16; (with_reducible refine (hS2 _).mono ?_); rintro e w' ⟨rfl, rfl⟩) | (go_at_call 21; (with_reducible refine (hsm _).mono ?_); rintro e w' ⟨rfl, rfl⟩))
                go_ret
                exact ⟨rfl, Grown.refl _⟩
        · have hM := fun u => Remainder_inf a0 a1 u hx hy h0 h1
          obtain ⟨i1, i2⟩ := lsize_isInf h1 hy
          have f1 := sub_inf_fin i1 i2 (lsize_fin h0 hx)
          have f2 : FloatKind.f64.format.order (lsize a0) (wd false INF) = some .lt := by rw [ord_fin_inf (lsize_fin h0 hx) (inf_wd false), sg_inf, if_neg Bool.false_ne_true]
          have f3 : FloatKind.f64.format.order (wd false INF) (lsize a0) = some .gt := by rw [ord_inf_fin (inf_wd false) (lsize_fin h0 hx), sg_inf, if_neg Bool.false_ne_true]
          have f4 := ord_self (fin_nan (lsize_fin h0 hx))
          have hS2 := fun u => Signbit_num a0 u hnx
          have e4 : (FloatKind.f64.format.order a1 0 == some .eq) = false := by rcases e3 with e3 | e3 <;> rw [e3] <;> rfl
          clear hz e3
          generalize sg a0 = s at hS2
          generalize wd false INF = di at *
          have o1 : FloatKind.f64.format.order a0 0 = some .eq ∨ FloatKind.f64.format.order a0 0 = some .lt ∨ FloatKind.f64.format.order a0 0 = some .gt := by
            by_cases q : rg a0 = 0
            · exact .inl (ord_zero q)
            · exact .inr (ord_nonzero hnx q)
          cases s <;> rcases o1 with o1 | o1 | o1
          all_goals
            go_enter Try.func14, Try.ntmps14
            go_wp2_with (first | (go_at_call 15; refine (hM _).mono ?_; rintro e w' ⟨rfl, rfl⟩) | (go_at_call 17; refine (IsFinite_yes _ _ hx).mono ?_; rintro e w' ⟨rfl, rfl⟩) | (go_at_call 22; (with_reducible refine (lsize_pos _ _ hx).mono ?_); rintro e w' ⟨rfl, rfl⟩) | (go_at_call 22; (with_reducible refine (lsize_inf _ _ hy).mono ?_); rintro e w' ⟨rfl, rfl⟩) | (go_at_call 16; (with_reducible refine (hS2 _).mono ?_); rintro e w' ⟨rfl, rfl⟩) | (go_at_call 21; (with_reducible refine (same_self _ _ hnx).mono ?_); rintro e w' ⟨rfl, rfl⟩))
            go_ret
            exact ⟨rfl, Grown.refl _⟩
        · exact absurd hy hny
  · have hM := fun u => Remainder_none a0 a1 u h0 (.inr (.inl hx))
    have e2 := ord_nan_left 9221120237041090561 nan_lit
    go_enter Try.func14, Try.ntmps14
    go_wp2_with (first | (go_at_call 15; refine (hM _).mono ?_; rintro e w' ⟨rfl, rfl⟩) | (go_at_call 17; refine (IsFinite_not _ _ hx).mono ?_; rintro e w' ⟨rfl, rfl⟩))
    go_ret
    exact ⟨rfl, (Grown.refl _).drew⟩

set_option maxRecDepth 100000 in
theorem lifted (os : Os) (started : os.Started) (H : Type) (enc : TypeId × Value → H) :
    ReturnsInHanded {} Try.checked os 14 .any (Rows.fnRemainderValueSpec.pre6 enc Try.prog Try.f14 Rows.fnRemainderValueRow.domain false) (Rows.fnRemainderValueSpec.post enc Try.prog Try.f14 false true false false) := by
  refine returnsInHanded_of_change (C := Try.checked) own started (by kernel_rfl) Try.func14
    (ChangeSpec.witness6 (enc := enc) (C := Try.checked) false ⟨#[], #[.float .f64 0, .float .f64 0], []⟩ 8 (by kernel_rfl) (by kernel_rfl) (by kernel_rfl) (by kernel_rfl)) ?_
  intro W base args ds gs before hval0 hW hcnd _
  have hval : ∀ (j : Nat) t v, Try.f14.params[j]? = some t → args[j]? = some v → Value.okWide Try.prog W .any base t v := hval0
  have hW' := hW
  obtain ⟨p, q, hA0, hV, rfl, hfz, hnd⟩ := hW
  have hA : DataW.TrodAll enc Try.prog W 0 (fun _ => true) true Try.f14.params.toList args.toList ds p := hA0
  rw [Try.params14] at hA hval
  obtain ⟨v0, vs0, d0, ds0, p0, q0, hargs, rfl, rfl, h0, r0⟩ := trodAll_cons hA
  obtain ⟨v1, vs1, d1, ds1, p1, q1, rfl, rfl, rfl, h1, r1⟩ := trodAll_cons r0
  obtain ⟨rfl, rfl, rfl⟩ := trodAll_nil r1
  obtain rfl : args = #[v0, v1] := by cases args; simp_all
  obtain ⟨rfl, rfl⟩ := trodVars_none hV
  obtain ⟨a0, rfl, rfl, rfl, w0⟩ := open_float Try.underlying22 (hval 0 22 v0 rfl rfl) h0
  obtain ⟨a1, rfl, rfl, rfl, w1⟩ := open_float Try.underlying22 (hval 1 22 v1 rfl rfl) h1
  clear hA0 hval0
  simp only [List.append_nil] at hW'
  refine (walk a0 a1 (lt_of_wf w0) (lt_of_wf w1) W).mono fun e W' ⟨he, hg⟩ => ?_
  subst he
  exact ⟨_, rfl, post_of_same (pa := []) (pv := []) hW' (fun _ _ _ => (trodAll_cons_mk (shut_bool Try.underlying4 _) trodAll_mk0)) (fun sp _ => (trodAll_cons_mk (shut_float Try.underlying22 w0) (trodAll_cons_mk (shut_float Try.underlying22 w1) trodAll_mk0))) (fun _ _ => rfl) rfl
    (hg.frame _) hg.2.1 (ok_one (by kernel_rfl) rfl (okWide_bool_mk Try.underlying4 _))⟩

theorem over : Rows.fnRemainderValueRow.holds Try.pinned (OpenSpec.ofChange Rows.fnRemainderValueSpec) :=
  OpenClaim.holds_of_wide 14 Try.f14 rfl rfl rfl rfl rfl rfl rfl ⟨rfl, rfl, rfl, rfl, rfl⟩ rfl rfl rfl rfl rfl (by kernel_rfl) Try.func14 (by kernel_rfl)
    (of_decide_eq_true (by kernel_rfl)) (by unfold Func.isWrapper; first | (rw [if_pos (by decide +kernel)]; kernel_rfl) | (rw [if_neg (by decide +kernel)]; exact ⟨rfl, rfl⟩))
    (fun os started H enc _ => lifted os started H enc)

theorem proved : Rows.FnRemainderValueSaid := over
#print axioms proved
end Go.Proofs.Ytnegjfdaijnadaa.fnRemainderValue
