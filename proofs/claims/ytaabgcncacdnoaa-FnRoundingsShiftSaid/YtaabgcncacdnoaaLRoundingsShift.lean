/- FnRoundingsShift returns true for every input. No condition. -/
import Derived.Test.YtaabgcncacdnoaaRows
import Derived.Test.YtaabgcncacdnoaaSft
import Derived.ProofKit
import Derived.OpenShut
namespace Go.Proofs.Ytaabgcncacdnoaa.fnRoundingsShift
open Go.ChangeShapes Go.WideShapes Go.ChangeAt Go.RowKit Flt Ieee
theorem own : ownKnob Try.prog.godebug = none := by kernel_rfl
theorem lt_of_wf {b : Nat} (h : (Lit.float .f64 b).wf = true) : b < 2 ^ 64 := by simpa [Lit.wf] using h
theorem bounds_of_wf {n : Int} (h : (Lit.int .i64 n).wf = true) : -9223372036854775808 ≤ n ∧ n ≤ 9223372036854775807 := by simpa [Lit.wf, IntKind.min, IntKind.max, IntKind.signed, IntKind.bits] using h
set_option maxRecDepth 100000 in
set_option maxHeartbeats 1000000 in
theorem walk (a0 : Nat) (a1 : Int) (h0 : a0 < 2 ^ 64) (h1 : -9223372036854775808 ≤ a1 ∧ a1 ≤ 9223372036854775807) (w : World) :
    Calls Try.prog 5 #[.float .f64 a0, .int .i64 a1] w fun e w' => e = .returned (.bool true) ∧ Grown w w' := by
  by_cases c1 : a1 < -4503599627370496
  · clear h1
    go_enter Try.func5, Try.ntmps5
    go_wp2
    go_ret
    exact ⟨rfl, Grown.refl _⟩
  by_cases c2 : 4503599627370496 < a1
  · clear h1
    go_enter Try.func5, Try.ntmps5
    go_wp2
    go_ret
    exact ⟨rfl, Grown.refl _⟩
  have hn : a1.natAbs ≤ 2 ^ 52 := by omega
  rcases kinds a0 with h | h | h
  · by_cases c : mag (rg a0) < 2 ^ 52 * U
    · have hlt := ord_lt (lsize_fin h0 h) fin_lead (by rw [lsize_val h0, val_lead]; exact Int.ofNat_lt.2 c)
      obtain ⟨y, d, hy, hyf, hy0, hd, hdf, hdv⟩ := shift_exact h hn c
      obtain ⟨d2, hd2⟩ : ∃ d2, double.sub y a0 = some d2 := ⟨_, sub_fin hyf h⟩
      by_cases q1 : FloatKind.f64.format.order d a0 = some .eq
      · have hv : val y = val a0 + a1 * (U : Int) := by
          have h3 := order_fin hdf h
          have h4 : some (compare (val d) (val a0)) = some Ordering.eq := h3.symm.trans q1
          have h5 : val d = val a0 := by
            rcases Int.lt_trichotomy (val d) (val a0) with k | k | k
            · rw [cmp_lt k] at h4; cases h4
            · exact k
            · rw [cmp_gt k] at h4; cases h4
          omega
        obtain ⟨gf, hgf, hgf2⟩ := add_back (isInt_fin (intW_int .down h h0)) (isInt_fin (intW_int .down hyf hy0)) hn (floor_shift h h0 hyf hy0 hv)
        obtain ⟨gc, hgc, hgc2⟩ := add_back (isInt_fin (intW_int .up h h0)) (isInt_fin (intW_int .up hyf hy0)) hn (ceil_shift h h0 hyf hy0 hv)
        obtain ⟨gs, hgs, hgsf, hgso⟩ := sub_le_one h h0 0
        have e0 : roundW a0 0 = intW .down a0 := rfl
        rw [e0] at hgs
        clear hv hdv c hn e0 h1
        cases q2 : FloatKind.f64.format.order d2 (floatOfInt .f64 a1) with
        | none =>
          go_enter Try.func5, Try.ntmps5
          go_wp2_with (first | (go_at_call 19; (with_reducible refine (lsize_pos _ _ (by assumption)).mono ?_); rintro e w' ⟨rfl, rfl⟩) | (go_at_call 18; (with_reducible refine (Floor_fin _ _ (by assumption)).mono ?_); rintro e w' ⟨rfl, rfl⟩) | (go_at_call 15; (with_reducible refine (Ceil_fin _ _ (by assumption)).mono ?_); rintro e w' ⟨rfl, rfl⟩))
          go_ret
          exact ⟨rfl, Grown.refl _⟩
        | some o =>
          cases o
          case eq =>
            rcases hgso with hgso | hgso
            all_goals
              go_enter Try.func5, Try.ntmps5
              go_wp2_with (first | (go_at_call 19; (with_reducible refine (lsize_pos _ _ (by assumption)).mono ?_); rintro e w' ⟨rfl, rfl⟩) | (go_at_call 18; (with_reducible refine (Floor_fin _ _ (by assumption)).mono ?_); rintro e w' ⟨rfl, rfl⟩) | (go_at_call 15; (with_reducible refine (Ceil_fin _ _ (by assumption)).mono ?_); rintro e w' ⟨rfl, rfl⟩))
              go_ret
              exact ⟨rfl, Grown.refl _⟩
          all_goals
            go_enter Try.func5, Try.ntmps5
            go_wp2_with (first | (go_at_call 19; (with_reducible refine (lsize_pos _ _ (by assumption)).mono ?_); rintro e w' ⟨rfl, rfl⟩) | (go_at_call 18; (with_reducible refine (Floor_fin _ _ (by assumption)).mono ?_); rintro e w' ⟨rfl, rfl⟩) | (go_at_call 15; (with_reducible refine (Ceil_fin _ _ (by assumption)).mono ?_); rintro e w' ⟨rfl, rfl⟩))
            go_ret
            exact ⟨rfl, Grown.refl _⟩
      · clear hdv c hn h1
        cases q2 : FloatKind.f64.format.order d a0 with
        | none =>
          go_enter Try.func5, Try.ntmps5
          go_wp2_with (first | (go_at_call 19; (with_reducible refine (lsize_pos _ _ (by assumption)).mono ?_); rintro e w' ⟨rfl, rfl⟩) | (go_at_call 18; (with_reducible refine (Floor_fin _ _ (by assumption)).mono ?_); rintro e w' ⟨rfl, rfl⟩) | (go_at_call 15; (with_reducible refine (Ceil_fin _ _ (by assumption)).mono ?_); rintro e w' ⟨rfl, rfl⟩))
          go_ret
          exact ⟨rfl, Grown.refl _⟩
        | some o =>
          cases o
          case eq => exact absurd q2 q1
          all_goals
            clear q1
            go_enter Try.func5, Try.ntmps5
            go_wp2_with (first | (go_at_call 19; (with_reducible refine (lsize_pos _ _ (by assumption)).mono ?_); rintro e w' ⟨rfl, rfl⟩) | (go_at_call 18; (with_reducible refine (Floor_fin _ _ (by assumption)).mono ?_); rintro e w' ⟨rfl, rfl⟩) | (go_at_call 15; (with_reducible refine (Ceil_fin _ _ (by assumption)).mono ?_); rintro e w' ⟨rfl, rfl⟩))
            go_ret
            exact ⟨rfl, Grown.refl _⟩
    · have ho : FloatKind.f64.format.order (lsize a0) 4841369599423283200 = some .eq ∨ FloatKind.f64.format.order (lsize a0) 4841369599423283200 = some .gt := by
        by_cases e : mag (rg a0) = 2 ^ 52 * U
        · exact .inl (ord_eq (lsize_fin h0 h) fin_lead (by rw [lsize_val h0, val_lead, e]))
        · exact .inr (ord_gt (lsize_fin h0 h) fin_lead (by rw [lsize_val h0, val_lead]; exact Int.ofNat_lt.2 (by omega)))
      clear c hn h1
      rcases ho with ho | ho
      all_goals
        go_enter Try.func5, Try.ntmps5
        go_wp2_with (first | (go_at_call 19; (with_reducible refine (lsize_pos _ _ (by assumption)).mono ?_); rintro e w' ⟨rfl, rfl⟩) | (go_at_call 18; (with_reducible refine (Floor_fin _ _ (by assumption)).mono ?_); rintro e w' ⟨rfl, rfl⟩) | (go_at_call 15; (with_reducible refine (Ceil_fin _ _ (by assumption)).mono ?_); rintro e w' ⟨rfl, rfl⟩))
        go_ret
        exact ⟨rfl, Grown.refl _⟩
  · obtain ⟨hi, hs⟩ := lsize_isInf h0 h
    have h3 := ord_inf_fin hi fin_lead
    rw [hs, if_neg Bool.false_ne_true] at h3
    clear hn h1
    go_enter Try.func5, Try.ntmps5
    go_wp2_with (go_at_call 19; refine (lsize_inf _ _ h).mono ?_; rintro e w' ⟨rfl, rfl⟩)
    go_ret
    exact ⟨rfl, Grown.refl _⟩
  · have h3 := ord_nan_left 4841369599423283200 h
    clear hn h1
    go_enter Try.func5, Try.ntmps5
    go_wp2_with (go_at_call 19; refine (lsize_nan _ _ h).mono ?_; rintro e w' ⟨rfl, rfl⟩)
    go_ret
    exact ⟨rfl, Grown.refl _⟩

set_option maxRecDepth 100000 in
theorem lifted (os : Os) (started : os.Started) (H : Type) (enc : TypeId × Value → H) :
    ReturnsInHanded {} Try.checked os 5 .any (Rows.fnRoundingsShiftSpec.pre6 enc Try.prog Try.f5 Rows.fnRoundingsShiftRow.domain false) (Rows.fnRoundingsShiftSpec.post enc Try.prog Try.f5 false true false false) := by
  refine returnsInHanded_of_change (C := Try.checked) own started (by kernel_rfl) Try.func5
    (ChangeSpec.witness6 (enc := enc) (C := Try.checked) false ⟨#[], #[.float .f64 0, .int .i64 0], []⟩ 8 (by kernel_rfl) (by kernel_rfl) (by kernel_rfl) (by kernel_rfl)) ?_
  intro W base args ds gs before hval0 hW hcnd _
  have hval : ∀ (j : Nat) t v, Try.f5.params[j]? = some t → args[j]? = some v → Value.okWide Try.prog W .any base t v := hval0
  have hW' := hW
  obtain ⟨p, q, hA0, hV, rfl, hfz, hnd⟩ := hW
  have hA : DataW.TrodAll enc Try.prog W 0 (fun _ => true) true Try.f5.params.toList args.toList ds p := hA0
  rw [Try.params5] at hA hval
  obtain ⟨v0, vs0, d0, ds0, p0, q0, hargs, rfl, rfl, h0, r0⟩ := trodAll_cons hA
  obtain ⟨v1, vs1, d1, ds1, p1, q1, rfl, rfl, rfl, h1, r1⟩ := trodAll_cons r0
  obtain ⟨rfl, rfl, rfl⟩ := trodAll_nil r1
  obtain rfl : args = #[v0, v1] := by cases args; simp_all
  obtain ⟨rfl, rfl⟩ := trodVars_none hV
  obtain ⟨a0, rfl, rfl, rfl, w0⟩ := open_float Try.underlying22 (hval 0 22 v0 rfl rfl) h0
  obtain ⟨a1, rfl, rfl, rfl, w1⟩ := open_int Try.underlying2 (hval 1 2 v1 rfl rfl) h1
  clear hA0 hval0
  simp only [List.append_nil] at hW'
  refine (walk a0 a1 (lt_of_wf w0) (bounds_of_wf w1) W).mono fun e W' ⟨he, hg⟩ => ?_
  subst he
  exact ⟨_, rfl, post_of_same (pa := []) (pv := []) hW' (fun _ _ _ => (trodAll_cons_mk (shut_bool Try.underlying4 _) trodAll_mk0)) (fun sp _ => (trodAll_cons_mk (shut_float Try.underlying22 w0) (trodAll_cons_mk (shut_int Try.underlying2 w1) trodAll_mk0))) (fun _ _ => rfl) rfl
    (hg.frame _) hg.2.1 (ok_one (by kernel_rfl) rfl (okWide_bool_mk Try.underlying4 _))⟩

theorem over : Rows.fnRoundingsShiftRow.holds Try.pinned (OpenSpec.ofChange Rows.fnRoundingsShiftSpec) :=
  OpenClaim.holds_of_wide 5 Try.f5 rfl rfl rfl rfl rfl rfl rfl ⟨rfl, rfl, rfl, rfl, rfl⟩ rfl rfl rfl rfl rfl (by kernel_rfl) Try.func5 (by kernel_rfl)
    (of_decide_eq_true (by kernel_rfl)) (by unfold Func.isWrapper; first | (rw [if_pos (by decide +kernel)]; kernel_rfl) | (rw [if_neg (by decide +kernel)]; exact ⟨rfl, rfl⟩))
    (fun os started H enc _ => lifted os started H enc)

theorem proved : Rows.FnRoundingsShiftSaid := over
#print axioms proved
end Go.Proofs.Ytaabgcncacdnoaa.fnRoundingsShift
