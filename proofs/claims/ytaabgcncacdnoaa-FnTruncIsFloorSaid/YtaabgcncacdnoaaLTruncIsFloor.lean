/- FnTruncIsFloor returns true for every input. No condition. -/
import Derived.Test.YtaabgcncacdnoaaRows
import Derived.Test.YtaabgcncacdnoaaEqs
import Derived.ProofKit
import Derived.OpenShut
namespace Go.Proofs.Ytaabgcncacdnoaa.fnTruncIsFloor
open Go.ChangeShapes Go.WideShapes Go.ChangeAt Go.RowKit Flt Ieee
theorem own : ownKnob Try.prog.godebug = none := by kernel_rfl
theorem lt_of_wf {b : Nat} (h : (Lit.float .f64 b).wf = true) : b < 2 ^ 64 := by simpa [Lit.wf] using h
theorem bounds_of_wf {n : Int} (h : (Lit.int .i64 n).wf = true) : -9223372036854775808 ≤ n ∧ n ≤ 9223372036854775807 := by simpa [Lit.wf, IntKind.min, IntKind.max, IntKind.signed, IntKind.bits] using h
theorem walk (a0 : Nat) (h0 : a0 < 2 ^ 64) (w : World) :
    Calls Try.prog 6 #[.float .f64 a0] w fun e w' => e = .returned (.bool true) ∧ Grown w w' := by
  rcases kinds a0 with h | h | h
  · have hr := truncW_int h h0
    have hn := ord_self (fin_nan h)
    have hT := fun u => Trunc_fin a0 u h
    have hF := fun u => Floor_fin a0 u h
    have hC := fun u => Ceil_fin a0 u h
    have hrn := fin_nan hr.2.1
    have hs : FloatKind.f64.format.order (lsize a0) 4607182418800017408 = some .lt ∨ ((FloatKind.f64.format.order (lsize a0) 4607182418800017408 = some .eq ∨ FloatKind.f64.format.order (lsize a0) 4607182418800017408 = some .gt) ∧ (FloatKind.f64.format.order (intW .zero a0) 0 = some .lt ∨ FloatKind.f64.format.order (intW .zero a0) 0 = some .gt)) := by
      rcases Nat.lt_or_ge (mag (rg a0)) U with c | c
      · exact .inl (lt_one h h0 c)
      · exact .inr ⟨one_le h h0 c, int_nonzero hr (div_pos c)⟩
    have ho : (FloatKind.f64.format.order a0 0 = some .gt ∧ intW .down a0 = intW .zero a0) ∨ (FloatKind.f64.format.order a0 0 = some .eq ∧ intW .down a0 = intW .zero a0 ∧ intW .up a0 = intW .zero a0) ∨ (FloatKind.f64.format.order a0 0 = some .lt ∧ intW .up a0 = intW .zero a0) := by
      rcases Int.lt_trichotomy (val a0) (val 0) with c | c | c
      · exact .inr (.inr ⟨ord_lt h fin_zero c, up_eq h h0 (.inl (sg_of_neg (by rwa [val_zero] at c)))⟩)
      · have hz : mag (rg a0) % U = 0 := by
          have : rg a0 = 0 := val_eq_zero.1 (by rwa [val_zero] at c)
          rw [this, mag_zero, Nat.zero_mod]
        exact .inr (.inl ⟨ord_eq h fin_zero c, down_eq h h0 (.inr hz), up_eq h h0 (.inr hz)⟩)
      · exact .inl ⟨ord_gt h fin_zero c, down_eq h h0 (.inl (sg_of_pos (by rwa [val_zero] at c)))⟩
    generalize intW .zero a0 = r at hr hT hs ho hrn
    generalize intW .down a0 = rd at hF ho
    generalize intW .up a0 = ru at hC ho
    clear hr
    rcases ho with ⟨ho, rfl⟩ | ⟨ho, rfl, rfl⟩ | ⟨ho, rfl⟩ <;> rcases hs with hs | ⟨hs | hs, hr0 | hr0⟩
    all_goals
      go_enter Try.func6, Try.ntmps6
      go_wp2_with (first | (go_at_call 20; refine (hT _).mono ?_; rintro e w' ⟨rfl, rfl⟩) | (go_at_call 18; refine (hF _).mono ?_; rintro e w' ⟨rfl, rfl⟩) | (go_at_call 15; refine (hC _).mono ?_; rintro e w' ⟨rfl, rfl⟩) | (go_at_call 19; refine (lsize_pos _ _ h).mono ?_; rintro e w' ⟨rfl, rfl⟩) | (go_at_call 17; (with_reducible refine (same_self _ _ (by assumption)).mono ?_); rintro e w' ⟨rfl, rfl⟩))
      go_ret
      exact ⟨rfl, Grown.refl _⟩
  · have hn := inf_nan h
    have hns := ord_self hn
    obtain ⟨hi, hs⟩ := lsize_isInf h0 h
    have h1 := ord_inf_fin hi fin_one
    rw [hs, if_neg Bool.false_ne_true] at h1
    have h2 := ord_inf_fin h fin_zero
    cases hs2 : sg a0
    all_goals
      rw [hs2] at h2
      first | rw [if_neg Bool.false_ne_true] at h2 | rw [if_pos rfl] at h2
      go_enter Try.func6, Try.ntmps6
      go_wp2_with (first | (go_at_call 20; refine (Trunc_inf a0 _ h h0).mono ?_; rintro e w' ⟨rfl, rfl⟩) | (go_at_call 18; refine (Floor_inf a0 _ h h0).mono ?_; rintro e w' ⟨rfl, rfl⟩) | (go_at_call 15; refine (Ceil_inf a0 _ h h0).mono ?_; rintro e w' ⟨rfl, rfl⟩) | (go_at_call 19; refine (lsize_inf _ _ h).mono ?_; rintro e w' ⟨rfl, rfl⟩) | (go_at_call 17; (with_reducible refine (same_self _ _ (by assumption)).mono ?_); rintro e w' ⟨rfl, rfl⟩))
      go_ret
      exact ⟨rfl, Grown.refl _⟩
  · have h1 := ord_nan_left a0 h
    have h2 := ord_nan_left 0 h
    have h3 := ord_nan_left 4607182418800017408 h
    go_enter Try.func6, Try.ntmps6
    go_wp2_with (first | (go_at_call 20; refine (Trunc_nan a0 _ h h0).mono ?_; rintro e w' ⟨r, n, hr1, hr2, rfl, rfl⟩; have hr3 := ord_nan_left r hr1) | (go_at_call 19; refine (lsize_nan _ _ h).mono ?_; rintro e w' ⟨rfl, rfl⟩))
    go_ret
    exact ⟨rfl, grown_drewN (Grown.refl _) n⟩

set_option maxRecDepth 100000 in
theorem lifted (os : Os) (started : os.Started) (H : Type) (enc : TypeId × Value → H) :
    ReturnsInHanded {} Try.checked os 6 .any (Rows.fnTruncIsFloorSpec.pre6 enc Try.prog Try.f6 Rows.fnTruncIsFloorRow.domain false) (Rows.fnTruncIsFloorSpec.post enc Try.prog Try.f6 false true false false) := by
  refine returnsInHanded_of_change (C := Try.checked) own started (by kernel_rfl) Try.func6
    (ChangeSpec.witness6 (enc := enc) (C := Try.checked) false ⟨#[], #[.float .f64 0], []⟩ 8 (by kernel_rfl) (by kernel_rfl) (by kernel_rfl) (by kernel_rfl)) ?_
  intro W base args ds gs before hval0 hW hcnd _
  have hval : ∀ (j : Nat) t v, Try.f6.params[j]? = some t → args[j]? = some v → Value.okWide Try.prog W .any base t v := hval0
  have hW' := hW
  obtain ⟨p, q, hA0, hV, rfl, hfz, hnd⟩ := hW
  have hA : DataW.TrodAll enc Try.prog W 0 (fun _ => true) true Try.f6.params.toList args.toList ds p := hA0
  rw [Try.params6] at hA hval
  obtain ⟨v0, vs0, d0, ds0, p0, q0, hargs, rfl, rfl, h0, r0⟩ := trodAll_cons hA
  obtain ⟨rfl, rfl, rfl⟩ := trodAll_nil r0
  obtain rfl : args = #[v0] := by cases args; simp_all
  obtain ⟨rfl, rfl⟩ := trodVars_none hV
  obtain ⟨a0, rfl, rfl, rfl, w0⟩ := open_float Try.underlying22 (hval 0 22 v0 rfl rfl) h0
  clear hA0 hval0
  simp only [List.append_nil] at hW'
  refine (walk a0 (lt_of_wf w0) W).mono fun e W' ⟨he, hg⟩ => ?_
  subst he
  exact ⟨_, rfl, post_of_same (pa := []) (pv := []) hW' (fun _ _ _ => (trodAll_cons_mk (shut_bool Try.underlying4 _) trodAll_mk0)) (fun sp _ => (trodAll_cons_mk (shut_float Try.underlying22 w0) trodAll_mk0)) (fun _ _ => rfl) rfl
    (hg.frame _) hg.2.1 (ok_one (by kernel_rfl) rfl (okWide_bool_mk Try.underlying4 _))⟩

theorem over : Rows.fnTruncIsFloorRow.holds Try.pinned (OpenSpec.ofChange Rows.fnTruncIsFloorSpec) :=
  OpenClaim.holds_of_wide 6 Try.f6 rfl rfl rfl rfl rfl rfl rfl ⟨rfl, rfl, rfl, rfl, rfl⟩ rfl rfl rfl rfl rfl (by kernel_rfl) Try.func6 (by kernel_rfl)
    (of_decide_eq_true (by kernel_rfl)) (by unfold Func.isWrapper; first | (rw [if_pos (by decide +kernel)]; kernel_rfl) | (rw [if_neg (by decide +kernel)]; exact ⟨rfl, rfl⟩))
    (fun os started H enc _ => lifted os started H enc)

theorem proved : Rows.FnTruncIsFloorSaid := over
#print axioms proved
end Go.Proofs.Ytaabgcncacdnoaa.fnTruncIsFloor
