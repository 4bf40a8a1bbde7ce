/- FnRoundingsKeep returns true for every input. No condition. -/
import Derived.Test.YtaabgcncacdnoaaRows
import Derived.Test.YtaabgcncacdnoaaRnk
import Derived.LoopTactic
import Derived.ProofKit
import Derived.OpenShut
namespace Go.Proofs.Ytaabgcncacdnoaa.fnRoundingsKeep
open Go.ChangeShapes Go.WideShapes Go.ChangeAt Go.RowKit Flt Ieee
theorem own : ownKnob Try.prog.godebug = none := by kernel_rfl
theorem lt_of_wf {b : Nat} (h : (Lit.float .f64 b).wf = true) : b < 2 ^ 64 := by simpa [Lit.wf] using h
theorem bounds_of_wf {n : Int} (h : (Lit.int .i64 n).wf = true) : -9223372036854775808 ≤ n ∧ n ≤ 9223372036854775807 := by simpa [Lit.wf, IntKind.min, IntKind.max, IntKind.signed, IntKind.bits] using h
theorem lead_one {m : Nat} (c : ¬ m < 2 ^ 52 * U) : U < m := by
  have h := U_pos
  generalize U = V at h c
  omega
theorem facts {x : Nat} (h : Fnt x) (h0 : x < 2 ^ 64) (k : Nat) :
    (FloatKind.f64.format.order x 0 = some .eq ∧ roundW x k = x ∧ FloatKind.f64.format.order (lsize x) 4607182418800017408 = some .lt) ∨
    ((FloatKind.f64.format.order x 0 = some .lt ∨ FloatKind.f64.format.order x 0 = some .gt) ∧ FloatKind.f64.format.order (lsize x) 4841369599423283200 = some .lt ∧ (FloatKind.f64.format.order (lsize x) 4607182418800017408 = some .lt ∨ ((FloatKind.f64.format.order (lsize x) 4607182418800017408 = some .eq ∨ FloatKind.f64.format.order (lsize x) 4607182418800017408 = some .gt) ∧ (FloatKind.f64.format.order (roundW x k) 0 = some .lt ∨ FloatKind.f64.format.order (roundW x k) 0 = some .gt)))) ∨
    ((FloatKind.f64.format.order x 0 = some .lt ∨ FloatKind.f64.format.order x 0 = some .gt) ∧ (FloatKind.f64.format.order (lsize x) 4841369599423283200 = some .eq ∨ FloatKind.f64.format.order (lsize x) 4841369599423283200 = some .gt) ∧ FloatKind.f64.format.order (lsize x) 4607182418800017408 = some .gt ∧ True ∧ roundW x k = x) := by
  have hv := lsize_val h0
  have hf := lsize_fin h0 h
  by_cases z : rg x = 0
  · left
    have hm : mag (rg x) = 0 := by rw [z, mag_zero]
    exact ⟨ord_zero z, roundW_of_mod h h0 k (by rw [hm, Nat.zero_mod]), lt_one h h0 (by rw [hm]; exact U_pos)⟩
  · right
    have hz := ord_nonzero (fin_nan h) z
    by_cases c : mag (rg x) < 2 ^ 52 * U
    · left
      refine ⟨hz, ord_lt hf fin_lead (by rw [hv, val_lead]; exact Int.ofNat_lt.2 c), ?_⟩
      rcases Nat.lt_or_ge (mag (rg x)) U with d | d
      · exact .inl (lt_one h h0 d)
      · exact .inr ⟨one_le h h0 d, roundW_nonzero h h0 k d⟩
    · right
      have hm : mag (rg x) % U = 0 := by
        apply Classical.byContradiction
        intro q
        exact c (frac_small q)
      refine ⟨hz, ?_, ord_gt hf fin_one (by rw [hv, val_one]; exact Int.ofNat_lt.2 (lead_one c)), trivial, roundW_of_mod h h0 k hm⟩
      by_cases e : mag (rg x) = 2 ^ 52 * U
      · exact .inl (ord_eq hf fin_lead (by rw [hv, val_lead, e]))
      · exact .inr (ord_gt hf fin_lead (by rw [hv, val_lead]; exact Int.ofNat_lt.2 (by omega)))
set_option maxHeartbeats 4000000 in
theorem walk (a0 : Nat) (h0 : a0 < 2 ^ 64) (w : World) :
    Calls Try.prog 12 #[.float .f64 a0] w fun e w' => e = .returned (.bool true) ∧ Grown w w' := by
  have hL := rounded_any a0 w h0
  go_enter Try.func12, Try.ntmps12
  go_wp2_with (go_at_call 24; refine hL.mono ?_; rintro e w' ⟨a, L, rfl, hl, hr, hk⟩)
  go_loopw [9] (fun i wr => ∃ k : Nat, k ≤ 5 ∧ i = .int .i64 k ∧ Kept w wr ∧ Lists wr a L) (fun i _ => 5 - (intOf i).toNat)
  case atStart => exact ⟨0, by omega, rfl, hk, hl⟩
  case round =>
    obtain ⟨k, hk5, rfl, hkr, hlr⟩ := hrel
    by_cases hlt : k < 5
    · have hc := hlr.2 k hlt
      have hrk := hr k hlt
      generalize L k = r at hc hrk
      clear hr hl hL hk
      rcases kinds a0 with h | h | h
      · have hn := fin_nan h
        obtain rfl := hrk.2.1 h
        clear hrk
        have hfacts := facts h h0 k
        rcases hfacts with ⟨z1, z2, z3⟩ | ⟨z1, z2, z3⟩ | ⟨z1, z2, z3, z4, z5⟩
        · rw [z2] at hc
          go_wp2_with (first | (go_at_call 23; (with_reducible refine (IsFinite_yes _ _ h).mono ?_); rintro e w' ⟨rfl, rfl⟩) | (go_at_call 19; (with_reducible refine (lsize_pos _ _ h).mono ?_); rintro e w' ⟨rfl, rfl⟩) | (go_at_call 17; (with_reducible refine (same_self _ _ hn).mono ?_); rintro e w' ⟨rfl, rfl⟩))
          go_roundw
          case rel => exact ⟨k + 1, by omega, by go_num, hkr, hlr⟩
          case measure => simp [intOf]; omega
        · rcases z1 with z1 | z1 <;> rcases z3 with z3 | ⟨z3 | z3, z4 | z4⟩
          all_goals
            go_wp2_with (first | (go_at_call 23; (with_reducible refine (IsFinite_yes _ _ h).mono ?_); rintro e w' ⟨rfl, rfl⟩) | (go_at_call 19; (with_reducible refine (lsize_pos _ _ h).mono ?_); rintro e w' ⟨rfl, rfl⟩) | (go_at_call 17; (with_reducible refine (same_self _ _ hn).mono ?_); rintro e w' ⟨rfl, rfl⟩))
            go_roundw
            case rel => exact ⟨k + 1, by omega, by go_num, hkr, hlr⟩
            case measure => simp [intOf]; omega
        · rw [z5] at hc
          rcases z1 with z1 | z1 <;> rcases z2 with z2 | z2
          all_goals
            go_wp2_with (first | (go_at_call 23; (with_reducible refine (IsFinite_yes _ _ h).mono ?_); rintro e w' ⟨rfl, rfl⟩) | (go_at_call 19; (with_reducible refine (lsize_pos _ _ h).mono ?_); rintro e w' ⟨rfl, rfl⟩) | (go_at_call 17; (with_reducible refine (same_self _ _ hn).mono ?_); rintro e w' ⟨rfl, rfl⟩))
            go_roundw
            case rel => exact ⟨k + 1, by omega, by go_num, hkr, hlr⟩
            case measure => simp [intOf]; omega
      · have hn := inf_nan h
        obtain rfl := hrk.2.2.1 h
        clear hrk
        obtain ⟨hi, hs⟩ := lsize_isInf h0 h
        have h1 := ord_inf_fin hi fin_one
        rw [hs, if_neg Bool.false_ne_true] at h1
        have h2 := ord_inf_fin h fin_zero
        cases hs2 : sg r
        all_goals
          rw [hs2] at h2
          first | rw [if_neg Bool.false_ne_true] at h2 | rw [if_pos rfl] at h2
          go_wp2_with (first | (go_at_call 23; (with_reducible refine (IsFinite_not _ _ (inf_fin h)).mono ?_); rintro e w' ⟨rfl, rfl⟩) | (go_at_call 19; (with_reducible refine (lsize_inf _ _ h).mono ?_); rintro e w' ⟨rfl, rfl⟩) | (go_at_call 17; (with_reducible refine (same_self _ _ hn).mono ?_); rintro e w' ⟨rfl, rfl⟩))
          go_roundw
          case rel => exact ⟨k + 1, by omega, by go_num, hkr.drewN 1, hlr.kept ((Kept.refl _).drewN 1)⟩
          case measure => simp [intOf]; omega
      · have hnr := hrk.2.2.2 h
        clear hrk
        have h1 := ord_nan_left 0 h
        have h2 := ord_nan_left 4607182418800017408 h
        go_wp2_with (first | (go_at_call 23; (with_reducible refine (IsFinite_not _ _ (nan_fin h)).mono ?_); rintro e w' ⟨rfl, rfl⟩) | (go_at_call 19; (with_reducible refine (lsize_nan _ _ h).mono ?_); rintro e w' ⟨rfl, rfl⟩) | (go_at_call 17; (with_reducible refine (same_nan _ _ _ hnr h).mono ?_); rintro e w' ⟨rfl, rfl⟩))
        go_roundw
        case rel => exact ⟨k + 1, by omega, by go_num, hkr.drewN 1, hlr.kept ((Kept.refl _).drewN 1)⟩
        case measure => simp [intOf]; omega
    · obtain rfl : k = 5 := by omega
      clear hlt hk5
      go_wp2
      go_ret
      exact ⟨rfl, hkr.1⟩

set_option maxRecDepth 100000 in
theorem lifted (os : Os) (started : os.Started) (H : Type) (enc : TypeId × Value → H) :
    ReturnsInHanded {} Try.checked os 12 .any (Rows.fnRoundingsKeepSpec.pre6 enc Try.prog Try.f12 Rows.fnRoundingsKeepRow.domain false) (Rows.fnRoundingsKeepSpec.post enc Try.prog Try.f12 false true false false) := by
  refine returnsInHanded_of_change (C := Try.checked) own started (by kernel_rfl) Try.func12
    (ChangeSpec.witness6 (enc := enc) (C := Try.checked) false ⟨#[], #[.float .f64 0], []⟩ 8 (by kernel_rfl) (by kernel_rfl) (by kernel_rfl) (by kernel_rfl)) ?_
  intro W base args ds gs before hval0 hW hcnd _
  have hval : ∀ (j : Nat) t v, Try.f12.params[j]? = some t → args[j]? = some v → Value.okWide Try.prog W .any base t v := hval0
  have hW' := hW
  obtain ⟨p, q, hA0, hV, rfl, hfz, hnd⟩ := hW
  have hA : DataW.TrodAll enc Try.prog W 0 (fun _ => true) true Try.f12.params.toList args.toList ds p := hA0
  rw [Try.params12] at hA hval
  obtain ⟨v0, vs0, d0, ds0, p0, q0, hargs, rfl, rfl, h0, r0⟩ := trodAll_cons hA
  obtain ⟨rfl, rfl, rfl⟩ := trodAll_nil r0
  obtain rfl : args = #[v0] := by cases args; simp_all
  obtain ⟨rfl, rfl⟩ := trodVars_none hV
  obtain ⟨a0, rfl, rfl, rfl, w0⟩ := open_float Try.underlying22 (hval 0 22 v0 rfl rfl) h0
  clear hA0 hval0
  simp only [List.append_nil] at hW'
  refine (walk a0 (lt_of_wf w0) W).mono fun e W' ⟨he, hg⟩ => ?_
  subst he
  exact ⟨_, rfl, post_of_same (pa := []) (pv := []) hW' (fun _ _ _ => (trodAll_cons_mk (shut_bool Try.underlying4 _) trodAll_mk0)) (fun sp _ => (trodAll_cons_mk (shut_float Try.underlying22 w0) trodAll_mk0)) (fun _ _ => rfl) rfl
    (hg.frame _) hg.2.1 (ok_one (by kernel_rfl) rfl (okWide_bool_mk Try.underlying4 _))⟩

theorem over : Rows.fnRoundingsKeepRow.holds Try.pinned (OpenSpec.ofChange Rows.fnRoundingsKeepSpec) :=
  OpenClaim.holds_of_wide 12 Try.f12 rfl rfl rfl rfl rfl rfl rfl ⟨rfl, rfl, rfl, rfl, rfl⟩ rfl rfl rfl rfl rfl (by kernel_rfl) Try.func12 (by kernel_rfl)
    (of_decide_eq_true (by kernel_rfl)) (by unfold Func.isWrapper; first | (rw [if_pos (by decide +kernel)]; kernel_rfl) | (rw [if_neg (by decide +kernel)]; exact ⟨rfl, rfl⟩))
    (fun os started H enc _ => lifted os started H enc)

theorem proved : Rows.FnRoundingsKeepSaid := over
#print axioms proved
end Go.Proofs.Ytaabgcncacdnoaa.fnRoundingsKeep
