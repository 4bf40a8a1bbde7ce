/- FnModfSum returns true for every input. No condition. -/
import Derived.Test.YtnjcfcnmibadcaaRows
import Derived.Test.YtnjcfcnmibadcaaMdf
import Derived.ProofKit
import Derived.OpenShut
namespace Go.Proofs.Ytnjcfcnmibadcaa.fnModfSum
open Go.ChangeShapes Go.WideShapes Go.ChangeAt Go.RowKit Flt Ieee
theorem own : ownKnob Try.prog.godebug = none := by kernel_rfl
theorem lt_of_wf {b : Nat} (h : (Lit.float .f64 b).wf = true) : b < 2 ^ 64 := by simpa [Lit.wf] using h
theorem bounds_of_wf {n : Int} (h : (Lit.int .i64 n).wf = true) : -9223372036854775808 ≤ n ∧ n ≤ 9223372036854775807 := by simpa [Lit.wf, IntKind.min, IntKind.max, IntKind.signed, IntKind.bits] using h
theorem walk (a0 : Nat) (h0 : a0 < 2 ^ 64) (w : World) :
    Calls Try.prog 11 #[.float .f64 a0] w fun e w' => e = .returned (.bool true) ∧ Grown w w' := by
  rcases kinds a0 with h | h | h
  · have ht := truncW_int h h0
    obtain ⟨hb1, hb2, -, hb4⟩ := fracS_spec a0
    have hn := fin_nan h
    have hn1 := fin_nan ht.2.1
    have hn2 := fin_nan hb1
    have hsx := ord_self hn
    have hM1 := fun u => Modf_fin a0 u h h0
    have hT := fun u => Trunc_fin a0 u h
    have hS0 := fun u => Signbit_num a0 u hn
    have hS1 := fun u => Signbit_num (intW .zero a0) u hn1
    have hS2 := fun u => Signbit_num (fracS a0) u hn2
    rw [ht.2.2.1] at hS1
    rw [hb2] at hS2
    obtain ⟨g, hg, hgo⟩ := parts_sum h h0
    have hlt := frac_lt (f := a0)
    generalize intW .zero a0 = a at hn1 hM1 hS1 hg ht hT
    generalize fracS a0 = b at hn2 hM1 hS2 hg hb1 hb4 hlt
    generalize sg a0 = s at hS0 hS1 hS2
    clear ht hb4
    cases s
    all_goals
      go_enter Try.func11, Try.ntmps11
      go_wp2_with (first | (go_at_call 18; refine (IsFinite_yes _ _ h).mono ?_; rintro e w' ⟨rfl, rfl⟩) | (go_at_call 27; (with_reducible refine (hM1 _).mono ?_); rintro e w' ⟨rfl, rfl⟩) | (go_at_call 16; (with_reducible refine (hT _).mono ?_); rintro e w' ⟨rfl, rfl⟩) | (go_at_call 21; (with_reducible refine (lsize_pos _ _ (by assumption)).mono ?_); rintro e w' ⟨rfl, rfl⟩) | (go_at_call 28; (with_reducible refine (hS0 _).mono ?_); rintro e w' ⟨rfl, rfl⟩) | (go_at_call 28; (with_reducible refine (hS1 _).mono ?_); rintro e w' ⟨rfl, rfl⟩) | (go_at_call 28; (with_reducible refine (hS2 _).mono ?_); rintro e w' ⟨rfl, rfl⟩) | (go_at_call 19; (with_reducible refine (same_self _ _ (by assumption)).mono ?_); rintro e w' ⟨rfl, rfl⟩))
      go_ret
      exact ⟨rfl, Grown.refl _⟩
  · have hn := inf_nan h
    have hsx := ord_self hn
    go_enter Try.func11, Try.ntmps11
    go_wp2_with (first | (go_at_call 27; refine (Modf_inf _ _ h h0).mono ?_; rintro e w' ⟨r1, s1, n1, rfl, hs1, rfl, rfl⟩; have hos := ord_nan_left s1 hs1) | (go_at_call 18; refine (IsFinite_not _ _ (inf_fin h)).mono ?_; rintro e w' ⟨rfl, rfl⟩) | (go_at_call 19; (with_reducible refine (same_self _ _ (by assumption)).mono ?_); rintro e w' ⟨rfl, rfl⟩))
    go_ret
    exact ⟨rfl, (grown_drewN (Grown.refl _) n1).drew⟩
  · have hsx := ord_nan_left a0 h
    go_enter Try.func11, Try.ntmps11
    go_wp2_with (go_at_call 27; refine (Modf_nan _ _ h h0).mono ?_; rintro e w' ⟨r1, s1, n1, hr1, hs1, rfl, rfl⟩; have hos := ord_nan_left s1 hs1; have hor := ord_nan_left r1 hr1)
    go_ret
    exact ⟨rfl, grown_drewN (Grown.refl _) n1⟩

set_option maxRecDepth 100000 in
theorem lifted (os : Os) (started : os.Started) (H : Type) (enc : TypeId × Value → H) :
    ReturnsInHanded {} Try.checked os 11 .any (Rows.fnModfSumSpec.pre6 enc Try.prog Try.f11 Rows.fnModfSumRow.domain false) (Rows.fnModfSumSpec.post enc Try.prog Try.f11 false true false false) := by
  refine returnsInHanded_of_change (C := Try.checked) own started (by kernel_rfl) Try.func11
    (ChangeSpec.witness6 (enc := enc) (C := Try.checked) false ⟨#[], #[.float .f64 0], []⟩ 8 (by kernel_rfl) (by kernel_rfl) (by kernel_rfl) (by kernel_rfl)) ?_
  intro W base args ds gs before hval0 hW hcnd _
  have hval : ∀ (j : Nat) t v, Try.f11.params[j]? = some t → args[j]? = some v → Value.okWide Try.prog W .any base t v := hval0
  have hW' := hW
  obtain ⟨p, q, hA0, hV, rfl, hfz, hnd⟩ := hW
  have hA : DataW.TrodAll enc Try.prog W 0 (fun _ => true) true Try.f11.params.toList args.toList ds p := hA0
  rw [Try.params11] at hA hval
  obtain ⟨v0, vs0, d0, ds0, p0, q0, hargs, rfl, rfl, h0, r0⟩ := trodAll_cons hA
  obtain ⟨rfl, rfl, rfl⟩ := trodAll_nil r0
  obtain rfl : args = #[v0] := by cases args; simp_all
  obtain ⟨rfl, rfl⟩ := trodVars_none hV
  obtain ⟨a0, rfl, rfl, rfl, w0⟩ := open_float Try.underlying22 (hval 0 22 v0 rfl rfl) h0
  clear hA0 hval0
  simp only [List.append_nil] at hW'
  refine (walk a0 (lt_of_wf w0) W).mono fun e W' ⟨he, hg⟩ => ?_
  subst he
  exact ⟨_, rfl, post_of_same (pa := []) (pv := []) hW' (fun _ _ _ => (trodAll_cons_mk (shut_bool Try.underlying4 _) trodAll_mk0)) (fun sp _ => (trodAll_cons_mk (shut_float Try.underlying22 w0) trodAll_mk0)) (fun _ _ => rfl) rfl
    (hg.frame _) hg.2.1 (ok_one (by kernel_rfl) rfl (okWide_bool_mk Try.underlying4 _))⟩

theorem over : Rows.fnModfSumRow.holds Try.pinned (OpenSpec.ofChange Rows.fnModfSumSpec) :=
  OpenClaim.holds_of_wide 11 Try.f11 rfl rfl rfl rfl rfl rfl rfl ⟨rfl, rfl, rfl, rfl, rfl⟩ rfl rfl rfl rfl rfl (by kernel_rfl) Try.func11 (by kernel_rfl)
    (of_decide_eq_true (by kernel_rfl)) (by unfold Func.isWrapper; first | (rw [if_pos (by decide +kernel)]; kernel_rfl) | (rw [if_neg (by decide +kernel)]; exact ⟨rfl, rfl⟩))
    (fun os started H enc _ => lifted os started H enc)

theorem proved : Rows.FnModfSumSaid := over
#print axioms proved
end Go.Proofs.Ytnjcfcnmibadcaa.fnModfSum
