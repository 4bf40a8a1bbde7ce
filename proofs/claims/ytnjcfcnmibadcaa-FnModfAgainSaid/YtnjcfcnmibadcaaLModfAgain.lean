/- FnModfAgain returns true for every input. No condition. -/
import Derived.Test.YtnjcfcnmibadcaaRows
import Derived.Test.YtnjcfcnmibadcaaMdf
import Derived.ProofKit
import Derived.OpenShut
namespace Go.Proofs.Ytnjcfcnmibadcaa.fnModfAgain
open Go.ChangeShapes Go.WideShapes Go.ChangeAt Go.RowKit Flt Ieee
theorem own : ownKnob Try.prog.godebug = none := by kernel_rfl
theorem lt_of_wf {b : Nat} (h : (Lit.float .f64 b).wf = true) : b < 2 ^ 64 := by simpa [Lit.wf] using h
theorem bounds_of_wf {n : Int} (h : (Lit.int .i64 n).wf = true) : -9223372036854775808 ≤ n ∧ n ≤ 9223372036854775807 := by simpa [Lit.wf, IntKind.min, IntKind.max, IntKind.signed, IntKind.bits] using h
theorem walk (a0 : Nat) (h0 : a0 < 2 ^ 64) (w : World) :
    Calls Try.prog 10 #[.float .f64 a0] w fun e w' => e = .returned (.bool true) ∧ Grown w w' := by
  by_cases h : Fnt a0
  · have ht := truncW_int h h0
    obtain ⟨hb1, -, -, hb4⟩ := fracS_spec a0
    have hn1 := fin_nan ht.2.1
    have hn2 := fin_nan hb1
    have hM1 := fun u => Modf_fin a0 u h h0
    have hM2 := fun u => Modf_fin (intW .zero a0) u ht.2.1 ht.1
    have hM3 := fun u => Modf_fin (fracS a0) u hb1 hb4
    rw [truncW_of_mod ht.2.1 ht.1 (isInt_mod ht)] at hM2
    rw [frac_frac] at hM3
    have hd := ord_zero (fracS_of_int ht)
    have he := ord_zero (isInt_zero (trunc_frac (f := a0)))
    obtain ⟨g, hg, hgo⟩ := parts_sum h h0
    generalize intW .zero (fracS a0) = e at hM3 he
    generalize fracS (intW .zero a0) = d at hM2 hd
    generalize intW .zero a0 = a at hn1 hM1 hM2 hg ht
    generalize fracS a0 = b at hn2 hM1 hM3 hg hb1 hb4
    clear ht hb1 hb4
    go_enter Try.func10, Try.ntmps10
    go_wp2_with (first | (go_at_call 18; refine (IsFinite_yes _ _ h).mono ?_; rintro e w' ⟨rfl, rfl⟩) | (go_at_call 27; (with_reducible refine (hM1 _).mono ?_); rintro e w' ⟨rfl, rfl⟩) | (go_at_call 27; (with_reducible refine (hM2 _).mono ?_); rintro e w' ⟨rfl, rfl⟩) | (go_at_call 27; (with_reducible refine (hM3 _).mono ?_); rintro e w' ⟨rfl, rfl⟩) | (go_at_call 19; (with_reducible refine (same_self _ _ (by assumption)).mono ?_); rintro e w' ⟨rfl, rfl⟩))
    go_ret
    exact ⟨rfl, Grown.refl _⟩
  · go_enter Try.func10, Try.ntmps10
    go_wp2_with (go_at_call 18; refine (IsFinite_not _ _ h).mono ?_; rintro e w' ⟨rfl, rfl⟩)
    go_ret
    exact ⟨rfl, (Grown.refl _).drew⟩

set_option maxRecDepth 100000 in
theorem lifted (os : Os) (started : os.Started) (H : Type) (enc : TypeId × Value → H) :
    ReturnsInHanded {} Try.checked os 10 .any (Rows.fnModfAgainSpec.pre6 enc Try.prog Try.f10 Rows.fnModfAgainRow.domain false) (Rows.fnModfAgainSpec.post enc Try.prog Try.f10 false true false false) := by
  refine returnsInHanded_of_change (C := Try.checked) own started (by kernel_rfl) Try.func10
    (ChangeSpec.witness6 (enc := enc) (C := Try.checked) false ⟨#[], #[.float .f64 0], []⟩ 8 (by kernel_rfl) (by kernel_rfl) (by kernel_rfl) (by kernel_rfl)) ?_
  intro W base args ds gs before hval0 hW hcnd _
  have hval : ∀ (j : Nat) t v, Try.f10.params[j]? = some t → args[j]? = some v → Value.okWide Try.prog W .any base t v := hval0
  have hW' := hW
  obtain ⟨p, q, hA0, hV, rfl, hfz, hnd⟩ := hW
  have hA : DataW.TrodAll enc Try.prog W 0 (fun _ => true) true Try.f10.params.toList args.toList ds p := hA0
  rw [Try.params10] at hA hval
  obtain ⟨v0, vs0, d0, ds0, p0, q0, hargs, rfl, rfl, h0, r0⟩ := trodAll_cons hA
  obtain ⟨rfl, rfl, rfl⟩ := trodAll_nil r0
  obtain rfl : args = #[v0] := by cases args; simp_all
  obtain ⟨rfl, rfl⟩ := trodVars_none hV
  obtain ⟨a0, rfl, rfl, rfl, w0⟩ := open_float Try.underlying22 (hval 0 22 v0 rfl rfl) h0
  clear hA0 hval0
  simp only [List.append_nil] at hW'
  refine (walk a0 (lt_of_wf w0) W).mono fun e W' ⟨he, hg⟩ => ?_
  subst he
  exact ⟨_, rfl, post_of_same (pa := []) (pv := []) hW' (fun _ _ _ => (trodAll_cons_mk (shut_bool Try.underlying4 _) trodAll_mk0)) (fun sp _ => (trodAll_cons_mk (shut_float Try.underlying22 w0) trodAll_mk0)) (fun _ _ => rfl) rfl
    (hg.frame _) hg.2.1 (ok_one (by kernel_rfl) rfl (okWide_bool_mk Try.underlying4 _))⟩

theorem over : Rows.fnModfAgainRow.holds Try.pinned (OpenSpec.ofChange Rows.fnModfAgainSpec) :=
  OpenClaim.holds_of_wide 10 Try.f10 rfl rfl rfl rfl rfl rfl rfl ⟨rfl, rfl, rfl, rfl, rfl⟩ rfl rfl rfl rfl rfl (by kernel_rfl) Try.func10 (by kernel_rfl)
    (of_decide_eq_true (by kernel_rfl)) (by unfold Func.isWrapper; first | (rw [if_pos (by decide +kernel)]; kernel_rfl) | (rw [if_neg (by decide +kernel)]; exact ⟨rfl, rfl⟩))
    (fun os started H enc _ => lifted os started H enc)

theorem proved : Rows.FnModfAgainSaid := over
#print axioms proved
end Go.Proofs.Ytnjcfcnmibadcaa.fnModfAgain
