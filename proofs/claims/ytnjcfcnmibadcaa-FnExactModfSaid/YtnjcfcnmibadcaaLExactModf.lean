/- FnExactModf returns true for every input: the library's Modf is the reference's. No condition. -/
import Derived.Test.YtnjcfcnmibadcaaRows
import Derived.Test.YtnjcfcnmibadcaaMth
import Derived.ProofKit
import Derived.OpenShut
namespace Go.Proofs.Ytnjcfcnmibadcaa.fnExactModf
open Go.ChangeShapes Go.WideShapes Go.ChangeAt Go.RowKit Flt Ieee
theorem own : ownKnob Try.prog.godebug = none := by kernel_rfl
theorem lt_of_wf {b : Nat} (h : (Lit.float .f64 b).wf = true) : b < 2 ^ 64 := by simpa [Lit.wf] using h
theorem bounds_of_wf {n : Int} (h : (Lit.int .i64 n).wf = true) : -9223372036854775808 ≤ n ∧ n ≤ 9223372036854775807 := by simpa [Lit.wf, IntKind.min, IntKind.max, IntKind.signed, IntKind.bits] using h
theorem walk (a0 : Nat) (h0 : a0 < 2 ^ 64) (w : World) :
    Calls Try.prog 9 #[.float .f64 a0] w fun e w' => e = .returned (.bool true) ∧ Grown w w' := by
  rcases kinds a0 with h | h | h
  · have hn1 := fin_nan (truncW_int h h0).2.1
    have hn2 := fin_nan (fracS_spec a0).1
    have hS := fun u => sModf_fin a0 u h h0
    have hI := fun u => Modf_fin a0 u h h0
    generalize intW .zero a0 = a at hn1 hS hI
    generalize fracS a0 = b at hn2 hS hI
    go_enter Try.func9, Try.ntmps9
    go_wp2_with (first | (go_at_call 26; refine (hS _).mono ?_; rintro e w' ⟨rfl, rfl⟩) | (go_at_call 27; refine (hI _).mono ?_; rintro e w' ⟨rfl, rfl⟩) | (go_at_call 17; (with_reducible refine (sameFloat_self _ _ (by assumption)).mono ?_); rintro e w' ⟨rfl, rfl⟩))
    go_ret
    exact ⟨rfl, Grown.refl _⟩
  · have hn := inf_nan h
    go_enter Try.func9, Try.ntmps9
    go_wp2_with (first | (go_at_call 26; refine (sModf_inf a0 _ h).mono ?_; rintro e w' ⟨r, s, n, rfl, hs, rfl, rfl⟩) | (go_at_call 27; refine (Modf_inf _ _ h h0).mono ?_; rintro e w' ⟨r1, s1, n1, rfl, hs1, rfl, rfl⟩) | (go_at_call 17; (with_reducible refine (sameFloat_self _ _ (by assumption)).mono ?_); rintro e w' ⟨rfl, rfl⟩) | (go_at_call 17; (with_reducible refine (sameFloat_nan _ _ _ (by assumption) (by assumption)).mono ?_); rintro e w' ⟨rfl, rfl⟩))
    go_ret
    exact ⟨rfl, grown_drewN (grown_drewN (Grown.refl _) n) n1⟩
  · go_enter Try.func9, Try.ntmps9
    go_wp2_with (first | (go_at_call 26; refine (sModf_nan a0 _ h).mono ?_; rintro e w' ⟨rfl, rfl⟩) | (go_at_call 27; refine (Modf_nan _ _ h h0).mono ?_; rintro e w' ⟨r1, s1, n1, hr1, hs1, rfl, rfl⟩) | (go_at_call 17; (with_reducible refine (sameFloat_nan _ _ _ (by assumption) (by assumption)).mono ?_); rintro e w' ⟨rfl, rfl⟩))
    go_ret
    exact ⟨rfl, grown_drewN (Grown.refl _) n1⟩

set_option maxRecDepth 100000 in
theorem lifted (os : Os) (started : os.Started) (H : Type) (enc : TypeId × Value → H) :
    ReturnsInHanded {} Try.checked os 9 .any (Rows.fnExactModfSpec.pre6 enc Try.prog Try.f9 Rows.fnExactModfRow.domain false) (Rows.fnExactModfSpec.post enc Try.prog Try.f9 false true false false) := by
  refine returnsInHanded_of_change (C := Try.checked) own started (by kernel_rfl) Try.func9
    (ChangeSpec.witness6 (enc := enc) (C := Try.checked) false ⟨#[], #[.float .f64 0], []⟩ 8 (by kernel_rfl) (by kernel_rfl) (by kernel_rfl) (by kernel_rfl)) ?_
  intro W base args ds gs before hval0 hW hcnd _
  have hval : ∀ (j : Nat) t v, Try.f9.params[j]? = some t → args[j]? = some v → Value.okWide Try.prog W .any base t v := hval0
  have hW' := hW
  obtain ⟨p, q, hA0, hV, rfl, hfz, hnd⟩ := hW
  have hA : DataW.TrodAll enc Try.prog W 0 (fun _ => true) true Try.f9.params.toList args.toList ds p := hA0
  rw [Try.params9] at hA hval
  obtain ⟨v0, vs0, d0, ds0, p0, q0, hargs, rfl, rfl, h0, r0⟩ := trodAll_cons hA
  obtain ⟨rfl, rfl, rfl⟩ := trodAll_nil r0
  obtain rfl : args = #[v0] := by cases args; simp_all
  obtain ⟨rfl, rfl⟩ := trodVars_none hV
  obtain ⟨a0, rfl, rfl, rfl, w0⟩ := open_float Try.underlying22 (hval 0 22 v0 rfl rfl) h0
  clear hA0 hval0
  simp only [List.append_nil] at hW'
  refine (walk a0 (lt_of_wf w0) W).mono fun e W' ⟨he, hg⟩ => ?_
  subst he
  exact ⟨_, rfl, post_of_same (pa := []) (pv := []) hW' (fun _ _ _ => (trodAll_cons_mk (shut_bool Try.underlying4 _) trodAll_mk0)) (fun sp _ => (trodAll_cons_mk (shut_float Try.underlying22 w0) trodAll_mk0)) (fun _ _ => rfl) rfl
    (hg.frame _) hg.2.1 (ok_one (by kernel_rfl) rfl (okWide_bool_mk Try.underlying4 _))⟩

theorem over : Rows.fnExactModfRow.holds Try.pinned (OpenSpec.ofChange Rows.fnExactModfSpec) :=
  OpenClaim.holds_of_wide 9 Try.f9 rfl rfl rfl rfl rfl rfl rfl ⟨rfl, rfl, rfl, rfl, rfl⟩ rfl rfl rfl rfl rfl (by kernel_rfl) Try.func9 (by kernel_rfl)
    (of_decide_eq_true (by kernel_rfl)) (by unfold Func.isWrapper; first | (rw [if_pos (by decide +kernel)]; kernel_rfl) | (rw [if_neg (by decide +kernel)]; exact ⟨rfl, rfl⟩))
    (fun os started H enc _ => lifted os started H enc)

theorem proved : Rows.FnExactModfSaid := over
#print axioms proved
end Go.Proofs.Ytnjcfcnmibadcaa.fnExactModf
