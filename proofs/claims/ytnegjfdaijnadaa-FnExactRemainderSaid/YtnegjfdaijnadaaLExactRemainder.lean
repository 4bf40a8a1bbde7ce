/- FnExactRemainder returns true for every input. No condition. -/
import Derived.Test.YtnegjfdaijnadaaRows
import Derived.Test.YtnegjfdaijnadaaSrm
import Derived.ProofKit
import Derived.OpenShut
namespace Go.Proofs.Ytnegjfdaijnadaa.fnExactRemainder
open Go.ChangeShapes Go.WideShapes Go.ChangeAt Go.RowKit Flt Ieee
theorem own : ownKnob Try.prog.godebug = none := by kernel_rfl
theorem lt_of_wf {b : Nat} (h : (Lit.float .f64 b).wf = true) : b < 2 ^ 64 := by simpa [Lit.wf] using h
theorem bounds_of_wf {n : Int} (h : (Lit.int .i64 n).wf = true) : -9223372036854775808 ≤ n ∧ n ≤ 9223372036854775807 := by simpa [Lit.wf, IntKind.min, IntKind.max, IntKind.signed, IntKind.bits] using h
theorem walk (a0 a1 : Nat) (h0 : a0 < 2 ^ 64) (h1 : a1 < 2 ^ 64) (w : World) :
    Calls Try.prog 12 #[.float .f64 a0, .float .f64 a1] w fun e w' => e = .returned (.bool true) ∧ Grown w w' := by
  by_cases hc : rg a1 = 0 ∨ ¬ Fnt a0 ∨ NaN a1
  · have hM1 := fun u => Remainder_none a0 a1 u h0 hc
    have hM2 := fun u => sRemainder_none a0 a1 u hc
    have n1 := nan_lit
    clear hc
    go_enter Try.func12, Try.ntmps12
    go_wp2_with (first | (go_at_call 15; refine (hM1 _).mono ?_; rintro e w' ⟨rfl, rfl⟩) | (go_at_call 26; refine (hM2 _).mono ?_; rintro e w' ⟨r, rfl, n2, hg⟩) | (go_at_call 24; refine (sameFloat_nan _ _ _ n1 n2).mono ?_; rintro e w' ⟨rfl, rfl⟩))
    go_ret
    exact ⟨rfl, hg⟩
  · have hx : Fnt a0 := Classical.byContradiction fun q => hc (.inr (.inl q))
    have hz : rg a1 ≠ 0 := fun q => hc (.inl q)
    have hny : ¬ NaN a1 := fun q => hc (.inr (.inr q))
    clear hc
    rcases kinds a1 with hy | hy | hy
    · have hM1 := fun u => Remainder_fin a0 a1 u hx hy h0 h1 hz
      have hM2 : ∀ u, Calls Try.prog 26 #[.float .f64 a0, .float .f64 a1] u fun e w' => e = .returned (.float .f64 (remW a0 a1)) ∧ u = w' := by
        intro u
        by_cases q : rg a0 = 0
        · have e : remW a0 a1 = a0 := remW_keep hx h0 hz (by rw [q, mag_zero]; exact Nat.zero_le _)
          rw [e]; exact sRemainder_zero a0 a1 u hy q hz
        · exact sRemainder_num a0 a1 u hx hy h0 h1 q hz
      have n1 : ¬ NaN (remW a0 a1) := fin_nan (remW_spec hx hz).1
      generalize remW a0 a1 = r at *
      clear hz
      go_enter Try.func12, Try.ntmps12
      go_wp2_with (first | (go_at_call 15; refine (hM1 _).mono ?_; rintro e w' ⟨rfl, rfl⟩) | (go_at_call 26; refine (hM2 _).mono ?_; rintro e w' ⟨rfl, rfl⟩) | (go_at_call 24; refine (sameFloat_self _ _ n1).mono ?_; rintro e w' ⟨rfl, rfl⟩))
      go_ret
      exact ⟨rfl, Grown.refl _⟩
    · have hM1 := fun u => Remainder_inf a0 a1 u hx hy h0 h1
      have hM2 := fun u => sRemainder_inf a0 a1 u hx hy
      have n1 := fin_nan hx
      clear hz
      go_enter Try.func12, Try.ntmps12
      go_wp2_with (first | (go_at_call 15; refine (hM1 _).mono ?_; rintro e w' ⟨rfl, rfl⟩) | (go_at_call 26; refine (hM2 _).mono ?_; rintro e w' ⟨rfl, hg⟩) | (go_at_call 24; refine (sameFloat_self _ _ n1).mono ?_; rintro e w' ⟨rfl, rfl⟩))
      go_ret
      exact ⟨rfl, hg⟩
    · exact absurd hy hny

set_option maxRecDepth 100000 in
theorem lifted (os : Os) (started : os.Started) (H : Type) (enc : TypeId × Value → H) :
    ReturnsInHanded {} Try.checked os 12 .any (Rows.fnExactRemainderSpec.pre6 enc Try.prog Try.f12 Rows.fnExactRemainderRow.domain false) (Rows.fnExactRemainderSpec.post enc Try.prog Try.f12 false true false false) := by
  refine returnsInHanded_of_change (C := Try.checked) own started (by kernel_rfl) Try.func12
    (ChangeSpec.witness6 (enc := enc) (C := Try.checked) false ⟨#[], #[.float .f64 0, .float .f64 0], []⟩ 8 (by kernel_rfl) (by kernel_rfl) (by kernel_rfl) (by kernel_rfl)) ?_
  intro W base args ds gs before hval0 hW hcnd _
  have hval : ∀ (j : Nat) t v, Try.f12.params[j]? = some t → args[j]? = some v → Value.okWide Try.prog W .any base t v := hval0
  have hW' := hW
  obtain ⟨p, q, hA0, hV, rfl, hfz, hnd⟩ := hW
  have hA : DataW.TrodAll enc Try.prog W 0 (fun _ => true) true Try.f12.params.toList args.toList ds p := hA0
  rw [Try.params12] at hA hval
  obtain ⟨v0, vs0, d0, ds0, p0, q0, hargs, rfl, rfl, h0, r0⟩ := trodAll_cons hA
  obtain ⟨v1, vs1, d1, ds1, p1, q1, rfl, rfl, rfl, h1, r1⟩ := trodAll_cons r0
  obtain ⟨rfl, rfl, rfl⟩ := trodAll_nil r1
  obtain rfl : args = #[v0, v1] := by cases args; simp_all
  obtain ⟨rfl, rfl⟩ := trodVars_none hV
  obtain ⟨a0, rfl, rfl, rfl, w0⟩ := open_float Try.underlying22 (hval 0 22 v0 rfl rfl) h0
  obtain ⟨a1, rfl, rfl, rfl, w1⟩ := open_float Try.underlying22 (hval 1 22 v1 rfl rfl) h1
  clear hA0 hval0
  simp only [List.append_nil] at hW'
  refine (walk a0 a1 (lt_of_wf w0) (lt_of_wf w1) W).mono fun e W' ⟨he, hg⟩ => ?_
  subst he
  exact ⟨_, rfl, post_of_same (pa := []) (pv := []) hW' (fun _ _ _ => (trodAll_cons_mk (shut_bool Try.underlying4 _) trodAll_mk0)) (fun sp _ => (trodAll_cons_mk (shut_float Try.underlying22 w0) (trodAll_cons_mk (shut_float Try.underlying22 w1) trodAll_mk0))) (fun _ _ => rfl) rfl
    (hg.frame _) hg.2.1 (ok_one (by kernel_rfl) rfl (okWide_bool_mk Try.underlying4 _))⟩

theorem over : Rows.fnExactRemainderRow.holds Try.pinned (OpenSpec.ofChange Rows.fnExactRemainderSpec) :=
  OpenClaim.holds_of_wide 12 Try.f12 rfl rfl rfl rfl rfl rfl rfl ⟨rfl, rfl, rfl, rfl, rfl⟩ rfl rfl rfl rfl rfl (by kernel_rfl) Try.func12 (by kernel_rfl)
    (of_decide_eq_true (by kernel_rfl)) (by unfold Func.isWrapper; first | (rw [if_pos (by decide +kernel)]; kernel_rfl) | (rw [if_neg (by decide +kernel)]; exact ⟨rfl, rfl⟩))
    (fun os started H enc _ => lifted os started H enc)

theorem proved : Rows.FnExactRemainderSaid := over
#print axioms proved
end Go.Proofs.Ytnegjfdaijnadaa.fnExactRemainder
