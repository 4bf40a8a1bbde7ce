/- FnRoundingsOdd returns true for every input. No condition. -/
import Derived.Test.YtaabgcncacdnoaaRows
import Derived.Test.YtaabgcncacdnoaaRnb
import Derived.ProofKit
import Derived.OpenShut
namespace Go.Proofs.Ytaabgcncacdnoaa.fnRoundingsOdd
open Go.ChangeShapes Go.WideShapes Go.ChangeAt Go.RowKit Flt Ieee
theorem own : ownKnob Try.prog.godebug = none := by kernel_rfl
theorem lt_of_wf {b : Nat} (h : (Lit.float .f64 b).wf = true) : b < 2 ^ 64 := by simpa [Lit.wf] using h
theorem bounds_of_wf {n : Int} (h : (Lit.int .i64 n).wf = true) : -9223372036854775808 ≤ n ∧ n ≤ 9223372036854775807 := by simpa [Lit.wf, IntKind.min, IntKind.max, IntKind.signed, IntKind.bits] using h
theorem opp_trunc {x : Nat} (h : Fnt x) (h0 : x < 2 ^ 64) : intW .zero (negW x) = negW (intW .zero x) := by
  have h1 := truncW_int ((fin_negW h0).2 h) (negW_lt h0)
  rw [sg_negW h0, rg_negW h0] at h1
  exact isInt_eq h1 (isInt_neg (truncW_int h h0))
theorem opp_even {x : Nat} (h : Fnt x) (h0 : x < 2 ^ 64) : intW .even (negW x) = negW (intW .even x) := by
  have h1 := intW_int .even ((fin_negW h0).2 h) (negW_lt h0)
  rw [K_even, sg_negW h0, rg_negW h0, ← K_even (sg x)] at h1
  exact isInt_eq h1 (isInt_neg (intW_int .even h h0))
theorem opp_away {x : Nat} (h : Fnt x) (h0 : x < 2 ^ 64) : awayW (negW x) = negW (awayW x) := by
  have h1 := awayW_int ((fin_negW h0).2 h) (negW_lt h0)
  rw [sg_negW h0, rg_negW h0] at h1
  exact isInt_eq h1 (isInt_neg (awayW_int h h0))
theorem walk (a0 : Nat) (h0 : a0 < 2 ^ 64) (w : World) :
    Calls Try.prog 7 #[.float .f64 a0] w fun e w' => e = .returned (.bool true) ∧ Grown w w' := by
  rcases kinds a0 with h | h | h
  · have hf := (fin_negW h0).2 h
    have hl := negW_lt h0
    have hT := fun u => Trunc_fin a0 u h
    have hT2 := fun u => Trunc_fin (negW a0) u hf
    have hR := fun u => Round_fin a0 u h h0
    have hR2 := fun u => Round_fin (negW a0) u hf hl
    have hE := fun u => RoundToEven_fin a0 u h
    have hE2 := fun u => RoundToEven_fin (negW a0) u hf
    rw [opp_trunc h h0] at hT2
    rw [opp_away h h0] at hR2
    rw [opp_even h h0] at hE2
    have n1 := fin_nan (isInt_neg (truncW_int h h0)).2.1
    have n2 := fin_nan (isInt_neg (awayW_int h h0)).2.1
    have n3 := fin_nan (isInt_neg (intW_int .even h h0)).2.1
    go_enter Try.func7, Try.ntmps7
    go_wp2_with (first | (go_at_call 20; (with_reducible refine (hT _).mono ?_); rintro e w' ⟨rfl, rfl⟩) | (go_at_call 20; (with_reducible refine (hT2 _).mono ?_); rintro e w' ⟨rfl, rfl⟩) | (go_at_call 21; (with_reducible refine (hR _).mono ?_); rintro e w' ⟨rfl, rfl⟩) | (go_at_call 21; (with_reducible refine (hR2 _).mono ?_); rintro e w' ⟨rfl, rfl⟩) | (go_at_call 22; (with_reducible refine (hE _).mono ?_); rintro e w' ⟨rfl, rfl⟩) | (go_at_call 22; (with_reducible refine (hE2 _).mono ?_); rintro e w' ⟨rfl, rfl⟩) | (go_at_call 17; (with_reducible refine (same_self _ _ (by assumption)).mono ?_); rintro e w' ⟨rfl, rfl⟩))
    go_ret
    exact ⟨rfl, Grown.refl _⟩
  · have hf := (inf_negW h0).2 h
    have hl := negW_lt h0
    have hT := fun u => Trunc_inf a0 u h h0
    have hT2 := fun u => Trunc_inf (negW a0) u hf hl
    have hR := fun u => Round_not a0 u (inf_fin h) h0
    have hR2 := fun u => Round_not (negW a0) u (inf_fin hf) hl
    have hE := fun u => RoundToEven_inf a0 u h h0
    have hE2 := fun u => RoundToEven_inf (negW a0) u hf hl
    have n1 := inf_nan hf
    go_enter Try.func7, Try.ntmps7
    go_wp2_with (first | (go_at_call 20; (with_reducible refine (hT _).mono ?_); rintro e w' ⟨rfl, rfl⟩) | (go_at_call 20; (with_reducible refine (hT2 _).mono ?_); rintro e w' ⟨rfl, rfl⟩) | (go_at_call 21; (with_reducible refine (hR _).mono ?_); rintro e w' ⟨rfl, rfl⟩) | (go_at_call 21; (with_reducible refine (hR2 _).mono ?_); rintro e w' ⟨rfl, rfl⟩) | (go_at_call 22; (with_reducible refine (hE _).mono ?_); rintro e w' ⟨rfl, rfl⟩) | (go_at_call 22; (with_reducible refine (hE2 _).mono ?_); rintro e w' ⟨rfl, rfl⟩) | (go_at_call 17; (with_reducible refine (same_self _ _ (by assumption)).mono ?_); rintro e w' ⟨rfl, rfl⟩))
    go_ret
    exact ⟨rfl, Grown.refl _⟩
  · have hf := (nan_negW h0).2 h
    have hl := negW_lt h0
    go_enter Try.func7, Try.ntmps7
    go_wp2_with (first | (go_at_call 20; (with_reducible refine (Trunc_nan _ _ (by assumption) (by assumption)).mono ?_); rintro e w' ⟨r, n, h1, h2, rfl, rfl⟩; have h3 := (nan_negW h2).2 h1) | (go_at_call 21; (with_reducible refine (Round_not _ _ (nan_fin (by assumption)) (by assumption)).mono ?_); rintro e w' ⟨rfl, rfl⟩) | (go_at_call 22; (with_reducible refine (RoundToEven_nan _ _ (by assumption) (by assumption)).mono ?_); rintro e w' ⟨r, n, h1, h2, rfl, rfl⟩; have h3 := (nan_negW h2).2 h1) | (go_at_call 17; (with_reducible refine (same_nan _ _ _ (by assumption) (by assumption)).mono ?_); rintro e w' ⟨rfl, rfl⟩))
    go_ret
    refine ⟨rfl, ?_⟩
    repeat (first | exact Grown.refl _ | apply grown_drewN)

set_option maxRecDepth 100000 in
theorem lifted (os : Os) (started : os.Started) (H : Type) (enc : TypeId × Value → H) :
    ReturnsInHanded {} Try.checked os 7 .any (Rows.fnRoundingsOddSpec.pre6 enc Try.prog Try.f7 Rows.fnRoundingsOddRow.domain false) (Rows.fnRoundingsOddSpec.post enc Try.prog Try.f7 false true false false) := by
  refine returnsInHanded_of_change (C := Try.checked) own started (by kernel_rfl) Try.func7
    (ChangeSpec.witness6 (enc := enc) (C := Try.checked) false ⟨#[], #[.float .f64 0], []⟩ 8 (by kernel_rfl) (by kernel_rfl) (by kernel_rfl) (by kernel_rfl)) ?_
  intro W base args ds gs before hval0 hW hcnd _
  have hval : ∀ (j : Nat) t v, Try.f7.params[j]? = some t → args[j]? = some v → Value.okWide Try.prog W .any base t v := hval0
  have hW' := hW
  obtain ⟨p, q, hA0, hV, rfl, hfz, hnd⟩ := hW
  have hA : DataW.TrodAll enc Try.prog W 0 (fun _ => true) true Try.f7.params.toList args.toList ds p := hA0
  rw [Try.params7] at hA hval
  obtain ⟨v0, vs0, d0, ds0, p0, q0, hargs, rfl, rfl, h0, r0⟩ := trodAll_cons hA
  obtain ⟨rfl, rfl, rfl⟩ := trodAll_nil r0
  obtain rfl : args = #[v0] := by cases args; simp_all
  obtain ⟨rfl, rfl⟩ := trodVars_none hV
  obtain ⟨a0, rfl, rfl, rfl, w0⟩ := open_float Try.underlying22 (hval 0 22 v0 rfl rfl) h0
  clear hA0 hval0
  simp only [List.append_nil] at hW'
  refine (walk a0 (lt_of_wf w0) W).mono fun e W' ⟨he, hg⟩ => ?_
  subst he
  exact ⟨_, rfl, post_of_same (pa := []) (pv := []) hW' (fun _ _ _ => (trodAll_cons_mk (shut_bool Try.underlying4 _) trodAll_mk0)) (fun sp _ => (trodAll_cons_mk (shut_float Try.underlying22 w0) trodAll_mk0)) (fun _ _ => rfl) rfl
    (hg.frame _) hg.2.1 (ok_one (by kernel_rfl) rfl (okWide_bool_mk Try.underlying4 _))⟩

theorem over : Rows.fnRoundingsOddRow.holds Try.pinned (OpenSpec.ofChange Rows.fnRoundingsOddSpec) :=
  OpenClaim.holds_of_wide 7 Try.f7 rfl rfl rfl rfl rfl rfl rfl ⟨rfl, rfl, rfl, rfl, rfl⟩ rfl rfl rfl rfl rfl (by kernel_rfl) Try.func7 (by kernel_rfl)
    (of_decide_eq_true (by kernel_rfl)) (by unfold Func.isWrapper; first | (rw [if_pos (by decide +kernel)]; kernel_rfl) | (rw [if_neg (by decide +kernel)]; exact ⟨rfl, rfl⟩))
    (fun os started H enc _ => lifted os started H enc)

theorem proved : Rows.FnRoundingsOddSaid := over
#print axioms proved
end Go.Proofs.Ytaabgcncacdnoaa.fnRoundingsOdd
