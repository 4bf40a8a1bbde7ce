/- FnModAgain returns true for every input. No condition. -/
import Derived.Test.YtnegjfdaijnadaaRows
import Derived.Test.YtnegjfdaijnadaaMds
import Derived.ProofKit
import Derived.OpenShut
namespace Go.Proofs.Ytnegjfdaijnadaa.fnModAgain
open Go.ChangeShapes Go.WideShapes Go.ChangeAt Go.RowKit Flt Ieee
theorem own : ownKnob Try.prog.godebug = none := by kernel_rfl
theorem lt_of_wf {b : Nat} (h : (Lit.float .f64 b).wf = true) : b < 2 ^ 64 := by simpa [Lit.wf] using h
theorem bounds_of_wf {n : Int} (h : (Lit.int .i64 n).wf = true) : -9223372036854775808 ≤ n ∧ n ≤ 9223372036854775807 := by simpa [Lit.wf, IntKind.min, IntKind.max, IntKind.signed, IntKind.bits] using h
theorem again {x y : Nat} (hx : Fnt x) (hz : rg y ≠ 0) : modW (modW x y) y = modW x y := by
  obtain ⟨h1, h2, h3, h4⟩ := modW_spec hx hz
  obtain ⟨k1, k2, k3, k4⟩ := modW_spec h1 hz
  refine wd_ext k4 h4 k2 (mag_inj ?_)
  rw [k3, h3, Nat.mod_mod]
theorem neg_right {x y : Nat} (h : y < 2 ^ 64) : modW x (negW y) = modW x y := by unfold modW; rw [rg_negW h]
theorem neg_left {x y : Nat} (hx : Fnt x) (h : x < 2 ^ 64) (hz : rg y ≠ 0) : modW (negW x) y = negW (modW x y) := by
  obtain ⟨h1, h2, h3, h4⟩ := modW_spec hx hz
  obtain ⟨k1, k2, k3, k4⟩ := modW_spec ((fin_negW h).2 hx) hz
  refine wd_ext k4 (negW_lt h4) (by rw [k2, sg_negW h, sg_negW h4, h2]) (mag_inj ?_)
  rw [k3, rg_negW h, rg_negW h4, h3]
theorem walk (a0 a1 : Nat) (h0 : a0 < 2 ^ 64) (h1 : a1 < 2 ^ 64) (w : World) :
    Calls Try.prog 7 #[.float .f64 a0, .float .f64 a1] w fun e w' => e = .returned (.bool true) ∧ Grown w w' := by
  by_cases hc : rg a1 = 0 ∨ ¬ Fnt a0 ∨ NaN a1
  · have hM1 := fun u => Mod_none a0 a1 u h0 hc
    have hM2 := fun u => Mod_none 9221120237041090561 a1 u (by omega) (.inr (.inl (nan_fin nan_lit)))
    have hM3 := fun u => Mod_none a0 (negW a1) u h0 (by rw [rg_negW h1, nan_negW h1]; exact hc)
    have hM4 := fun u => Mod_none (negW a0) a1 u (negW_lt h0) (by rw [fin_negW h0]; exact hc)
    have n1 := nan_lit
    have n2 : NaN (negW 9221120237041090561) := (nan_negW (by omega)).2 nan_lit
    clear hc
    go_enter Try.func7, Try.ntmps7
    go_wp2_with (first | (go_at_call 18; (with_reducible refine (hM1 _).mono ?_); rintro e w' ⟨rfl, rfl⟩) | (go_at_call 18; (with_reducible refine (hM2 _).mono ?_); rintro e w' ⟨rfl, rfl⟩) | (go_at_call 18; (with_reducible refine (hM3 _).mono ?_); rintro e w' ⟨rfl, rfl⟩) | (go_at_call 18; (with_reducible refine (hM4 _).mono ?_); rintro e w' ⟨rfl, rfl⟩) | (go_at_call 21; (with_reducible refine (same_nan _ _ _ (by assumption) (by assumption)).mono ?_); rintro e w' ⟨rfl, rfl⟩))
    go_ret
    exact ⟨rfl, Grown.refl _⟩
  · have hx : Fnt a0 := Classical.byContradiction fun q => hc (.inr (.inl q))
    have hz : rg a1 ≠ 0 := fun q => hc (.inl q)
    have hny : ¬ NaN a1 := fun q => hc (.inr (.inr q))
    clear hc
    rcases kinds a1 with hy | hy | hy
    · obtain ⟨g1, g2, g3, g4⟩ := modW_spec hx hz
      have hM1 := fun u => Mod_fin a0 a1 u hx hy h0 h1 hz
      have hM2 := fun u => Mod_fin (modW a0 a1) a1 u g1 hy g4 h1 hz
      have hM3 := fun u => Mod_fin a0 (negW a1) u hx ((fin_negW h1).2 hy) h0 (negW_lt h1) (by rw [rg_negW h1]; exact hz)
      have hM4 := fun u => Mod_fin (negW a0) a1 u ((fin_negW h0).2 hx) hy (negW_lt h0) h1 hz
      rw [again hx hz] at hM2
      rw [neg_right h1] at hM3
      rw [neg_left hx h0 hz] at hM4
      have n1 := fin_nan g1
      have n2 : ¬ NaN (negW (modW a0 a1)) := fin_nan ((fin_negW g4).2 g1)
      generalize modW a0 a1 = r at *
      clear g2 g3 hz
      go_enter Try.func7, Try.ntmps7
      go_wp2_with (first | (go_at_call 18; (with_reducible refine (hM1 _).mono ?_); rintro e w' ⟨rfl, rfl⟩) | (go_at_call 18; (with_reducible refine (hM2 _).mono ?_); rintro e w' ⟨rfl, rfl⟩) | (go_at_call 18; (with_reducible refine (hM3 _).mono ?_); rintro e w' ⟨rfl, rfl⟩) | (go_at_call 18; (with_reducible refine (hM4 _).mono ?_); rintro e w' ⟨rfl, rfl⟩) | (go_at_call 21; (with_reducible refine (same_self _ _ (by assumption)).mono ?_); rintro e w' ⟨rfl, rfl⟩))
      go_ret
      exact ⟨rfl, Grown.refl _⟩
    · have hM1 := fun u => Mod_inf a0 a1 u hx hy h0 h1
      have hM3 := fun u => Mod_inf a0 (negW a1) u hx ((inf_negW h1).2 hy) h0 (negW_lt h1)
      have hM4 := fun u => Mod_inf (negW a0) a1 u ((fin_negW h0).2 hx) hy (negW_lt h0) h1
      have n1 := fin_nan hx
      have n2 : ¬ NaN (negW a0) := fin_nan ((fin_negW h0).2 hx)
      clear hz
      go_enter Try.func7, Try.ntmps7
      go_wp2_with (first | (go_at_call 18; (with_reducible refine (hM1 _).mono ?_); rintro e w' ⟨rfl, rfl⟩) | (go_at_call 18; (with_reducible refine (hM3 _).mono ?_); rintro e w' ⟨rfl, rfl⟩) | (go_at_call 18; (with_reducible refine (hM4 _).mono ?_); rintro e w' ⟨rfl, rfl⟩) | (go_at_call 21; (with_reducible refine (same_self _ _ (by assumption)).mono ?_); rintro e w' ⟨rfl, rfl⟩))
      go_ret
      exact ⟨rfl, Grown.refl _⟩
    · exact absurd hy hny

set_option maxRecDepth 100000 in
theorem lifted (os : Os) (started : os.Started) (H : Type) (enc : TypeId × Value → H) :
    ReturnsInHanded {} Try.checked os 7 .any (Rows.fnModAgainSpec.pre6 enc Try.prog Try.f7 Rows.fnModAgainRow.domain false) (Rows.fnModAgainSpec.post enc Try.prog Try.f7 false true false false) := by
  refine returnsInHanded_of_change (C := Try.checked) own started (by kernel_rfl) Try.func7
    (ChangeSpec.witness6 (enc := enc) (C := Try.checked) false ⟨#[], #[.float .f64 0, .float .f64 0], []⟩ 8 (by kernel_rfl) (by kernel_rfl) (by kernel_rfl) (by kernel_rfl)) ?_
  intro W base args ds gs before hval0 hW hcnd _
  have hval : ∀ (j : Nat) t v, Try.f7.params[j]? = some t → args[j]? = some v → Value.okWide Try.prog W .any base t v := hval0
  have hW' := hW
  obtain ⟨p, q, hA0, hV, rfl, hfz, hnd⟩ := hW
  have hA : DataW.TrodAll enc Try.prog W 0 (fun _ => true) true Try.f7.params.toList args.toList ds p := hA0
  rw [Try.params7] at hA hval
  obtain ⟨v0, vs0, d0, ds0, p0, q0, hargs, rfl, rfl, h0, r0⟩ := trodAll_cons hA
  obtain ⟨v1, vs1, d1, ds1, p1, q1, rfl, rfl, rfl, h1, r1⟩ := trodAll_cons r0
  obtain ⟨rfl, rfl, rfl⟩ := trodAll_nil r1
  obtain rfl : args = #[v0, v1] := by cases args; simp_all
  obtain ⟨rfl, rfl⟩ := trodVars_none hV
  obtain ⟨a0, rfl, rfl, rfl, w0⟩ := open_float Try.underlying22 (hval 0 22 v0 rfl rfl) h0
  obtain ⟨a1, rfl, rfl, rfl, w1⟩ := open_float Try.underlying22 (hval 1 22 v1 rfl rfl) h1
  clear hA0 hval0
  simp only [List.append_nil] at hW'
  refine (walk a0 a1 (lt_of_wf w0) (lt_of_wf w1) W).mono fun e W' ⟨he, hg⟩ => ?_
  subst he
  exact ⟨_, rfl, post_of_same (pa := []) (pv := []) hW' (fun _ _ _ => (trodAll_cons_mk (shut_bool Try.underlying4 _) trodAll_mk0)) (fun sp _ => (trodAll_cons_mk (shut_float Try.underlying22 w0) (trodAll_cons_mk (shut_float Try.underlying22 w1) trodAll_mk0))) (fun _ _ => rfl) rfl
    (hg.frame _) hg.2.1 (ok_one (by kernel_rfl) rfl (okWide_bool_mk Try.underlying4 _))⟩

theorem over : Rows.fnModAgainRow.holds Try.pinned (OpenSpec.ofChange Rows.fnModAgainSpec) :=
  OpenClaim.holds_of_wide 7 Try.f7 rfl rfl rfl rfl rfl rfl rfl ⟨rfl, rfl, rfl, rfl, rfl⟩ rfl rfl rfl rfl rfl (by kernel_rfl) Try.func7 (by kernel_rfl)
    (of_decide_eq_true (by kernel_rfl)) (by unfold Func.isWrapper; first | (rw [if_pos (by decide +kernel)]; kernel_rfl) | (rw [if_neg (by decide +kernel)]; exact ⟨rfl, rfl⟩))
    (fun os started H enc _ => lifted os started H enc)

theorem proved : Rows.FnModAgainSaid := over
#print axioms proved
end Go.Proofs.Ytnegjfdaijnadaa.fnModAgain
