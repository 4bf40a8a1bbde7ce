/- FnRoundToEvenValue returns true for every input. No condition. -/
import Derived.Test.YtnjcfcnmibadcaaRows
import Derived.Test.YtnjcfcnmibadcaaRef
import Derived.Test.YtnjcfcnmibadcaaVal
import Derived.ProofKit
import Derived.OpenShut
namespace Go.Proofs.Ytnjcfcnmibadcaa.fnRoundToEvenValue
open Go.ChangeShapes Go.WideShapes Go.ChangeAt Go.RowKit Flt Ieee
theorem own : ownKnob Try.prog.godebug = none := by kernel_rfl
theorem lt_of_wf {b : Nat} (h : (Lit.float .f64 b).wf = true) : b < 2 ^ 64 := by simpa [Lit.wf] using h
theorem bounds_of_wf {n : Int} (h : (Lit.int .i64 n).wf = true) : -9223372036854775808 ≤ n ∧ n ≤ 9223372036854775807 := by simpa [Lit.wf, IntKind.min, IntKind.max, IntKind.signed, IntKind.bits] using h
theorem half_even {x r : Nat} (h : Fnt x) (hr : IsInt r (sg x) (Kof .even (sg x) (mag (rg x)))) : ∃ g, double.sub r x = some g ∧ Fnt g ∧ (FloatKind.f64.format.order (lsize g) 4602678819172646912 = some .lt ∨ (FloatKind.f64.format.order (lsize g) 4602678819172646912 = some .eq ∧ ∃ v k, double.div r 4611686018427387904 = some v ∧ IsInt v (sg x) k)) := by
  have hU := U_pos
  have h2 := U_two
  have hm := Nat.mod_lt (mag (rg x)) U_pos
  have hk : (Kof .even (sg x) (mag (rg x)) = mag (rg x) / U ∧ (2 * (mag (rg x) % U) < U ∨ 2 * (mag (rg x) % U) = U ∧ mag (rg x) / U % 2 = 0)) ∨ (Kof .even (sg x) (mag (rg x)) = mag (rg x) / U + 1 ∧ U ≤ 2 * (mag (rg x) % U) ∧ (2 * (mag (rg x) % U) = U → mag (rg x) / U % 2 = 1)) := by
    rw [K_even]; split
    · exact .inr ⟨rfl, by omega, by omega⟩
    · exact .inl ⟨rfl, by omega⟩
  obtain ⟨g, hg, h1, hl, h3⟩ := sub_round h hr (by rcases hk with k | k; exact .inl k.1; exact .inr ⟨k.1, k.2.1⟩)
  refine ⟨g, hg, h1, ?_⟩
  have hv := lsize_val hl
  have hmg : mag (rg g) = mag (rg x) % U ∨ mag (rg g) = U - mag (rg x) % U := by rcases h3 with ⟨m1, -⟩ | ⟨m1, -⟩ <;> omega
  by_cases c : 2 * (mag (rg x) % U) = U
  · right
    refine ⟨ord_eq (lsize_fin hl h1) fin_half (by rw [hv, val_half]; omega), ?_⟩
    obtain ⟨k, hke⟩ : ∃ k, Kof .even (sg x) (mag (rg x)) = 2 * k := by
      rcases hk with ⟨k1, k2⟩ | ⟨k1, k2, k3⟩
      · exact ⟨mag (rg x) / U / 2, by omega⟩
      · have := k3 c
        exact ⟨(mag (rg x) / U + 1) / 2, by omega⟩
    rw [hke] at hr
    obtain ⟨v, hv1, hv2⟩ := div_two_even hr
    exact ⟨v, k, hv1, hv2⟩
  · left
    refine ord_lt (lsize_fin hl h1) fin_half ?_
    rw [hv, val_half]
    rcases hk with ⟨k1, k2⟩ | ⟨k1, k2, k3⟩ <;> rcases h3 with ⟨m1, m2⟩ | ⟨m1, m2⟩ <;> omega
theorem walk (a0 : Nat) (h0 : a0 < 2 ^ 64) (w : World) :
    Calls Try.prog 8 #[.float .f64 a0] w fun e w' => e = .returned (.bool true) ∧ Grown w w' := by
  rcases kinds a0 with h | h | h
  · have hr := intW_int .even h h0
    have hT := fun u => RoundToEven_fin a0 u h
    generalize intW .even a0 = r at hr hT
    obtain ⟨g, hg, hgf, hgo⟩ := half_even h hr
    rcases hgo with hgo | ⟨hgo, v, k, hv1, hv2⟩
    all_goals
      go_enter Try.func8, Try.ntmps8
      go_wp2_with (first | (go_at_call 25; refine (hT _).mono ?_; rintro e w' ⟨rfl, rfl⟩) | (go_at_call 18; refine (IsFinite_yes _ _ h).mono ?_; rintro e w' ⟨rfl, rfl⟩) | (go_at_call 20; (with_reducible refine (IsWhole_int _ _ _ _ (by assumption)).mono ?_); rintro e w' ⟨rfl, rfl⟩) | (go_at_call 21; (with_reducible refine (lsize_pos _ _ (by assumption)).mono ?_); rintro e w' ⟨rfl, rfl⟩))
      go_ret
      exact ⟨rfl, Grown.refl _⟩
  · have hn := inf_nan h
    go_enter Try.func8, Try.ntmps8
    go_wp2_with (first | (go_at_call 25; refine (RoundToEven_inf _ _ h h0).mono ?_; rintro e w' ⟨rfl, rfl⟩) | (go_at_call 18; refine (IsFinite_not _ _ (inf_fin h)).mono ?_; rintro e w' ⟨rfl, rfl⟩) | (go_at_call 19; refine (same_self _ _ hn).mono ?_; rintro e w' ⟨rfl, rfl⟩))
    go_ret
    exact ⟨rfl, (Grown.refl _).drew⟩
  · go_enter Try.func8, Try.ntmps8
    go_wp2_with (first | (go_at_call 25; refine (RoundToEven_nan a0 _ h h0).mono ?_; rintro e w' ⟨r, n, h1, h2, rfl, rfl⟩) | (go_at_call 18; refine (IsFinite_not _ _ (nan_fin h)).mono ?_; rintro e w' ⟨rfl, rfl⟩) | (go_at_call 19; refine (same_nan _ _ _ (by assumption) (by assumption)).mono ?_; rintro e w' ⟨rfl, rfl⟩))
    go_ret
    exact ⟨rfl, (grown_drewN (Grown.refl _) n).drew⟩

set_option maxRecDepth 100000 in
theorem lifted (os : Os) (started : os.Started) (H : Type) (enc : TypeId × Value → H) :
    ReturnsInHanded {} Try.checked os 8 .any (Rows.fnRoundToEvenValueSpec.pre6 enc Try.prog Try.f8 Rows.fnRoundToEvenValueRow.domain false) (Rows.fnRoundToEvenValueSpec.post enc Try.prog Try.f8 false true false false) := by
  refine returnsInHanded_of_change (C := Try.checked) own started (by kernel_rfl) Try.func8
    (ChangeSpec.witness6 (enc := enc) (C := Try.checked) false ⟨#[], #[.float .f64 0], []⟩ 8 (by kernel_rfl) (by kernel_rfl) (by kernel_rfl) (by kernel_rfl)) ?_
  intro W base args ds gs before hval0 hW hcnd _
  have hval : ∀ (j : Nat) t v, Try.f8.params[j]? = some t → args[j]? = some v → Value.okWide Try.prog W .any base t v := hval0
  have hW' := hW
  obtain ⟨p, q, hA0, hV, rfl, hfz, hnd⟩ := hW
  have hA : DataW.TrodAll enc Try.prog W 0 (fun _ => true) true Try.f8.params.toList args.toList ds p := hA0
  rw [Try.params8] at hA hval
  obtain ⟨v0, vs0, d0, ds0, p0, q0, hargs, rfl, rfl, h0, r0⟩ := trodAll_cons hA
  obtain ⟨rfl, rfl, rfl⟩ := trodAll_nil r0
  obtain rfl : args = #[v0] := by cases args; simp_all
  obtain ⟨rfl, rfl⟩ := trodVars_none hV
  obtain ⟨a0, rfl, rfl, rfl, w0⟩ := open_float Try.underlying22 (hval 0 22 v0 rfl rfl) h0
  clear hA0 hval0
  simp only [List.append_nil] at hW'
  refine (walk a0 (lt_of_wf w0) W).mono fun e W' ⟨he, hg⟩ => ?_
  subst he
  exact ⟨_, rfl, post_of_same (pa := []) (pv := []) hW' (fun _ _ _ => (trodAll_cons_mk (shut_bool Try.underlying4 _) trodAll_mk0)) (fun sp _ => (trodAll_cons_mk (shut_float Try.underlying22 w0) trodAll_mk0)) (fun _ _ => rfl) rfl
    (hg.frame _) hg.2.1 (ok_one (by kernel_rfl) rfl (okWide_bool_mk Try.underlying4 _))⟩

theorem over : Rows.fnRoundToEvenValueRow.holds Try.pinned (OpenSpec.ofChange Rows.fnRoundToEvenValueSpec) :=
  OpenClaim.holds_of_wide 8 Try.f8 rfl rfl rfl rfl rfl rfl rfl ⟨rfl, rfl, rfl, rfl, rfl⟩ rfl rfl rfl rfl rfl (by kernel_rfl) Try.func8 (by kernel_rfl)
    (of_decide_eq_true (by kernel_rfl)) (by unfold Func.isWrapper; first | (rw [if_pos (by decide +kernel)]; kernel_rfl) | (rw [if_neg (by decide +kernel)]; exact ⟨rfl, rfl⟩))
    (fun os started H enc _ => lifted os started H enc)

theorem proved : Rows.FnRoundToEvenValueSaid := over
#print axioms proved
end Go.Proofs.Ytnjcfcnmibadcaa.fnRoundToEvenValue
