/- FnRoundValue returns true for every input. No condition. -/
import Derived.Test.YtnjcfcnmibadcaaRows
import Derived.Test.YtnjcfcnmibadcaaRnb
import Derived.Test.YtnjcfcnmibadcaaVal
import Derived.ProofKit
import Derived.OpenShut
namespace Go.Proofs.Ytnjcfcnmibadcaa.fnRoundValue
open Go.ChangeShapes Go.WideShapes Go.ChangeAt Go.RowKit Flt Ieee
theorem own : ownKnob Try.prog.godebug = none := by kernel_rfl
theorem lt_of_wf {b : Nat} (h : (Lit.float .f64 b).wf = true) : b < 2 ^ 64 := by simpa [Lit.wf] using h
theorem bounds_of_wf {n : Int} (h : (Lit.int .i64 n).wf = true) : -9223372036854775808 ≤ n ∧ n ≤ 9223372036854775807 := by simpa [Lit.wf, IntKind.min, IntKind.max, IntKind.signed, IntKind.bits] using h
theorem half_away {x r : Nat} (h : Fnt x) (h0 : x < 2 ^ 64) (hr : IsInt r (sg x) (Kaway (mag (rg x)))) : ∃ g, double.sub r x = some g ∧ Fnt g ∧ (FloatKind.f64.format.order (lsize g) 4602678819172646912 = some .lt ∨ (FloatKind.f64.format.order (lsize g) 4602678819172646912 = some .eq ∧ FloatKind.f64.format.order (lsize r) (lsize x) = some .gt)) := by
  have hU := U_pos
  have h2 := U_two
  have hq := qf (mag (rg x))
  have hm := Nat.mod_lt (mag (rg x)) U_pos
  have hk : (Kaway (mag (rg x)) = mag (rg x) / U ∧ 2 * (mag (rg x) % U) < U) ∨ (Kaway (mag (rg x)) = mag (rg x) / U + 1 ∧ U ≤ 2 * (mag (rg x) % U)) := by
    unfold Kaway; split
    · exact .inr ⟨rfl, by assumption⟩
    · exact .inl ⟨rfl, by omega⟩
  obtain ⟨g, hg, h1, hl, h3⟩ := sub_round h hr (by rcases hk with k | k; exact .inl k.1; exact .inr k)
  refine ⟨g, hg, h1, ?_⟩
  have hv := lsize_val hl
  rcases hk with ⟨k1, k2⟩ | ⟨k1, k2⟩
  · left
    refine ord_lt (lsize_fin hl h1) fin_half ?_
    rw [hv, val_half]
    rcases h3 with ⟨m1, m2⟩ | ⟨m1, m2⟩ <;> omega
  · have m1 : mag (rg g) = U - mag (rg x) % U := by rcases h3 with ⟨m1, m2⟩ | ⟨m1, m2⟩ <;> omega
    by_cases c : 2 * (mag (rg x) % U) = U
    · right
      refine ⟨ord_eq (lsize_fin hl h1) fin_half (by rw [hv, val_half]; omega), ord_gt (lsize_fin hr.1 hr.2.1) (lsize_fin h0 h) ?_⟩
      rw [lsize_val hr.1, lsize_val h0, hr.2.2.2, k1, succ_U]; omega
    · left
      exact ord_lt (lsize_fin hl h1) fin_half (by rw [hv, val_half]; omega)
theorem walk (a0 : Nat) (h0 : a0 < 2 ^ 64) (w : World) :
    Calls Try.prog 6 #[.float .f64 a0] w fun e w' => e = .returned (.bool true) ∧ Grown w w' := by
  rcases kinds a0 with h | h | h
  · have hr := awayW_int h h0
    have hT := fun u => Round_fin a0 u h h0
    generalize awayW a0 = r at hr hT
    obtain ⟨g, hg, hgf, hgo⟩ := half_away h h0 hr
    have hf := hr.2.1
    rcases hgo with hgo | ⟨hgo, hgs⟩
    all_goals
      go_enter Try.func6, Try.ntmps6
      go_wp2_with (first | (go_at_call 23; refine (hT _).mono ?_; rintro e w' ⟨rfl, rfl⟩) | (go_at_call 18; refine (IsFinite_yes _ _ h).mono ?_; rintro e w' ⟨rfl, rfl⟩) | (go_at_call 20; (with_reducible refine (IsWhole_int _ _ _ _ (by assumption)).mono ?_); rintro e w' ⟨rfl, rfl⟩) | (go_at_call 21; (with_reducible refine (lsize_pos _ _ (by assumption)).mono ?_); rintro e w' ⟨rfl, rfl⟩))
      go_ret
      exact ⟨rfl, Grown.refl _⟩
  · have hn := inf_nan h
    go_enter Try.func6, Try.ntmps6
    go_wp2_with (first | (go_at_call 23; refine (Round_not _ _ (inf_fin h) h0).mono ?_; rintro e w' ⟨rfl, rfl⟩) | (go_at_call 18; refine (IsFinite_not _ _ (inf_fin h)).mono ?_; rintro e w' ⟨rfl, rfl⟩) | (go_at_call 19; refine (same_self _ _ hn).mono ?_; rintro e w' ⟨rfl, rfl⟩))
    go_ret
    exact ⟨rfl, (Grown.refl _).drew⟩
  · go_enter Try.func6, Try.ntmps6
    go_wp2_with (first | (go_at_call 23; refine (Round_not a0 _ (nan_fin h) h0).mono ?_; rintro e w' ⟨rfl, rfl⟩) | (go_at_call 18; refine (IsFinite_not _ _ (nan_fin h)).mono ?_; rintro e w' ⟨rfl, rfl⟩) | (go_at_call 19; refine (same_nan _ _ _ h h).mono ?_; rintro e w' ⟨rfl, rfl⟩))
    go_ret
    exact ⟨rfl, (Grown.refl _).drew⟩

set_option maxRecDepth 100000 in
theorem lifted (os : Os) (started : os.Started) (H : Type) (enc : TypeId × Value → H) :
    ReturnsInHanded {} Try.checked os 6 .any (Rows.fnRoundValueSpec.pre6 enc Try.prog Try.f6 Rows.fnRoundValueRow.domain false) (Rows.fnRoundValueSpec.post enc Try.prog Try.f6 false true false false) := by
  refine returnsInHanded_of_change (C := Try.checked) own started (by kernel_rfl) Try.func6
    (ChangeSpec.witness6 (enc := enc) (C := Try.checked) false ⟨#[], #[.float .f64 0], []⟩ 8 (by kernel_rfl) (by kernel_rfl) (by kernel_rfl) (by kernel_rfl)) ?_
  intro W base args ds gs before hval0 hW hcnd _
  have hval : ∀ (j : Nat) t v, Try.f6.params[j]? = some t → args[j]? = some v → Value.okWide Try.prog W .any base t v := hval0
  have hW' := hW
  obtain ⟨p, q, hA0, hV, rfl, hfz, hnd⟩ := hW
  have hA : DataW.TrodAll enc Try.prog W 0 (fun _ => true) true Try.f6.params.toList args.toList ds p := hA0
  rw [Try.params6] at hA hval
  obtain ⟨v0, vs0, d0, ds0, p0, q0, hargs, rfl, rfl, h0, r0⟩ := trodAll_cons hA
  obtain ⟨rfl, rfl, rfl⟩ := trodAll_nil r0
  obtain rfl : args = #[v0] := by cases args; simp_all
  obtain ⟨rfl, rfl⟩ := trodVars_none hV
  obtain ⟨a0, rfl, rfl, rfl, w0⟩ := open_float Try.underlying22 (hval 0 22 v0 rfl rfl) h0
  clear hA0 hval0
  simp only [List.append_nil] at hW'
  refine (walk a0 (lt_of_wf w0) W).mono fun e W' ⟨he, hg⟩ => ?_
  subst he
  exact ⟨_, rfl, post_of_same (pa := []) (pv := []) hW' (fun _ _ _ => (trodAll_cons_mk (shut_bool Try.underlying4 _) trodAll_mk0)) (fun sp _ => (trodAll_cons_mk (shut_float Try.underlying22 w0) trodAll_mk0)) (fun _ _ => rfl) rfl
    (hg.frame _) hg.2.1 (ok_one (by kernel_rfl) rfl (okWide_bool_mk Try.underlying4 _))⟩

theorem over : Rows.fnRoundValueRow.holds Try.pinned (OpenSpec.ofChange Rows.fnRoundValueSpec) :=
  OpenClaim.holds_of_wide 6 Try.f6 rfl rfl rfl rfl rfl rfl rfl ⟨rfl, rfl, rfl, rfl, rfl⟩ rfl rfl rfl rfl rfl (by kernel_rfl) Try.func6 (by kernel_rfl)
    (of_decide_eq_true (by kernel_rfl)) (by unfold Func.isWrapper; first | (rw [if_pos (by decide +kernel)]; kernel_rfl) | (rw [if_neg (by decide +kernel)]; exact ⟨rfl, rfl⟩))
    (fun os started H enc _ => lifted os started H enc)

theorem proved : Rows.FnRoundValueSaid := over
#print axioms proved
end Go.Proofs.Ytnjcfcnmibadcaa.fnRoundValue
