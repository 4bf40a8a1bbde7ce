/- FnTruncValue returns true for every input. No condition. -/
import Derived.Test.YtnjcfcnmibadcaaRows
import Derived.Test.YtnjcfcnmibadcaaRef
import Derived.Test.YtnjcfcnmibadcaaVal
import Derived.ProofKit
import Derived.OpenShut
namespace Go.Proofs.Ytnjcfcnmibadcaa.fnTruncValue
open Go.ChangeShapes Go.WideShapes Go.ChangeAt Go.RowKit Flt Ieee
theorem own : ownKnob Try.prog.godebug = none := by kernel_rfl
theorem lt_of_wf {b : Nat} (h : (Lit.float .f64 b).wf = true) : b < 2 ^ 64 := by simpa [Lit.wf] using h
theorem bounds_of_wf {n : Int} (h : (Lit.int .i64 n).wf = true) : -9223372036854775808 ≤ n ∧ n ≤ 9223372036854775807 := by simpa [Lit.wf, IntKind.min, IntKind.max, IntKind.signed, IntKind.bits] using h
theorem frac_lt_one {x r : Nat} (h : Fnt x) (h0 : x < 2 ^ 64) (hr : IsInt r (sg x) (mag (rg x) / U)) : ∃ g, double.sub (lsize x) (lsize r) = some g ∧ FloatKind.f64.format.order g 4607182418800017408 = some .lt := by
  have hq := qf (mag (rg x))
  have hm := Nat.mod_lt (mag (rg x)) U_pos
  have hv : val (lsize x) - val (lsize r) = ((mag (rg x) % U : Nat) : Int) := by
    rw [lsize_val h0, lsize_val hr.1, hr.2.2.2]; omega
  obtain ⟨t, ht, hi⟩ := frac_rung (rg x)
  obtain ⟨g, hg, h1, h2, -⟩ := sub_exact (t := t) (lsize_fin h0 h) (lsize_fin hr.1 hr.2.1) (by rw [hv, ht]; omega) hi
  exact ⟨g, hg, ord_lt h1 fin_one (by rw [h2, hv, val_one]; omega)⟩
theorem size_le {x r : Nat} (h : Fnt x) (h0 : x < 2 ^ 64) (hr : IsInt r (sg x) (mag (rg x) / U)) : FloatKind.f64.format.order (lsize r) (lsize x) = some .lt ∨ FloatKind.f64.format.order (lsize r) (lsize x) = some .eq := by
  have hq := qf (mag (rg x))
  by_cases c : mag (rg x) % U = 0
  · exact .inr (ord_eq (lsize_fin hr.1 hr.2.1) (lsize_fin h0 h) (by rw [lsize_val h0, lsize_val hr.1, hr.2.2.2]; omega))
  · exact .inl (ord_lt (lsize_fin hr.1 hr.2.1) (lsize_fin h0 h) (by rw [lsize_val h0, lsize_val hr.1, hr.2.2.2]; omega))
theorem walk (a0 : Nat) (h0 : a0 < 2 ^ 64) (w : World) :
    Calls Try.prog 4 #[.float .f64 a0] w fun e w' => e = .returned (.bool true) ∧ Grown w w' := by
  rcases kinds a0 with h | h | h
  · have hr := truncW_int h h0
    have hT := fun u => Trunc_fin a0 u h
    generalize intW .zero a0 = r at hr hT
    obtain ⟨g, hg, hgo⟩ := frac_lt_one h h0 hr
    have hf := hr.2.1
    have hW := fun u => IsWhole_int r _ _ u hr
    obtain ⟨p, hp, hpo⟩ := mul_same hr.2.1 h hr.2.2.1
    have hs := size_le h h0 hr
    clear hr
    rcases hs with hs | hs <;> rcases hpo with hpo | hpo
    all_goals
      go_enter Try.func4, Try.ntmps4
      go_wp2_with (first | (go_at_call 16; refine (hT _).mono ?_; rintro e w' ⟨rfl, rfl⟩) | (go_at_call 18; refine (IsFinite_yes _ _ h).mono ?_; rintro e w' ⟨rfl, rfl⟩) | (go_at_call 20; refine (hW _).mono ?_; rintro e w' ⟨rfl, rfl⟩) | (go_at_call 21; (with_reducible refine (lsize_pos _ _ (by assumption)).mono ?_); rintro e w' ⟨rfl, rfl⟩))
      go_ret
      exact ⟨rfl, Grown.refl _⟩
  · have hn := inf_nan h
    go_enter Try.func4, Try.ntmps4
    go_wp2_with (first | (go_at_call 16; refine (Trunc_inf _ _ h h0).mono ?_; rintro e w' ⟨rfl, rfl⟩) | (go_at_call 18; refine (IsFinite_not _ _ (inf_fin h)).mono ?_; rintro e w' ⟨rfl, rfl⟩) | (go_at_call 19; refine (same_self _ _ hn).mono ?_; rintro e w' ⟨rfl, rfl⟩))
    go_ret
    exact ⟨rfl, (Grown.refl _).drew⟩
  · go_enter Try.func4, Try.ntmps4
    go_wp2_with (first | (go_at_call 16; refine (Trunc_nan a0 _ h h0).mono ?_; rintro e w' ⟨r, n, h1, h2, rfl, rfl⟩) | (go_at_call 18; refine (IsFinite_not _ _ (nan_fin h)).mono ?_; rintro e w' ⟨rfl, rfl⟩) | (go_at_call 19; refine (same_nan _ _ _ (by assumption) (by assumption)).mono ?_; rintro e w' ⟨rfl, rfl⟩))
    go_ret
    exact ⟨rfl, (grown_drewN (Grown.refl _) n).drew⟩

set_option maxRecDepth 100000 in
theorem lifted (os : Os) (started : os.Started) (H : Type) (enc : TypeId × Value → H) :
    ReturnsInHanded {} Try.checked os 4 .any (Rows.fnTruncValueSpec.pre6 enc Try.prog Try.f4 Rows.fnTruncValueRow.domain false) (Rows.fnTruncValueSpec.post enc Try.prog Try.f4 false true false false) := by
  refine returnsInHanded_of_change (C := Try.checked) own started (by kernel_rfl) Try.func4
    (ChangeSpec.witness6 (enc := enc) (C := Try.checked) false ⟨#[], #[.float .f64 0], []⟩ 8 (by kernel_rfl) (by kernel_rfl) (by kernel_rfl) (by kernel_rfl)) ?_
  intro W base args ds gs before hval0 hW hcnd _
  have hval : ∀ (j : Nat) t v, Try.f4.params[j]? = some t → args[j]? = some v → Value.okWide Try.prog W .any base t v := hval0
  have hW' := hW
  obtain ⟨p, q, hA0, hV, rfl, hfz, hnd⟩ := hW
  have hA : DataW.TrodAll enc Try.prog W 0 (fun _ => true) true Try.f4.params.toList args.toList ds p := hA0
  rw [Try.params4] at hA hval
  obtain ⟨v0, vs0, d0, ds0, p0, q0, hargs, rfl, rfl, h0, r0⟩ := trodAll_cons hA
  obtain ⟨rfl, rfl, rfl⟩ := trodAll_nil r0
  obtain rfl : args = #[v0] := by cases args; simp_all
  obtain ⟨rfl, rfl⟩ := trodVars_none hV
  obtain ⟨a0, rfl, rfl, rfl, w0⟩ := open_float Try.underlying22 (hval 0 22 v0 rfl rfl) h0
  clear hA0 hval0
  simp only [List.append_nil] at hW'
  refine (walk a0 (lt_of_wf w0) W).mono fun e W' ⟨he, hg⟩ => ?_
  subst he
  exact ⟨_, rfl, post_of_same (pa := []) (pv := []) hW' (fun _ _ _ => (trodAll_cons_mk (shut_bool Try.underlying4 _) trodAll_mk0)) (fun sp _ => (trodAll_cons_mk (shut_float Try.underlying22 w0) trodAll_mk0)) (fun _ _ => rfl) rfl
    (hg.frame _) hg.2.1 (ok_one (by kernel_rfl) rfl (okWide_bool_mk Try.underlying4 _))⟩

theorem over : Rows.fnTruncValueRow.holds Try.pinned (OpenSpec.ofChange Rows.fnTruncValueSpec) :=
  OpenClaim.holds_of_wide 4 Try.f4 rfl rfl rfl rfl rfl rfl rfl ⟨rfl, rfl, rfl, rfl, rfl⟩ rfl rfl rfl rfl rfl (by kernel_rfl) Try.func4 (by kernel_rfl)
    (of_decide_eq_true (by kernel_rfl)) (by unfold Func.isWrapper; first | (rw [if_pos (by decide +kernel)]; kernel_rfl) | (rw [if_neg (by decide +kernel)]; exact ⟨rfl, rfl⟩))
    (fun os started H enc _ => lifted os started H enc)

theorem proved : Rows.FnTruncValueSaid := over
#print axioms proved
end Go.Proofs.Ytnjcfcnmibadcaa.fnTruncValue
