/- FnCeilValue returns true for every input. No condition. -/
import Derived.Test.YtnjcfcnmibadcaaRows
import Derived.Test.YtnjcfcnmibadcaaRef
import Derived.Test.YtnjcfcnmibadcaaVal
import Derived.ProofKit
import Derived.OpenShut
namespace Go.Proofs.Ytnjcfcnmibadcaa.fnCeilValue
open Go.ChangeShapes Go.WideShapes Go.ChangeAt Go.RowKit Flt Ieee
theorem own : ownKnob Try.prog.godebug = none := by kernel_rfl
theorem lt_of_wf {b : Nat} (h : (Lit.float .f64 b).wf = true) : b < 2 ^ 64 := by simpa [Lit.wf] using h
theorem bounds_of_wf {n : Int} (h : (Lit.int .i64 n).wf = true) : -9223372036854775808 ≤ n ∧ n ≤ 9223372036854775807 := by simpa [Lit.wf, IntKind.min, IntKind.max, IntKind.signed, IntKind.bits] using h
theorem fp1 {A B V : Nat} (h : B = A + V) : B = ((A : Int) + (V : Int)).natAbs := by omega
theorem fp2 {m A F : Nat} (h : m = A + F) (c : ¬ F = 0) : (A : Int) < (m : Int) := by omega
theorem fp3 {m A F V : Nat} (h : m = A + F) (hm : F < V) : (m : Int) < (A : Int) + (V : Int) := by omega
theorem fn1 {A B V : Nat} (h : B = A + V) : A = (-(B : Int) + (V : Int)).natAbs := by omega
theorem fn2 {m A B F V : Nat} (h : m = A + F) (hm : F < V) (hB : B = A + V) : -(B : Int) < -(m : Int) := by omega
theorem fn3 {m A B F V : Nat} (h : m = A + F) (c : ¬ F = 0) (hB : B = A + V) : -(m : Int) < -(B : Int) + (V : Int) := by omega
theorem cp1 {A B V : Nat} (h : B = A + V) : A = ((B : Int) - (V : Int)).natAbs := by omega
theorem cp2 {m A B F V : Nat} (h : m = A + F) (hm : F < V) (hB : B = A + V) : (m : Int) < (B : Int) := by omega
theorem cp3 {m A B F V : Nat} (h : m = A + F) (c : ¬ F = 0) (hB : B = A + V) : (B : Int) - (V : Int) < (m : Int) := by omega
theorem cn1 {A B V : Nat} (h : B = A + V) : B = (-(A : Int) - (V : Int)).natAbs := by omega
theorem cn2 {m A F : Nat} (h : m = A + F) (c : ¬ F = 0) : -(m : Int) < -(A : Int) := by omega
theorem cn3 {m A F V : Nat} (h : m = A + F) (hm : F < V) : -(A : Int) - (V : Int) < -(m : Int) := by omega
theorem near_one {x r : Nat} (h : Fnt x) (h0 : x < 2 ^ 64) (hr : IsInt r (sg x) (Kof .up (sg x) (mag (rg x)))) : FloatKind.f64.format.order r x = some .eq ∨ (FloatKind.f64.format.order r x = some .gt ∧ ∃ g, double.sub r 4607182418800017408 = some g ∧ FloatKind.f64.format.order x g = some .gt) := by
  have hU := U_pos
  have hq := qf (mag (rg x))
  have hm := Nat.mod_lt (mag (rg x)) U_pos
  rw [K_up] at hr
  by_cases c : mag (rg x) % U = 0
  · left
    rw [if_neg (fun k => k.2 c), Nat.add_zero] at hr
    rw [isInt_eq hr (isInt_of_mod h h0 c)]
    exact ord_self (fin_nan h)
  · right
    have hs := frac_div c
    have hvx := val_eq (b := x) rfl
    generalize mag (rg x) / U = Q at hq hr hs
    have hsu := succ_U Q
    cases hsg : sg x
    · rw [hsg] at hvx hr
      rw [if_pos ⟨rfl, c⟩] at hr
      have hvr := isInt_val hr
      rw [if_neg Bool.false_ne_true] at hvx hvr
      obtain ⟨t, ht, hi⟩ := int_rung (k := Q) (by omega)
      obtain ⟨g, hg, h1, h2, -⟩ := sub_exact (t := t) hr.2.1 fin_one (by rw [ht, hvr, val_one]; exact cp1 hsu) hi
      refine ⟨ord_gt hr.2.1 h (by rw [hvx, hvr]; exact cp2 hq hm hsu), g, hg, ord_gt h h1 ?_⟩
      rw [h2, hvx, hvr, val_one]; exact cp3 hq c hsu
    · rw [hsg] at hvx hr
      rw [if_neg (fun k => Bool.noConfusion k.1), Nat.add_zero] at hr
      have hvr := isInt_val hr
      rw [if_pos rfl] at hvx hvr
      obtain ⟨t, ht, hi⟩ := int_rung (k := Q + 1) (by omega)
      obtain ⟨g, hg, h1, h2, -⟩ := sub_exact (t := t) hr.2.1 fin_one (by rw [ht, hvr, val_one]; exact cn1 hsu) hi
      refine ⟨ord_gt hr.2.1 h (by rw [hvx, hvr]; exact cn2 hq c), g, hg, ord_gt h h1 ?_⟩
      rw [h2, hvx, hvr, val_one]; exact cn3 hq hm
theorem walk (a0 : Nat) (h0 : a0 < 2 ^ 64) (w : World) :
    Calls Try.prog 14 #[.float .f64 a0] w fun e w' => e = .returned (.bool true) ∧ Grown w w' := by
  rcases kinds a0 with h | h | h
  · have hr := intW_int .up h h0
    have hT := fun u => Ceil_fin a0 u h
    generalize intW .up a0 = r at hr hT
    have hgo := near_one h h0 hr
    rcases hgo with hgo | ⟨hgo, g, hg, hgx⟩
    all_goals
      go_enter Try.func14, Try.ntmps14
      go_wp2_with (first | (go_at_call 31; refine (hT _).mono ?_; rintro e w' ⟨rfl, rfl⟩) | (go_at_call 18; refine (IsFinite_yes _ _ h).mono ?_; rintro e w' ⟨rfl, rfl⟩) | (go_at_call 20; (with_reducible refine (IsWhole_int _ _ _ _ (by assumption)).mono ?_); rintro e w' ⟨rfl, rfl⟩) | (go_at_call 21; (with_reducible refine (lsize_pos _ _ (by assumption)).mono ?_); rintro e w' ⟨rfl, rfl⟩))
      go_ret
      exact ⟨rfl, Grown.refl _⟩
  · have hn := inf_nan h
    go_enter Try.func14, Try.ntmps14
    go_wp2_with (first | (go_at_call 31; refine (Ceil_inf _ _ h h0).mono ?_; rintro e w' ⟨rfl, rfl⟩) | (go_at_call 18; refine (IsFinite_not _ _ (inf_fin h)).mono ?_; rintro e w' ⟨rfl, rfl⟩) | (go_at_call 19; refine (same_self _ _ hn).mono ?_; rintro e w' ⟨rfl, rfl⟩))
    go_ret
    exact ⟨rfl, (Grown.refl _).drew⟩
  · go_enter Try.func14, Try.ntmps14
    go_wp2_with (first | (go_at_call 31; refine (Ceil_nan a0 _ h h0).mono ?_; rintro e w' ⟨r, n, h1, h2, rfl, rfl⟩) | (go_at_call 18; refine (IsFinite_not _ _ (nan_fin h)).mono ?_; rintro e w' ⟨rfl, rfl⟩) | (go_at_call 19; refine (same_nan _ _ _ (by assumption) (by assumption)).mono ?_; rintro e w' ⟨rfl, rfl⟩))
    go_ret
    exact ⟨rfl, (grown_drewN (Grown.refl _) n).drew⟩

set_option maxRecDepth 100000 in
theorem lifted (os : Os) (started : os.Started) (H : Type) (enc : TypeId × Value → H) :
    ReturnsInHanded {} Try.checked os 14 .any (Rows.fnCeilValueSpec.pre6 enc Try.prog Try.f14 Rows.fnCeilValueRow.domain false) (Rows.fnCeilValueSpec.post enc Try.prog Try.f14 false true false false) := by
  refine returnsInHanded_of_change (C := Try.checked) own started (by kernel_rfl) Try.func14
    (ChangeSpec.witness6 (enc := enc) (C := Try.checked) false ⟨#[], #[.float .f64 0], []⟩ 8 (by kernel_rfl) (by kernel_rfl) (by kernel_rfl) (by kernel_rfl)) ?_
  intro W base args ds gs before hval0 hW hcnd _
  have hval : ∀ (j : Nat) t v, Try.f14.params[j]? = some t → args[j]? = some v → Value.okWide Try.prog W .any base t v := hval0
  have hW' := hW
  obtain ⟨p, q, hA0, hV, rfl, hfz, hnd⟩ := hW
  have hA : DataW.TrodAll enc Try.prog W 0 (fun _ => true) true Try.f14.params.toList args.toList ds p := hA0
  rw [Try.params14] at hA hval
  obtain ⟨v0, vs0, d0, ds0, p0, q0, hargs, rfl, rfl, h0, r0⟩ := trodAll_cons hA
  obtain ⟨rfl, rfl, rfl⟩ := trodAll_nil r0
  obtain rfl : args = #[v0] := by cases args; simp_all
  obtain ⟨rfl, rfl⟩ := trodVars_none hV
  obtain ⟨a0, rfl, rfl, rfl, w0⟩ := open_float Try.underlying22 (hval 0 22 v0 rfl rfl) h0
  clear hA0 hval0
  simp only [List.append_nil] at hW'
  refine (walk a0 (lt_of_wf w0) W).mono fun e W' ⟨he, hg⟩ => ?_
  subst he
  exact ⟨_, rfl, post_of_same (pa := []) (pv := []) hW' (fun _ _ _ => (trodAll_cons_mk (shut_bool Try.underlying4 _) trodAll_mk0)) (fun sp _ => (trodAll_cons_mk (shut_float Try.underlying22 w0) trodAll_mk0)) (fun _ _ => rfl) rfl
    (hg.frame _) hg.2.1 (ok_one (by kernel_rfl) rfl (okWide_bool_mk Try.underlying4 _))⟩

theorem over : Rows.fnCeilValueRow.holds Try.pinned (OpenSpec.ofChange Rows.fnCeilValueSpec) :=
  OpenClaim.holds_of_wide 14 Try.f14 rfl rfl rfl rfl rfl rfl rfl ⟨rfl, rfl, rfl, rfl, rfl⟩ rfl rfl rfl rfl rfl (by kernel_rfl) Try.func14 (by kernel_rfl)
    (of_decide_eq_true (by kernel_rfl)) (by unfold Func.isWrapper; first | (rw [if_pos (by decide +kernel)]; kernel_rfl) | (rw [if_neg (by decide +kernel)]; exact ⟨rfl, rfl⟩))
    (fun os started H enc _ => lifted os started H enc)

theorem proved : Rows.FnCeilValueSaid := over
#print axioms proved
end Go.Proofs.Ytnjcfcnmibadcaa.fnCeilValue
