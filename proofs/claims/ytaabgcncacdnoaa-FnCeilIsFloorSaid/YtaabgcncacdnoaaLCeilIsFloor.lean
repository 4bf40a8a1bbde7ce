/- FnCeilIsFloor returns true for every input. No condition. -/
import Derived.Test.YtaabgcncacdnoaaRows
import Derived.Test.YtaabgcncacdnoaaFrc
import Derived.ProofKit
import Derived.OpenShut
namespace Go.Proofs.Ytaabgcncacdnoaa.fnCeilIsFloor
open Go.ChangeShapes Go.WideShapes Go.ChangeAt Go.RowKit Flt Ieee
theorem own : ownKnob Try.prog.godebug = none := by kernel_rfl
theorem lt_of_wf {b : Nat} (h : (Lit.float .f64 b).wf = true) : b < 2 ^ 64 := by simpa [Lit.wf] using h
theorem bounds_of_wf {n : Int} (h : (Lit.int .i64 n).wf = true) : -9223372036854775808 ≤ n ∧ n ≤ 9223372036854775807 := by simpa [Lit.wf, IntKind.min, IntKind.max, IntKind.signed, IntKind.bits] using h
theorem opp {x : Nat} (h : Fnt x) (h0 : x < 2 ^ 64) : negW (intW .down (negW x)) = intW .up x := by
  have h1 := intW_int .down ((fin_negW h0).2 h) (negW_lt h0)
  have h2 := isInt_neg h1
  rw [K_down, sg_negW h0, rg_negW h0, Bool.not_not] at h2
  have h3 := intW_int .up h h0
  rw [K_up] at h3
  have e : (if (!sg x) = true ∧ mag (rg x) % U ≠ 0 then 1 else 0) = (if sg x = false ∧ mag (rg x) % U ≠ 0 then 1 else 0) := by
    cases sg x <;> simp
  rw [e] at h2
  exact isInt_eq h2 h3
theorem walk (a0 : Nat) (h0 : a0 < 2 ^ 64) (w : World) :
    Calls Try.prog 4 #[.float .f64 a0] w fun e w' => e = .returned (.bool true) ∧ Grown w w' := by
  rcases kinds a0 with h | h | h
  · have hn := fin_nan (intW_int .up h h0).2.1
    have hS := fun u => same_self (intW .up a0) u hn
    have hC := fun u => Ceil_fin a0 u h
    have hF := fun u => Floor_fin (negW a0) u ((fin_negW h0).2 h)
    rw [← opp h h0] at hS hC
    go_enter Try.func4, Try.ntmps4
    go_wp2_with (first | (go_at_call 15; refine (hC _).mono ?_; rintro e w' ⟨rfl, rfl⟩) | (go_at_call 18; refine (hF _).mono ?_; rintro e w' ⟨rfl, rfl⟩) | (go_at_call 17; refine (hS _).mono ?_; rintro e w' ⟨rfl, rfl⟩))
    go_ret
    exact ⟨rfl, Grown.refl _⟩
  · have hn := inf_nan h
    have hS := fun u => same_self a0 u hn
    have hC := fun u => Ceil_inf a0 u h h0
    have hF := fun u => Floor_inf (negW a0) u ((inf_negW h0).2 h) (negW_lt h0)
    have e := negW_negW a0
    go_enter Try.func4, Try.ntmps4
    go_wp2_with (first | (go_at_call 15; refine (hC _).mono ?_; rintro e w' ⟨rfl, rfl⟩) | (go_at_call 18; refine (hF _).mono ?_; rintro e w' ⟨rfl, rfl⟩) | (go_at_call 17; refine (hS _).mono ?_; rintro e w' ⟨rfl, rfl⟩))
    go_ret
    exact ⟨rfl, Grown.refl _⟩
  · have hF := fun u => Floor_nan (negW a0) u ((nan_negW h0).2 h) (negW_lt h0)
    go_enter Try.func4, Try.ntmps4
    go_wp2_with (first | (go_at_call 15; refine (Ceil_nan a0 _ h h0).mono ?_; rintro e w' ⟨r, n, h1, h2, rfl, rfl⟩) | (go_at_call 18; refine (hF _).mono ?_; rintro e w' ⟨r2, n2, h3, h4, rfl, rfl⟩; have h5 := (nan_negW h4).2 h3) | (go_at_call 17; refine (same_nan _ _ _ (by assumption) (by assumption)).mono ?_; rintro e w' ⟨rfl, rfl⟩))
    go_ret
    exact ⟨rfl, grown_drewN (grown_drewN (Grown.refl _) n) n2⟩

set_option maxRecDepth 100000 in
theorem lifted (os : Os) (started : os.Started) (H : Type) (enc : TypeId × Value → H) :
    ReturnsInHanded {} Try.checked os 4 .any (Rows.fnCeilIsFloorSpec.pre6 enc Try.prog Try.f4 Rows.fnCeilIsFloorRow.domain false) (Rows.fnCeilIsFloorSpec.post enc Try.prog Try.f4 false true false false) := by
  refine returnsInHanded_of_change (C := Try.checked) own started (by kernel_rfl) Try.func4
    (ChangeSpec.witness6 (enc := enc) (C := Try.checked) false ⟨#[], #[.float .f64 0], []⟩ 8 (by kernel_rfl) (by kernel_rfl) (by kernel_rfl) (by kernel_rfl)) ?_
  intro W base args ds gs before hval0 hW hcnd _
  have hval : ∀ (j : Nat) t v, Try.f4.params[j]? = some t → args[j]? = some v → Value.okWide Try.prog W .any base t v := hval0
  have hW' := hW
  obtain ⟨p, q, hA0, hV, rfl, hfz, hnd⟩ := hW
  have hA : DataW.TrodAll enc Try.prog W 0 (fun _ => true) true Try.f4.params.toList args.toList ds p := hA0
  rw [Try.params4] at hA hval
  obtain ⟨v0, vs0, d0, ds0, p0, q0, hargs, rfl, rfl, h0, r0⟩ := trodAll_cons hA
  obtain ⟨rfl, rfl, rfl⟩ := trodAll_nil r0
  obtain rfl : args = #[v0] := by cases args; simp_all
  obtain ⟨rfl, rfl⟩ := trodVars_none hV
  obtain ⟨a0, rfl, rfl, rfl, w0⟩ := open_float Try.underlying22 (hval 0 22 v0 rfl rfl) h0
  clear hA0 hval0
  simp only [List.append_nil] at hW'
  refine (walk a0 (lt_of_wf w0) W).mono fun e W' ⟨he, hg⟩ => ?_
  subst he
  exact ⟨_, rfl, post_of_same (pa := []) (pv := []) hW' (fun _ _ _ => (trodAll_cons_mk (shut_bool Try.underlying4 _) trodAll_mk0)) (fun sp _ => (trodAll_cons_mk (shut_float Try.underlying22 w0) trodAll_mk0)) (fun _ _ => rfl) rfl
    (hg.frame _) hg.2.1 (ok_one (by kernel_rfl) rfl (okWide_bool_mk Try.underlying4 _))⟩

theorem over : Rows.fnCeilIsFloorRow.holds Try.pinned (OpenSpec.ofChange Rows.fnCeilIsFloorSpec) :=
  OpenClaim.holds_of_wide 4 Try.f4 rfl rfl rfl rfl rfl rfl rfl ⟨rfl, rfl, rfl, rfl, rfl⟩ rfl rfl rfl rfl rfl (by kernel_rfl) Try.func4 (by kernel_rfl)
    (of_decide_eq_true (by kernel_rfl)) (by unfold Func.isWrapper; first | (rw [if_pos (by decide +kernel)]; kernel_rfl) | (rw [if_neg (by decide +kernel)]; exact ⟨rfl, rfl⟩))
    (fun os started H enc _ => lifted os started H enc)

theorem proved : Rows.FnCeilIsFloorSaid := over
#print axioms proved
end Go.Proofs.Ytaabgcncacdnoaa.fnCeilIsFloor
