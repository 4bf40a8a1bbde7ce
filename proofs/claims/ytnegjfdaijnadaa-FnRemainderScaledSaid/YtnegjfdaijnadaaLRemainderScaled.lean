/- FnRemainderScaled returns true for every input. No condition. -/
import Derived.Test.YtnegjfdaijnadaaRows
import Derived.Test.YtnegjfdaijnadaaScd
import Derived.ProofKit
import Derived.OpenShut
namespace Go.Proofs.Ytnegjfdaijnadaa.fnRemainderScaled
open Go.ChangeShapes Go.WideShapes Go.ChangeAt Go.RowKit Flt Ieee
theorem own : ownKnob Try.prog.godebug = none := by kernel_rfl
theorem lt_of_wf {b : Nat} (h : (Lit.float .f64 b).wf = true) : b < 2 ^ 64 := by simpa [Lit.wf] using h
theorem bounds_of_wf {n : Int} (h : (Lit.int .i64 n).wf = true) : -9223372036854775808 ≤ n ∧ n ≤ 9223372036854775807 := by simpa [Lit.wf, IntKind.min, IntKind.max, IntKind.signed, IntKind.bits] using h
/-- '2 * size(x)' against 'size(y)'. -/
theorem twice_cmp {x y : Nat} (hx0 : x < 2 ^ 64) (hy0 : y < 2 ^ 64) (hx : Fnt x) (hy : Fnt y) : ∃ d, double.mul 4611686018427387904 (lsize x) = some d ∧ (FloatKind.f64.format.order d (lsize y) == some .gt || FloatKind.f64.format.order d (lsize y) == some .eq) = decide (mag (rg y) ≤ 2 * mag (rg x)) := by
  have fx := lsize_fin hx0 hx
  have fy := lsize_fin hy0 hy
  have vx := lsize_val hx0
  have hm : mag (rg (lsize x)) = mag (rg x) := by rw [← natAbs_val, vx, Int.natAbs_natCast]
  obtain ⟨t, ht⟩ := double_rung (rg x)
  have hmul := mul_min (t := t) fin_two fx (by rw [mag_two, hm, ht, Nat.mul_comm (mag (rg x)) 2, Nat.mul_right_comm])
  refine ⟨_, hmul, ?_⟩
  rcases Nat.lt_or_ge t INF with c | c
  · rw [Nat.min_eq_left (Nat.le_of_lt c)]
    obtain ⟨p1, p2, p3, p4⟩ := word_spec (sg 4611686018427387904 ^^ sg (lsize x)) c
    rw [b_ge p1 fy, lsize_val hy0]
    have hv : val (wd (sg 4611686018427387904 ^^ sg (lsize x)) t) = (mag t : Int) := by
      refine val_of_sg p4 (by rw [p3]) ?_
      intro e
      rw [show sg 4611686018427387904 = false from rfl, Bool.false_xor] at e
      have hz : mag (rg x) = 0 := by
        rw [val_eq e, if_pos rfl, hm] at vx
        omega
      rw [ht, hz]
    rw [hv, ht]
    exact decide_eq_decide.2 (by omega)
  · rw [Nat.min_eq_right c]
    have hs : sg (lsize x) = false := by
      cases e : sg (lsize x)
      · rfl
      · have hz : mag (rg x) = 0 := by
          rw [val_eq e, if_pos rfl, hm] at vx
          omega
        rw [hz, Nat.zero_mul] at ht
        have : t = 0 := mag_eq_zero.1 ht
        rw [this] at c
        exact absurd c (by unfold INF; omega)
    rw [show sg 4611686018427387904 = false from rfl, hs, ord_inf_fin (inf_wd _) fy, sg_inf]
    have h2 : mag (rg y) ≤ 2 * mag (rg x) := by
      have h3 := mag_le c
      have h4 := mag_lt (show rg y < INF from hy)
      rw [ht] at h3
      omega
    rw [decide_eq_true h2]
    rfl
set_option maxRecDepth 100000 in
set_option maxHeartbeats 4000000 in
theorem walk (a0 a1 : Nat) (a2 : Int) (h0 : a0 < 2 ^ 64) (h1 : a1 < 2 ^ 64) (_h2 : -9223372036854775808 ≤ a2 ∧ a2 ≤ 9223372036854775807) (w : World) :
    Calls Try.prog 5 #[.float .f64 a0, .float .f64 a1, .int .i64 a2] w fun e w' => e = .returned (.bool true) ∧ Grown w w' := by
  by_cases cx : ∃ t, Moved a0 a2 t
  rotate_left
  · have hV := fun u => Moves_none a0 a2 u h0 cx
    clear cx
    go_enter Try.func5, Try.ntmps5
    go_wp2_with (go_at_call 19; refine (hV _).mono ?_; rintro e w' ⟨rfl, hg⟩)
    go_ret
    exact ⟨rfl, hg⟩
  obtain ⟨tx, mx⟩ := cx
  have hVx := fun u => Moves_yes a0 tx a2 u h0 mx
  by_cases cy : ∃ t, Moved a1 a2 t
  rotate_left
  · have hVy := fun u => Moves_none a1 a2 u h1 cy
    clear cy mx
    go_enter Try.func5, Try.ntmps5
    go_wp2_with (first | (go_at_call 19; (with_reducible refine (hVx _).mono ?_); rintro e w' ⟨rfl, rfl⟩) | (go_at_call 19; (with_reducible refine (hVy _).mono ?_); rintro e w' ⟨rfl, hg⟩))
    go_ret
    exact ⟨rfl, hg⟩
  obtain ⟨ty, my⟩ := cy
  have hVy := fun u => Moves_yes a1 ty a2 u h1 my
  have hLx := fun u => Ldexp_moved a0 tx a2 u h0 mx
  have hLy := fun u => Ldexp_moved a1 ty a2 u h1 my
  obtain ⟨tr, hti, e1, e2, e3⟩ := rem_moved mx my
  obtain ⟨hxf, hxz, -, -, hxi, hx00, -⟩ := mx
  obtain ⟨hyf, hyz, -, -, hyi, hy00, -⟩ := my
  obtain ⟨p1, p2, p3, p4⟩ := word_spec (sg a0) hxi
  obtain ⟨q1, q2, q3, q4⟩ := word_spec (sg a1) hyi
  have hM := fun u => Remainder_fin a0 a1 u hxf hyf h0 h1 hyz
  have hR := fun u => Remainder_fin (wd (sg a0) tx) (wd (sg a1) ty) u p1 q1 p2 q2 (by rw [q3]; exact hy00)
  rw [e1] at hR
  have hLm := fun u => Ldexp_to (remW a0 a1) tr a2 u (remW_spec hxf hyz).1 (remW_spec hxf hyz).2.2.1 hti e2
  obtain ⟨r1, r2, r3, r4⟩ := word_spec (sg (remW a0 a1)) hti
  have hS := fun u => same_self (wd (sg (remW a0 a1)) tr) u (fin_nan r1)
  have hZx := fun u => lsize_pos a0 u hxf
  have hZy := fun u => lsize_pos a1 u hyf
  obtain ⟨d, hd, ho⟩ : ∃ d, double.mul 4611686018427387904 (lsize a0) = some d ∧ ((FloatKind.f64.format.order d (lsize a1) == some .gt || FloatKind.f64.format.order d (lsize a1) == some .eq) = true ∨ ((FloatKind.f64.format.order d (lsize a1) == some .gt || FloatKind.f64.format.order d (lsize a1) == some .eq) = false ∧ (FloatKind.f64.format.order (wd (sg (remW a0 a1)) tr) 0 = some .lt ∨ FloatKind.f64.format.order (wd (sg (remW a0 a1)) tr) 0 = some .gt))) := by
    obtain ⟨d, hd, hc⟩ := twice_cmp h0 h1 hxf hyf
    refine ⟨d, hd, ?_⟩
    rw [hc]
    rcases Nat.lt_or_ge (2 * mag (rg a0)) (mag (rg a1)) with c | c
    · exact .inr ⟨decide_eq_false (Nat.not_le_of_lt c), ord_nonzero (fin_nan r1) (by rw [r3]; exact e3 c)⟩
    · exact .inl (decide_eq_true c)
  clear e1 e2 e3 hxi hx00 hyi hy00 hyz hxz p1 p2 p3 p4 q1 q2 q3 q4 hti
  generalize wd (sg a0) tx = lx at *
  generalize wd (sg a1) ty = ly at *
  generalize wd (sg (remW a0 a1)) tr = r at *
  generalize remW a0 a1 = m at *
  clear r1 r2 r3 r4
  rcases ho with ho | ⟨ho, oz | oz⟩
  all_goals
    go_enter Try.func5, Try.ntmps5
    go_wp2_with (first | (go_at_call 19; (with_reducible refine (hVx _).mono ?_); rintro e w' ⟨rfl, rfl⟩) | (go_at_call 19; (with_reducible refine (hVy _).mono ?_); rintro e w' ⟨rfl, rfl⟩) | (go_at_call 20; (with_reducible refine (hLx _).mono ?_); rintro e w' ⟨rfl, rfl⟩) | (go_at_call 20; (with_reducible refine (hLy _).mono ?_); rintro e w' ⟨rfl, rfl⟩) | (go_at_call 20; (with_reducible refine (hLm _).mono ?_); rintro e w' ⟨rfl, rfl⟩) | (go_at_call 15; (with_reducible refine (hR _).mono ?_); rintro e w' ⟨rfl, rfl⟩) | (go_at_call 15; (with_reducible refine (hM _).mono ?_); rintro e w' ⟨rfl, rfl⟩) | (go_at_call 21; (with_reducible refine (hS _).mono ?_); rintro e w' ⟨rfl, rfl⟩) | (go_at_call 22; (with_reducible refine (hZx _).mono ?_); rintro e w' ⟨rfl, rfl⟩) | (go_at_call 22; (with_reducible refine (hZy _).mono ?_); rintro e w' ⟨rfl, rfl⟩))
    go_ret
    exact ⟨rfl, Grown.refl _⟩

set_option maxRecDepth 100000 in
theorem lifted (os : Os) (started : os.Started) (H : Type) (enc : TypeId × Value → H) :
    ReturnsInHanded {} Try.checked os 5 .any (Rows.fnRemainderScaledSpec.pre6 enc Try.prog Try.f5 Rows.fnRemainderScaledRow.domain false) (Rows.fnRemainderScaledSpec.post enc Try.prog Try.f5 false true false false) := by
  refine returnsInHanded_of_change (C := Try.checked) own started (by kernel_rfl) Try.func5
    (ChangeSpec.witness6 (enc := enc) (C := Try.checked) false ⟨#[], #[.float .f64 0, .float .f64 0, .int .i64 0], []⟩ 8 (by kernel_rfl) (by kernel_rfl) (by kernel_rfl) (by kernel_rfl)) ?_
  intro W base args ds gs before hval0 hW hcnd _
  have hval : ∀ (j : Nat) t v, Try.f5.params[j]? = some t → args[j]? = some v → Value.okWide Try.prog W .any base t v := hval0
  have hW' := hW
  obtain ⟨p, q, hA0, hV, rfl, hfz, hnd⟩ := hW
  have hA : DataW.TrodAll enc Try.prog W 0 (fun _ => true) true Try.f5.params.toList args.toList ds p := hA0
  rw [Try.params5] at hA hval
  obtain ⟨v0, vs0, d0, ds0, p0, q0, hargs, rfl, rfl, h0, r0⟩ := trodAll_cons hA
  obtain ⟨v1, vs1, d1, ds1, p1, q1, rfl, rfl, rfl, h1, r1⟩ := trodAll_cons r0
  obtain ⟨v2, vs2, d2, ds2, p2, q2, rfl, rfl, rfl, h2, r2⟩ := trodAll_cons r1
  obtain ⟨rfl, rfl, rfl⟩ := trodAll_nil r2
  obtain rfl : args = #[v0, v1, v2] := by cases args; simp_all
  obtain ⟨rfl, rfl⟩ := trodVars_none hV
  obtain ⟨a0, rfl, rfl, rfl, w0⟩ := open_float Try.underlying22 (hval 0 22 v0 rfl rfl) h0
  obtain ⟨a1, rfl, rfl, rfl, w1⟩ := open_float Try.underlying22 (hval 1 22 v1 rfl rfl) h1
  obtain ⟨a2, rfl, rfl, rfl, w2⟩ := open_int Try.underlying3 (hval 2 3 v2 rfl rfl) h2
  clear hA0 hval0
  simp only [List.append_nil] at hW'
  refine (walk a0 a1 a2 (lt_of_wf w0) (lt_of_wf w1) (bounds_of_wf w2) W).mono fun e W' ⟨he, hg⟩ => ?_
  subst he
  exact ⟨_, rfl, post_of_same (pa := []) (pv := []) hW' (fun _ _ _ => (trodAll_cons_mk (shut_bool Try.underlying4 _) trodAll_mk0)) (fun sp _ => (trodAll_cons_mk (shut_float Try.underlying22 w0) (trodAll_cons_mk (shut_float Try.underlying22 w1) (trodAll_cons_mk (shut_int Try.underlying3 w2) trodAll_mk0)))) (fun _ _ => rfl) rfl
    (hg.frame _) hg.2.1 (ok_one (by kernel_rfl) rfl (okWide_bool_mk Try.underlying4 _))⟩

theorem over : Rows.fnRemainderScaledRow.holds Try.pinned (OpenSpec.ofChange Rows.fnRemainderScaledSpec) :=
  OpenClaim.holds_of_wide 5 Try.f5 rfl rfl rfl rfl rfl rfl rfl ⟨rfl, rfl, rfl, rfl, rfl⟩ rfl rfl rfl rfl rfl (by kernel_rfl) Try.func5 (by kernel_rfl)
    (of_decide_eq_true (by kernel_rfl)) (by unfold Func.isWrapper; first | (rw [if_pos (by decide +kernel)]; kernel_rfl) | (rw [if_neg (by decide +kernel)]; exact ⟨rfl, rfl⟩))
    (fun os started H enc _ => lifted os started H enc)

theorem proved : Rows.FnRemainderScaledSaid := over
#print axioms proved
end Go.Proofs.Ytnegjfdaijnadaa.fnRemainderScaled
