/- FnRemainderMod returns true for every input. No condition. -/
import Derived.Test.YtnegjfdaijnadaaRows
import Derived.Test.YtnegjfdaijnadaaRml
import Derived.ProofKit
import Derived.OpenShut
namespace Go.Proofs.Ytnegjfdaijnadaa.fnRemainderMod
open Go.ChangeShapes Go.WideShapes Go.ChangeAt Go.RowKit Flt Ieee
theorem own : ownKnob Try.prog.godebug = none := by kernel_rfl
theorem lt_of_wf {b : Nat} (h : (Lit.float .f64 b).wf = true) : b < 2 ^ 64 := by simpa [Lit.wf] using h
theorem bounds_of_wf {n : Int} (h : (Lit.int .i64 n).wf = true) : -9223372036854775808 ≤ n ∧ n ≤ 9223372036854775807 := by simpa [Lit.wf, IntKind.min, IntKind.max, IntKind.signed, IntKind.bits] using h
theorem facts {x y : Nat} (hx : Fnt x) (hy : Fnt y) (px : 0 ≤ val x) (py : 0 < val y) :
    ∃ (d e : Nat) (c1 c2 : Bool), double.sub y (modW x y) = some d ∧ double.sub (modW x y) y = some e ∧
    (FloatKind.f64.format.order (modW x y) d == some .lt) = c1 ∧ (FloatKind.f64.format.order (modW x y) d == some .gt) = c2 ∧
    (c1 = true → (FloatKind.f64.format.order (remW x y) (modW x y) == some .eq) = true ∧ ((FloatKind.f64.format.order (modW x y) 0 == some .eq) = true → (FloatKind.f64.format.order x 0 == some .eq) = false → (FloatKind.f64.format.order x y == some .gt || FloatKind.f64.format.order x y == some .eq) = true)) ∧
    (c1 = false → c2 = true → (FloatKind.f64.format.order (remW x y) e == some .eq) = true) ∧
    (c1 = false → c2 = false → (FloatKind.f64.format.order (remW x y) (modW x y) == some .eq) = false → (FloatKind.f64.format.order (remW x y) e == some .eq) = true) := by
  have hz : rg y ≠ 0 := fun q => by have := val_eq_zero.2 q; omega
  have hp := mag_pos hz
  obtain ⟨h1, h2, h3, h4, h5⟩ := remW_spec hx hz
  obtain ⟨g1, g2, g3, g4⟩ := modW_spec hx hz
  have sy : sg y = false := sg_of_pos py
  have vy : val y = (mag (rg y) : Int) := by rw [val_eq sy]; rfl
  have sx0 : sg x = true → mag (rg x) = 0 := by
    intro e
    apply Classical.byContradiction
    intro k
    have := val_neg_iff.2 ⟨e, fun q => k (mag_eq_zero.2 q)⟩
    omega
  have vx : val x = (mag (rg x) : Int) := val_of_sg rfl rfl sx0
  have vm : val (modW x y) = ((mag (rg x) % mag (rg y) : Nat) : Int) := val_of_sg g2 g3 (fun e => by rw [sx0 e, Nat.zero_mod])
  have vr : val (remW x y) = remZ (mag (rg x)) (mag (rg y)) := by
    rw [h2]
    cases hs : sg x
    · rfl
    · have e0 : remZ (mag (rg x)) (mag (rg y)) = 0 := by rw [sx0 hs, remZ_small hp (by omega)]; rfl
      rw [e0]; rfl
  have hm := Nat.mod_lt (mag (rg x)) hp
  have D := diff_cmp (sg y && !sg (modW x y)) (y := rg y) (x := rg (modW x y)) hy g1 hz
  rw [g3] at D
  have s1 := sub_fin hy g1
  rw [vy, vm] at s1
  obtain ⟨r, hr, -, -⟩ := mod_rung (rg x) (rg y) hx hz
  -- the second difference, exact where it is asked for
  have hcm := b_eq h1 g1
  rw [vr, vm] at hcm
  by_cases c : 2 * (mag (rg x) % mag (rg y)) < mag (rg y)
  · -- r = m
    have er : remZ (mag (rg x)) (mag (rg y)) = ((mag (rg x) % mag (rg y) : Nat) : Int) := by unfold remZ; rw [if_pos (.inl c)]
    rw [er, decide_eq_true rfl] at hcm
    have hle := D.2.1 (Nat.le_of_lt c)
    refine ⟨_, _, _, _, s1, sub_fin g1 hy, rfl, rfl, fun _ => ⟨hcm, fun k1 k2 => ?_⟩, fun _ k => ?_, fun _ _ k => ?_⟩
    · rw [b_eq g1 fin_zero, val_zero, vm] at k1
      rw [b_eq hx fin_zero, val_zero, vx] at k2
      rw [b_ge hx hy, vx, vy]
      have k1' := of_decide_eq_true k1
      have k2' := of_decide_eq_false k2
      refine decide_eq_true (Int.ofNat_le.2 ?_)
      rcases Nat.lt_or_ge (mag (rg x)) (mag (rg y)) with q | q
      · rw [Nat.mod_eq_of_lt q] at k1'; exact absurd k1' k2'
      · exact q
    · rw [b_gt g1 D.1, vm] at k
      have := of_decide_eq_true k
      omega
    · rw [hcm] at k; exact Bool.noConfusion k
  · -- the difference is exact
    obtain ⟨u, hu⟩ := diff_rung (r := rg y) (t := r) (by rw [hr]; exact Nat.le_of_lt hm) (by rw [hr]; omega)
    rw [hr] at hu
    have hui : u < INF := Nat.lt_of_le_of_lt (mag_le_iff.1 (by rw [hu]; exact Nat.sub_le _ _)) hy
    obtain ⟨e, t1, t2, t3, -, -⟩ := sub_exact g1 hy (t := u) (by rw [vm, vy, hu]; omega) hui
    rw [vm, vy] at t3
    have hce := b_eq h1 t2
    rw [vr, t3] at hce
    have hd : val (near (sg y && !sg (modW x y)) ((mag (rg y) : Int) - ((mag (rg x) % mag (rg y) : Nat) : Int))) = (mag (rg y) : Int) - ((mag (rg x) % mag (rg y) : Nat) : Int) :=
      (near_val _ (r := u) (by rw [hu]; omega) hui).2.1
    refine ⟨_, _, _, _, s1, t1, rfl, rfl, fun k => ?_, fun _ k => ?_, fun _ _ k => ?_⟩
    · rw [b_lt g1 D.1, vm, hd] at k
      have := of_decide_eq_true k
      omega
    · rw [b_gt g1 D.1, vm, hd] at k
      have k' := of_decide_eq_true k
      rw [hce]
      refine decide_eq_true ?_
      unfold remZ
      rw [if_neg (by omega)]
    · rw [hcm] at k
      have k' := of_decide_eq_false k
      rw [hce]
      refine decide_eq_true ?_
      unfold remZ at k' ⊢
      split
      · rename_i q; rw [if_pos q] at k'; exact absurd rfl k'
      · rfl
set_option maxHeartbeats 4000000 in
theorem walk (a0 a1 : Nat) (h0 : a0 < 2 ^ 64) (h1 : a1 < 2 ^ 64) (w : World) :
    Calls Try.prog 4 #[.float .f64 a0, .float .f64 a1] w fun e w' => e = .returned (.bool true) ∧ Grown w w' := by
  rcases Bool.eq_false_or_eq_true (FloatKind.f64.format.order a0 0 == some .gt || FloatKind.f64.format.order a0 0 == some .eq) with p1 | p1
  rotate_left
  · go_enter Try.func4, Try.ntmps4
    go_wp2
    go_ret
    exact ⟨rfl, Grown.refl _⟩
  rcases Bool.eq_false_or_eq_true (FloatKind.f64.format.order a1 0 == some .gt) with p2 | p2
  rotate_left
  · go_enter Try.func4, Try.ntmps4
    go_wp2
    go_ret
    exact ⟨rfl, Grown.refl _⟩
  by_cases hx : Fnt a0
  rotate_left
  · go_enter Try.func4, Try.ntmps4
    go_wp2_with (go_at_call 17; refine (IsFinite_not _ _ hx).mono ?_; rintro e w' ⟨rfl, rfl⟩)
    go_ret
    exact ⟨rfl, (Grown.refl _).drew⟩
  have hFx := fun u => IsFinite_yes a0 u hx
  by_cases hy : Fnt a1
  rotate_left
  · have hFy := fun u => IsFinite_not a1 u hy
    clear hx hy
    go_enter Try.func4, Try.ntmps4
    go_wp2_with (first | (go_at_call 17; (with_reducible refine (hFx _).mono ?_); rintro e w' ⟨rfl, rfl⟩) | (go_at_call 17; (with_reducible refine (hFy _).mono ?_); rintro e w' ⟨rfl, rfl⟩))
    go_ret
    exact ⟨rfl, (Grown.refl _).drew⟩
  have hFy := fun u => IsFinite_yes a1 u hy
  have px := b_ge hx fin_zero
  rw [p1, val_zero] at px
  have py := b_gt hy fin_zero
  rw [p2, val_zero] at py
  have px' := of_decide_eq_true px.symm
  have py' := of_decide_eq_true py.symm
  have hz : rg a1 ≠ 0 := fun q => by have := val_eq_zero.2 q; omega
  have hM := fun u => Mod_fin a0 a1 u hx hy h0 h1 hz
  have hR := fun u => Remainder_fin a0 a1 u hx hy h0 h1 hz
  obtain ⟨d, e, c1, c2, f1, f2, f3, f4, f5, f6, f7⟩ := facts hx hy px' py'
  have o1 : FloatKind.f64.format.order (modW a0 a1) 0 = some .eq ∨ FloatKind.f64.format.order (modW a0 a1) 0 = some .lt ∨ FloatKind.f64.format.order (modW a0 a1) 0 = some .gt := by
    by_cases q : rg (modW a0 a1) = 0
    · exact .inl (ord_zero q)
    · exact .inr (ord_nonzero (fin_nan (modW_spec hx hz).1) q)
  generalize remW a0 a1 = r at *
  generalize modW a0 a1 = m at *
  clear hz px py px' py' hx hy h0 h1
  cases c1
  · cases c2
    · clear f5 f6
      have f7 := f7 rfl rfl
      generalize hq : (FloatKind.f64.format.order r m == some .eq) = q at f7
      cases q
      · have f7 := f7 rfl
        go_enter Try.func4, Try.ntmps4
        go_wp2_with (first | (go_at_call 17; (with_reducible refine (hFx _).mono ?_); rintro e w' ⟨rfl, rfl⟩) | (go_at_call 17; (with_reducible refine (hFy _).mono ?_); rintro e w' ⟨rfl, rfl⟩) | (go_at_call 18; (with_reducible refine (hM _).mono ?_); rintro e w' ⟨rfl, rfl⟩) | (go_at_call 15; (with_reducible refine (hR _).mono ?_); rintro e w' ⟨rfl, rfl⟩))
        go_ret
        exact ⟨rfl, Grown.refl _⟩
      · clear f7
        go_enter Try.func4, Try.ntmps4
        go_wp2_with (first | (go_at_call 17; (with_reducible refine (hFx _).mono ?_); rintro e w' ⟨rfl, rfl⟩) | (go_at_call 17; (with_reducible refine (hFy _).mono ?_); rintro e w' ⟨rfl, rfl⟩) | (go_at_call 18; (with_reducible refine (hM _).mono ?_); rintro e w' ⟨rfl, rfl⟩) | (go_at_call 15; (with_reducible refine (hR _).mono ?_); rintro e w' ⟨rfl, rfl⟩))
        go_ret
        exact ⟨rfl, Grown.refl _⟩
    · have f6 := f6 rfl rfl
      clear f5 f7
      go_enter Try.func4, Try.ntmps4
      go_wp2_with (first | (go_at_call 17; (with_reducible refine (hFx _).mono ?_); rintro e w' ⟨rfl, rfl⟩) | (go_at_call 17; (with_reducible refine (hFy _).mono ?_); rintro e w' ⟨rfl, rfl⟩) | (go_at_call 18; (with_reducible refine (hM _).mono ?_); rintro e w' ⟨rfl, rfl⟩) | (go_at_call 15; (with_reducible refine (hR _).mono ?_); rintro e w' ⟨rfl, rfl⟩))
      go_ret
      exact ⟨rfl, Grown.refl _⟩
  · obtain ⟨f8, f9⟩ := f5 rfl
    clear f5 f6 f7
    have o2 : FloatKind.f64.format.order a0 0 = some .eq ∨ FloatKind.f64.format.order a0 0 = some .gt := by
      rcases Bool.or_eq_true_iff.1 p1 with q | q
      · exact .inr (eq_of_beq q)
      · exact .inl (eq_of_beq q)
    clear p1
    rcases o1 with o1 | o1 | o1 <;> rcases o2 with o2 | o2
    all_goals
      rw [o1, o2] at f9
      try have f9 := f9 rfl rfl
      go_enter Try.func4, Try.ntmps4
      go_wp2_with (first | (go_at_call 17; (with_reducible refine (hFx _).mono ?_); rintro e w' ⟨rfl, rfl⟩) | (go_at_call 17; (with_reducible refine (hFy _).mono ?_); rintro e w' ⟨rfl, rfl⟩) | (go_at_call 18; (with_reducible refine (hM _).mono ?_); rintro e w' ⟨rfl, rfl⟩) | (go_at_call 15; (with_reducible refine (hR _).mono ?_); rintro e w' ⟨rfl, rfl⟩))
      go_ret
      exact ⟨rfl, Grown.refl _⟩

set_option maxRecDepth 100000 in
theorem lifted (os : Os) (started : os.Started) (H : Type) (enc : TypeId × Value → H) :
    ReturnsInHanded {} Try.checked os 4 .any (Rows.fnRemainderModSpec.pre6 enc Try.prog Try.f4 Rows.fnRemainderModRow.domain false) (Rows.fnRemainderModSpec.post enc Try.prog Try.f4 false true false false) := by
  refine returnsInHanded_of_change (C := Try.checked) own started (by kernel_rfl) Try.func4
    (ChangeSpec.witness6 (enc := enc) (C := Try.checked) false ⟨#[], #[.float .f64 0, .float .f64 0], []⟩ 8 (by kernel_rfl) (by kernel_rfl) (by kernel_rfl) (by kernel_rfl)) ?_
  intro W base args ds gs before hval0 hW hcnd _
  have hval : ∀ (j : Nat) t v, Try.f4.params[j]? = some t → args[j]? = some v → Value.okWide Try.prog W .any base t v := hval0
  have hW' := hW
  obtain ⟨p, q, hA0, hV, rfl, hfz, hnd⟩ := hW
  have hA : DataW.TrodAll enc Try.prog W 0 (fun _ => true) true Try.f4.params.toList args.toList ds p := hA0
  rw [Try.params4] at hA hval
  obtain ⟨v0, vs0, d0, ds0, p0, q0, hargs, rfl, rfl, h0, r0⟩ := trodAll_cons hA
  obtain ⟨v1, vs1, d1, ds1, p1, q1, rfl, rfl, rfl, h1, r1⟩ := trodAll_cons r0
  obtain ⟨rfl, rfl, rfl⟩ := trodAll_nil r1
  obtain rfl : args = #[v0, v1] := by cases args; simp_all
  obtain ⟨rfl, rfl⟩ := trodVars_none hV
  obtain ⟨a0, rfl, rfl, rfl, w0⟩ := open_float Try.underlying22 (hval 0 22 v0 rfl rfl) h0
  obtain ⟨a1, rfl, rfl, rfl, w1⟩ := open_float Try.underlying22 (hval 1 22 v1 rfl rfl) h1
  clear hA0 hval0
  simp only [List.append_nil] at hW'
  refine (walk a0 a1 (lt_of_wf w0) (lt_of_wf w1) W).mono fun e W' ⟨he, hg⟩ => ?_
  subst he
  exact ⟨_, rfl, post_of_same (pa := []) (pv := []) hW' (fun _ _ _ => (trodAll_cons_mk (shut_bool Try.underlying4 _) trodAll_mk0)) (fun sp _ => (trodAll_cons_mk (shut_float Try.underlying22 w0) (trodAll_cons_mk (shut_float Try.underlying22 w1) trodAll_mk0))) (fun _ _ => rfl) rfl
    (hg.frame _) hg.2.1 (ok_one (by kernel_rfl) rfl (okWide_bool_mk Try.underlying4 _))⟩

theorem over : Rows.fnRemainderModRow.holds Try.pinned (OpenSpec.ofChange Rows.fnRemainderModSpec) :=
  OpenClaim.holds_of_wide 4 Try.f4 rfl rfl rfl rfl rfl rfl rfl ⟨rfl, rfl, rfl, rfl, rfl⟩ rfl rfl rfl rfl rfl (by kernel_rfl) Try.func4 (by kernel_rfl)
    (of_decide_eq_true (by kernel_rfl)) (by unfold Func.isWrapper; first | (rw [if_pos (by decide +kernel)]; kernel_rfl) | (rw [if_neg (by decide +kernel)]; exact ⟨rfl, rfl⟩))
    (fun os started H enc _ => lifted os started H enc)

theorem proved : Rows.FnRemainderModSaid := over
#print axioms proved
end Go.Proofs.Ytnegjfdaijnadaa.fnRemainderMod
