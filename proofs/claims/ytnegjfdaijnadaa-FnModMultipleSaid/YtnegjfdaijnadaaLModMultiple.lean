/- FnModMultiple returns true for every input. No condition. -/
import Derived.Test.YtnegjfdaijnadaaRows
import Derived.Test.YtnegjfdaijnadaaMmw
import Derived.ProofKit
import Derived.OpenShut
namespace Go.Proofs.Ytnegjfdaijnadaa.fnModMultiple
open Go.ChangeShapes Go.WideShapes Go.ChangeAt Go.RowKit Flt Ieee
theorem own : ownKnob Try.prog.godebug = none := by kernel_rfl
theorem lt_of_wf {b : Nat} (h : (Lit.float .f64 b).wf = true) : b < 2 ^ 64 := by simpa [Lit.wf] using h
theorem bounds_of_wf {n : Int} (h : (Lit.int .i64 n).wf = true) : -9223372036854775808 ≤ n ∧ n ≤ 9223372036854775807 := by simpa [Lit.wf, IntKind.min, IntKind.max, IntKind.signed, IntKind.bits] using h
theorem post_below {H : Type} {enc : TypeId × Value → H} {P : Program} {f : Func} {s : ChangeSpec} {apart fresh handsOn again : Bool} {W W' : World} {args : Array Value} {v : Value} {ds gs : List (DataW H)}
    (hW : DataW.Whole enc P f.params.toList s.vars apart W args.toList ds gs [])
    (hres : ∀ (b : Nat) (sp : Nat → Bool) (hd : Bool), DataW.TrodAll enc P W' b sp hd f.resultTypes.toList (v.resultList f.resultTypes.size) (s.fn H (ds ++ gs)).results [])
    (hargs : ∀ sp : Nat → Bool, DataW.TrodAll enc P W' 0 sp true f.params.toList args.toList (s.fn H (ds ++ gs)).args [])
    (hvars : ∀ sp : Nat → Bool, DataW.TrodVars enc P W' sp s.vars (s.fn H (ds ++ gs)).vars [])
    (hb : Below W.heap.size W W')
    (hok : ∀ (j : Nat) (t : TypeId) (r : Value), f.resultTypes[j]? = some t → (v.resultList f.resultTypes.size)[j]? = some r → Value.okWide P W' .any 0 t r) :
    s.post enc P f apart fresh handsOn again W args v W' := by
  refine ⟨ds, gs, [], [], [], [], hW, hres _ _ _, hargs _, hvars _, hb.frame _, fun _ => ?_⟩
  refine ⟨hok, _, _, ([] ++ []) ++ [], ⟨[] ++ [], [], trodAll_append (hargs _) (hres _ _ _), hvars _, rfl, ?_, ?_⟩, ?_⟩
  · intro b off hp; simp at hp
  · intro _; simp
  · intro p hp _; simp at hp
theorem final {n y z p s : Nat} (hz : Fnt z) (hp : Fnt p) (yz : rg y ≠ 0) (hs : s = near (sg p && sg z) (val p + val z)) (hsf : Fnt s) (vp : val p = (mag (rg p) : Int)) (vz : val z = (mag (rg z) : Int)) (hzy : mag (rg z) < mag (rg y)) (hnp : n * mag (rg y) = mag (rg p))
    (h1 : FloatKind.f64.format.order (near (sg s && !sg p) (val s - val p)) z = some .eq) (h2 : FloatKind.f64.format.order (near (sg s && !sg z) (val s - val z)) p = some .eq) : FloatKind.f64.format.order (modW s y) z = some .eq := by
  obtain ⟨e1, e2⟩ := sum_exact hp hz hs hsf vp vz h1 h2
  obtain ⟨g1, g2, g3, g4⟩ := modW_spec hsf yz
  have hm : mag (rg (modW s y)) = mag (rg z) := by
    rw [g3, e1, ← hnp, Nat.mul_comm, Nat.mul_add_mod, Nat.mod_eq_of_lt hzy]
  refine ord_eq g1 hz ?_
  rw [vz]
  refine val_of_sg g2 hm ?_
  intro e
  rw [val_eq e, if_pos rfl] at e2
  omega
theorem walk (a0 : Int) (a1 a2 : Nat) (_h0 : -9223372036854775808 ≤ a0 ∧ a0 ≤ 9223372036854775807) (h1 : a1 < 2 ^ 64) (_h2 : a2 < 2 ^ 64) (w : World) :
    Calls Try.prog 8 #[.int .i64 a0, .float .f64 a1, .float .f64 a2] w fun e w' => e = .returned (.bool true) ∧ Below w.heap.size w w' := by
  obtain ⟨p, w1, hmul, hb, hsome, hnone⟩ := run_mul_any (floatOfInt .f64 a0) a1 w
  by_cases c1 : a0 < 0
  · exact mm_early a0 a1 a2 p w w1 hmul hb (.inl c1)
  by_cases c2 : 9007199254740992 < a0
  · exact mm_early a0 a1 a2 p w w1 hmul hb (.inr (.inl c2))
  rcases Bool.eq_false_or_eq_true (FloatKind.f64.format.order a1 0 == some .gt) with c3 | c3
  rotate_left
  · exact mm_early a0 a1 a2 p w w1 hmul hb (.inr (.inr (.inl c3)))
  rcases Bool.eq_false_or_eq_true (FloatKind.f64.format.order a2 0 == some .gt || FloatKind.f64.format.order a2 0 == some .eq) with c4 | c4
  rotate_left
  · exact mm_early a0 a1 a2 p w w1 hmul hb (.inr (.inr (.inr (.inl c4))))
  rcases Bool.eq_false_or_eq_true (FloatKind.f64.format.order a2 a1 == some .lt) with c5 | c5
  rotate_left
  · exact mm_early a0 a1 a2 p w w1 hmul hb (.inr (.inr (.inr (.inr c5))))
  have ny : ¬ NaN a1 := fun q => by rw [ord_nan_left 0 q] at c3; exact Bool.noConfusion c3
  have hzf : Fnt a2 := by
    rcases kinds a2 with k | k | k
    · exact k
    · exfalso
      have hs : sg a2 = false := by
        cases e : sg a2
        · rfl
        · rw [ord_inf_fin k fin_zero, e] at c4; exact absurd c4 (by decide)
      rcases kinds a1 with q | q | q
      · rw [ord_inf_fin k q, hs] at c5; exact absurd c5 (by decide)
      · rw [ord_inf_inf k q, hs] at c5
        cases e : sg a1
        · rw [e] at c5; exact absurd c5 (by decide)
        · rw [e] at c5; exact absurd c5 (by decide)
      · exact ny q
    · rw [ord_nan_left 0 k] at c4; exact absurd c4 (by decide)
  obtain ⟨n, hn⟩ : ∃ n : Nat, a0 = (n : Int) := ⟨a0.toNat, by omega⟩
  have hn53 : n ≤ 2 ^ 53 := by omega
  have iN := ofInt_int (n := a0) (by omega)
  rw [show decide (a0 < 0) = false from decide_eq_false c1, show a0.natAbs = n by omega] at iN
  obtain ⟨x64, xf, xs, xm⟩ := iN
  rcases kinds a1 with hyf | hyi | hyn
  rotate_left
  · have hnp : ¬ Fnt p := by
      rcases mul_inf xf hyi with q | ⟨r, q1, q2⟩
      · exact nan_fin (hnone q)
      · rw [(hsome r q1).1]; exact q2
    obtain ⟨s, w2, hadd, hns, hb2⟩ := run_add_notfin w1 hnp hzf
    exact mm_inf a0 a1 a2 p s w w1 w2 c1 c2 c3 c4 c5 hmul hb hadd hns hb2
  · exact absurd hyn ny
  have py := b_gt hyf fin_zero
  rw [c3, val_zero] at py
  have py' := of_decide_eq_true py.symm
  have sy := sg_of_pos py'
  have yz : rg a1 ≠ 0 := fun q => by have := val_eq_zero.2 q; omega
  have pz := b_ge hzf fin_zero
  rw [c4, val_zero] at pz
  have pz' := of_decide_eq_true pz.symm
  have zy := b_lt hzf hyf
  rw [c5] at zy
  have zy' := of_decide_eq_true zy.symm
  have vy : val a1 = (mag (rg a1) : Int) := by rw [val_eq sy]; rfl
  have vz : val a2 = (mag (rg a2) : Int) := by
    refine val_of_sg rfl rfl ?_
    intro e
    rw [val_eq e, if_pos rfl] at pz'
    omega
  have hzy : mag (rg a2) < mag (rg a1) := by rw [vy, vz] at zy'; omega
  have hml := mul_rd (N := n * mag (rg a1)) xf hyf (by rw [xm, Nat.mul_right_comm])
  rw [xs, sy] at hml
  obtain ⟨hp, hw⟩ := hsome _ hml
  have hp : p = wd false (min (rd (n * mag (rg a1))) INF) := hp
  subst hw
  by_cases hk : rd (n * mag (rg a1)) < INF
  rotate_left
  · have hnp : ¬ Fnt p := by rw [hp, Nat.min_eq_right (Nat.le_of_not_lt hk)]; exact inf_fin (inf_wd _)
    obtain ⟨s, w2, hadd, hns, hb2⟩ := run_add_notfin w1 hnp hzf
    exact mm_inf a0 a1 a2 p s w1 w1 w2 c1 c2 c3 c4 c5 hmul hb hadd hns hb2
  rw [Nat.min_eq_left (Nat.le_of_lt hk)] at hp
  obtain ⟨q1, q2, q3, q4⟩ := word_spec false hk
  rw [← hp] at q1 q2 q3 q4
  have vp : val p = (mag (rg p) : Int) := by rw [val_eq q4]; rfl
  have hadd := add_fin q1 hzf
  by_cases hsf : Fnt (near (sg p && sg a2) (val p + val a2))
  rotate_left
  · exact mm_inf a0 a1 a2 p _ w1 w1 w1 c1 c2 c3 c4 c5 hmul hb (fun t => run_add w1 t hadd) hsf (Below.refl _ _)
  have hml' : double.mul (floatOfInt .f64 a0) a1 = some p := by rw [hml, hp, Nat.min_eq_left (Nat.le_of_lt hk)]; rfl
  refine mm_rest a0 a1 a2 p _ _ _ (modW (near (sg p && sg a2) (val p + val a2)) a1) w1 c1 c2 c3 c4 c5 hml' hadd hsf (sub_fin hsf q1) (sub_fin hsf hzf) ?_ (fun u => Mod_fin _ a1 u hsf hyf (near_lt _ _) h1 yz)
  intro u
  have hfin : n * mag (rg a1) = mag (rg p) → FloatKind.f64.format.order (near (sg (near (sg p && sg a2) (val p + val a2)) && !sg p) (val (near (sg p && sg a2) (val p + val a2)) - val p)) a2 = some .eq → FloatKind.f64.format.order (near (sg (near (sg p && sg a2) (val p + val a2)) && !sg a2) (val (near (sg p && sg a2) (val p + val a2)) - val a2)) p = some .eq → FloatKind.f64.format.order (modW (near (sg p && sg a2) (val p + val a2)) a1) a2 = some .eq :=
    fun k1 k2 k3 => final hzf q1 yz rfl hsf vp vz hzy k1 k2 k3
  by_cases hn0 : n = 0
  · subst hn0
    have xz : rg (floatOfInt .f64 a0) = 0 := mag_eq_zero.1 (by rw [xm, Nat.zero_mul])
    have pz0 : rg (negW p) = 0 := by rw [rg_negW q2, q3, Nat.zero_mul, rd_zero]
    refine (fma_zero _ a1 (negW p) u hyf xs sy xz pz0).mono ?_
    rintro e w' ⟨rfl, rfl⟩
    exact ⟨0, rfl, .inl (ord_zero rfl), fun _ => hfin (by rw [q3, Nat.zero_mul, rd_zero, mag_zero]), Below.refl _ _⟩
  · have hpos : n * mag (rg a1) ≠ 0 := Nat.mul_ne_zero hn0 (Nat.ne_of_gt (mag_pos yz))
    have xz : rg (floatOfInt .f64 a0) ≠ 0 := by
      intro e
      rw [e, mag_zero] at xm
      have := Nat.mul_pos (Nat.pos_of_ne_zero hn0) U_pos
      omega
    have pz0 : rg (negW p) ≠ 0 := by rw [rg_negW q2, q3]; exact Nat.ne_of_gt (rd_pos hpos)
    refine (fma_num _ a1 (negW p) n u xf hyf ((fin_negW q2).2 q1) x64 h1 (negW_lt q2) xs sy (by rw [sg_negW q2, q4]; rfl) xz yz pz0 xm).mono ?_
    rintro e w' ⟨r, rfl, k1, k2, k3⟩
    rw [rg_negW q2] at k1 k2
    by_cases c : n * mag (rg a1) = mag (rg p)
    · have hr := k1 c
      subst hr
      exact ⟨0, rfl, .inl (ord_zero rfl), fun _ => hfin c, k3⟩
    · obtain ⟨z1, z2, z3⟩ := k2 c
      have ho := ord_nonzero z2 z3
      refine ⟨r, rfl, .inr ho, fun e => ?_, k3⟩
      rcases ho with o | o <;> rw [o] at e <;> cases e

set_option maxRecDepth 100000 in
theorem lifted (os : Os) (started : os.Started) (H : Type) (enc : TypeId × Value → H) :
    ReturnsInHanded {} Try.checked os 8 .any (Rows.fnModMultipleSpec.pre6 enc Try.prog Try.f8 Rows.fnModMultipleRow.domain false) (Rows.fnModMultipleSpec.post enc Try.prog Try.f8 false true false false) := by
  refine returnsInHanded_of_change (C := Try.checked) own started (by kernel_rfl) Try.func8
    (ChangeSpec.witness6 (enc := enc) (C := Try.checked) false ⟨#[], #[.int .i64 0, .float .f64 0, .float .f64 0], []⟩ 8 (by kernel_rfl) (by kernel_rfl) (by kernel_rfl) (by kernel_rfl)) ?_
  intro W base args ds gs before hval0 hW hcnd _
  have hval : ∀ (j : Nat) t v, Try.f8.params[j]? = some t → args[j]? = some v → Value.okWide Try.prog W .any base t v := hval0
  have hW' := hW
  obtain ⟨p, q, hA0, hV, rfl, hfz, hnd⟩ := hW
  have hA : DataW.TrodAll enc Try.prog W 0 (fun _ => true) true Try.f8.params.toList args.toList ds p := hA0
  rw [Try.params8] at hA hval
  obtain ⟨v0, vs0, d0, ds0, p0, q0, hargs, rfl, rfl, h0, r0⟩ := trodAll_cons hA
  obtain ⟨v1, vs1, d1, ds1, p1, q1, rfl, rfl, rfl, h1, r1⟩ := trodAll_cons r0
  obtain ⟨v2, vs2, d2, ds2, p2, q2, rfl, rfl, rfl, h2, r2⟩ := trodAll_cons r1
  obtain ⟨rfl, rfl, rfl⟩ := trodAll_nil r2
  obtain rfl : args = #[v0, v1, v2] := by cases args; simp_all
  obtain ⟨rfl, rfl⟩ := trodVars_none hV
  obtain ⟨a0, rfl, rfl, rfl, w0⟩ := open_int Try.underlying2 (hval 0 2 v0 rfl rfl) h0
  obtain ⟨a1, rfl, rfl, rfl, w1⟩ := open_float Try.underlying22 (hval 1 22 v1 rfl rfl) h1
  obtain ⟨a2, rfl, rfl, rfl, w2⟩ := open_float Try.underlying22 (hval 2 22 v2 rfl rfl) h2
  clear hA0 hval0
  simp only [List.append_nil] at hW'
  refine (walk a0 a1 a2 (bounds_of_wf w0) (lt_of_wf w1) (lt_of_wf w2) W).mono fun e W' ⟨he, hg⟩ => ?_
  subst he
  exact ⟨_, rfl, post_below hW' (fun _ _ _ => (trodAll_cons_mk (shut_bool Try.underlying4 _) trodAll_mk0)) (fun sp => (trodAll_cons_mk (shut_int Try.underlying2 w0) (trodAll_cons_mk (shut_float Try.underlying22 w1) (trodAll_cons_mk (shut_float Try.underlying22 w2) trodAll_mk0)))) (fun _ => rfl) hg
    (ok_one (by kernel_rfl) rfl (okWide_bool_mk Try.underlying4 _))⟩

theorem over : Rows.fnModMultipleRow.holds Try.pinned (OpenSpec.ofChange Rows.fnModMultipleSpec) :=
  OpenClaim.holds_of_wide 8 Try.f8 rfl rfl rfl rfl rfl rfl rfl ⟨rfl, rfl, rfl, rfl, rfl⟩ rfl rfl rfl rfl rfl (by kernel_rfl) Try.func8 (by kernel_rfl)
    (of_decide_eq_true (by kernel_rfl)) (by unfold Func.isWrapper; first | (rw [if_pos (by decide +kernel)]; kernel_rfl) | (rw [if_neg (by decide +kernel)]; exact ⟨rfl, rfl⟩))
    (fun os started H enc _ => lifted os started H enc)

theorem proved : Rows.FnModMultipleSaid := over
#print axioms proved
end Go.Proofs.Ytnegjfdaijnadaa.fnModMultiple
