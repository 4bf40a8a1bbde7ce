/- FnRoundsAgree returns true for every input. No condition. -/
import Derived.Test.YtaabgcncacdnoaaRows
import Derived.Test.YtaabgcncacdnoaaRnb
import Derived.Test.YtaabgcncacdnoaaEqs
import Derived.ProofKit
import Derived.OpenShut
namespace Go.Proofs.Ytaabgcncacdnoaa.fnRoundsAgree
open Go.ChangeShapes Go.WideShapes Go.ChangeAt Go.RowKit Flt Ieee
theorem own : ownKnob Try.prog.godebug = none := by kernel_rfl
theorem lt_of_wf {b : Nat} (h : (Lit.float .f64 b).wf = true) : b < 2 ^ 64 := by simpa [Lit.wf] using h
theorem bounds_of_wf {n : Int} (h : (Lit.int .i64 n).wf = true) : -9223372036854775808 ≤ n ∧ n ≤ 9223372036854775807 := by simpa [Lit.wf, IntKind.min, IntKind.max, IntKind.signed, IntKind.bits] using h
theorem sub_lsize {x : Nat} (h : Fnt x) (h0 : x < 2 ^ 64) : ∃ g, double.sub (lsize x) (lsize (intW .zero x)) = some g ∧ Fnt g ∧ val g = ((mag (rg x) % U : Nat) : Int) := by
  have hr := truncW_int h h0
  have hv : val (lsize x) - val (lsize (intW .zero x)) = ((mag (rg x) % U : Nat) : Int) := by
    rw [lsize_val h0, lsize_val hr.1, hr.2.2.2]
    have hq := qf (mag (rg x))
    omega
  obtain ⟨t, ht, hi⟩ := frac_rung (rg x)
  obtain ⟨g, hg, h1, h2, -⟩ := sub_exact (t := t) (lsize_fin h0 h) (lsize_fin hr.1 hr.2.1) (by rw [hv, ht]; exact (Int.natAbs_natCast _).symm) hi
  exact ⟨g, hg, h1, by rw [h2, hv]⟩
theorem d_zero {A : Nat} : (A : Int) - (A : Int) = 0 := by omega
theorem d_one {A B V : Nat} (h : B = A + V) : (B : Int) - (A : Int) = (V : Int) := by omega
theorem half_case {x a b : Nat} (hk : 2 * (mag (rg x) % U) = U) (ha : IsInt a (sg x) (Kaway (mag (rg x)))) (hb : IsInt b (sg x) (Kof .even (sg x) (mag (rg x)))) :
    (FloatKind.f64.format.order a 0 = some .lt ∨ FloatKind.f64.format.order a 0 = some .gt) ∧ ∃ d, double.sub (lsize a) (lsize b) = some d ∧ ((FloatKind.f64.format.order d 0 = some .gt ∧ FloatKind.f64.format.order d 4607182418800017408 = some .eq) ∨ (FloatKind.f64.format.order d 0 = some .eq ∧ FloatKind.f64.format.order d 4607182418800017408 = some .lt)) := by
  have hU := U_pos
  have e : Kaway (mag (rg x)) = mag (rg x) / U + 1 := by unfold Kaway; rw [if_pos (by omega)]
  rw [e] at ha
  refine ⟨int_nonzero ha (Nat.succ_pos _), ?_⟩
  have hvU : (U : Int).natAbs = 1 * U := by rw [Int.natAbs_natCast, Nat.one_mul]
  rw [K_even] at hb
  by_cases o : mag (rg x) / U % 2 = 1
  · rw [if_pos (.inr ⟨hk.symm, o⟩)] at hb
    have hz : val (lsize a) - val (lsize b) = 0 := by rw [lsize_val ha.1, lsize_val hb.1, ha.2.2.2, hb.2.2.2]; exact d_zero
    obtain ⟨d, hd, h1, h2, -⟩ := sub_exact (t := 0) (lsize_fin ha.1 ha.2.1) (lsize_fin hb.1 hb.2.1) (by rw [hz, mag_zero]; rfl) (by unfold INF; omega)
    rw [hz] at h2
    exact ⟨d, hd, .inr ⟨ord_eq h1 fin_zero (by rw [h2, val_zero]), ord_lt h1 fin_one (by rw [h2, val_one]; exact Int.ofNat_lt.2 hU)⟩⟩
  · rw [if_neg (by rintro (k | k); omega; exact o k.2), Nat.add_zero] at hb
    have hz : val (lsize a) - val (lsize b) = (U : Int) := by rw [lsize_val ha.1, lsize_val hb.1, ha.2.2.2, hb.2.2.2]; exact d_one (succ_U _)
    obtain ⟨t, ht, hi⟩ := int_rung (k := 1) (by omega)
    obtain ⟨d, hd, h1, h2, -⟩ := sub_exact (t := t) (lsize_fin ha.1 ha.2.1) (lsize_fin hb.1 hb.2.1) (by rw [hz, ht, hvU]) hi
    rw [hz] at h2
    exact ⟨d, hd, .inl ⟨ord_gt h1 fin_zero (by rw [h2, val_zero]; exact Int.ofNat_lt.2 hU), ord_eq h1 fin_one (by rw [h2, val_one])⟩⟩
theorem other_case {x a b : Nat} (h : Fnt x) (h0 : x < 2 ^ 64) (hk : 2 * (mag (rg x) % U) ≠ U) (ha : IsInt a (sg x) (Kaway (mag (rg x)))) (hb : IsInt b (sg x) (Kof .even (sg x) (mag (rg x)))) :
    a = b ∧ (FloatKind.f64.format.order a 0 = some .lt ∨ FloatKind.f64.format.order a 0 = some .gt ∨ (FloatKind.f64.format.order a 0 = some .eq ∧ FloatKind.f64.format.order (lsize x) 4602678819172646912 = some .lt)) := by
  have hU := U_pos
  have h2 := U_two
  have e : Kof .even (sg x) (mag (rg x)) = Kaway (mag (rg x)) := by
    rw [K_even]; unfold Kaway
    by_cases c : U < 2 * (mag (rg x) % U)
    · rw [if_pos (.inl c), if_pos (by omega)]
    · rw [if_neg (by omega), if_neg (by omega)]
  rw [e] at hb
  refine ⟨isInt_eq ha hb, ?_⟩
  by_cases c : Kaway (mag (rg x)) = 0
  · rw [c] at ha
    have hz : rg a = 0 := by
      have := ha.2.2.2
      rw [Nat.zero_mul] at this
      exact mag_eq_zero.1 this
    have hm : 2 * mag (rg x) < U := by
      unfold Kaway at c
      have hq : mag (rg x) / U = 0 := Nat.eq_zero_of_add_eq_zero_right c
      rw [hq] at c
      have hlt : mag (rg x) < U := by
        rcases Nat.lt_or_ge (mag (rg x)) U with k | k
        · exact k
        · have := Nat.div_pos k hU; omega
      rw [Nat.mod_eq_of_lt hlt] at c
      by_cases k : U ≤ 2 * mag (rg x)
      · rw [if_pos k] at c; omega
      · omega
    exact .inr (.inr ⟨ord_zero hz, ord_lt (lsize_fin h0 h) fin_half (by rw [lsize_val h0, val_half]; exact Int.ofNat_lt.2 (by omega))⟩)
  · rcases int_nonzero ha (by omega) with k | k
    · exact .inl k
    · exact .inr (.inl k)
theorem walk (a0 : Nat) (h0 : a0 < 2 ^ 64) (w : World) :
    Calls Try.prog 8 #[.float .f64 a0] w fun e w' => e = .returned (.bool true) ∧ Grown w w' := by
  rcases kinds a0 with h | h | h
  · have hr := truncW_int h h0
    have ha := awayW_int h h0
    have hb := intW_int .even h h0
    have hT := fun u => Trunc_fin a0 u h
    have hR := fun u => Round_fin a0 u h h0
    have hE := fun u => RoundToEven_fin a0 u h
    obtain ⟨g, hg, hg1, hg2⟩ := sub_lsize h h0
    have f1 := hr.2.1
    have f2 := ha.2.1
    have f3 := hb.2.1
    have hna := fin_nan f2
    have h2 := U_two
    by_cases c : 2 * (mag (rg a0) % U) = U
    · have ho : FloatKind.f64.format.order g 4602678819172646912 = some .eq := ord_eq hg1 fin_half (by rw [hg2, val_half]; exact congrArg _ (by omega))
      obtain ⟨hz, d, hd, hdo⟩ := half_case c ha hb
      generalize intW .zero a0 = t at hT hr hg f1
      generalize awayW a0 = a at hR ha f2 hna hz hd
      generalize intW .even a0 = b at hE hb f3 hd
      clear hr ha hb c hg2 h2
      rcases hz with hz | hz <;> rcases hdo with ⟨hd1, hd2⟩ | ⟨hd1, hd2⟩
      all_goals
        go_enter Try.func8, Try.ntmps8
        go_wp2_with (first | (go_at_call 20; refine (hT _).mono ?_; rintro e w' ⟨rfl, rfl⟩) | (go_at_call 21; refine (hR _).mono ?_; rintro e w' ⟨rfl, rfl⟩) | (go_at_call 22; refine (hE _).mono ?_; rintro e w' ⟨rfl, rfl⟩) | (go_at_call 19; (with_reducible refine (lsize_pos _ _ (by assumption)).mono ?_); rintro e w' ⟨rfl, rfl⟩) | (go_at_call 23; refine (IsFinite_yes _ _ h).mono ?_; rintro e w' ⟨rfl, rfl⟩))
        go_ret
        exact ⟨rfl, Grown.refl _⟩
    · have ho : FloatKind.f64.format.order g 4602678819172646912 = some .lt ∨ FloatKind.f64.format.order g 4602678819172646912 = some .gt := by
        rcases Nat.lt_or_ge (2 * (mag (rg a0) % U)) U with k | k
        · exact .inl (ord_lt hg1 fin_half (by rw [hg2, val_half]; exact Int.ofNat_lt.2 (by omega)))
        · exact .inr (ord_gt hg1 fin_half (by rw [hg2, val_half]; exact Int.ofNat_lt.2 (by omega)))
      obtain ⟨hab, hz⟩ := other_case h h0 c ha hb
      generalize intW .zero a0 = t at hT hr hg f1
      generalize awayW a0 = a at hR ha f2 hna hz hab
      generalize intW .even a0 = b at hE hb f3 hab
      clear hr ha hb c hg2 h2
      subst hab
      rcases hz with hz | hz | ⟨hz, hz2⟩ <;> rcases ho with ho | ho
      all_goals
        go_enter Try.func8, Try.ntmps8
        go_wp2_with (first | (go_at_call 20; refine (hT _).mono ?_; rintro e w' ⟨rfl, rfl⟩) | (go_at_call 21; refine (hR _).mono ?_; rintro e w' ⟨rfl, rfl⟩) | (go_at_call 22; refine (hE _).mono ?_; rintro e w' ⟨rfl, rfl⟩) | (go_at_call 19; (with_reducible refine (lsize_pos _ _ (by assumption)).mono ?_); rintro e w' ⟨rfl, rfl⟩) | (go_at_call 23; refine (IsFinite_yes _ _ h).mono ?_; rintro e w' ⟨rfl, rfl⟩) | (go_at_call 17; (with_reducible refine (same_self _ _ (by assumption)).mono ?_); rintro e w' ⟨rfl, rfl⟩))
        go_ret
        exact ⟨rfl, Grown.refl _⟩
  · have hn := inf_nan h
    go_enter Try.func8, Try.ntmps8
    go_wp2_with (first | (go_at_call 21; refine (Round_not a0 _ (inf_fin h) h0).mono ?_; rintro e w' ⟨rfl, rfl⟩) | (go_at_call 22; refine (RoundToEven_inf a0 _ h h0).mono ?_; rintro e w' ⟨rfl, rfl⟩) | (go_at_call 23; refine (IsFinite_not _ _ (inf_fin h)).mono ?_; rintro e w' ⟨rfl, rfl⟩) | (go_at_call 17; (with_reducible refine (same_self _ _ (by assumption)).mono ?_); rintro e w' ⟨rfl, rfl⟩))
    go_ret
    exact ⟨rfl, (Grown.refl _).drew⟩
  · go_enter Try.func8, Try.ntmps8
    go_wp2_with (first | (go_at_call 21; refine (Round_not a0 _ (nan_fin h) h0).mono ?_; rintro e w' ⟨rfl, rfl⟩) | (go_at_call 22; refine (RoundToEven_nan a0 _ h h0).mono ?_; rintro e w' ⟨r, n, h1, h2, rfl, rfl⟩) | (go_at_call 23; refine (IsFinite_not _ _ (nan_fin h)).mono ?_; rintro e w' ⟨rfl, rfl⟩) | (go_at_call 17; (with_reducible refine (same_nan _ _ _ (by assumption) (by assumption)).mono ?_); rintro e w' ⟨rfl, rfl⟩))
    go_ret
    exact ⟨rfl, (grown_drewN (Grown.refl _) n).drew⟩

set_option maxRecDepth 100000 in
theorem lifted (os : Os) (started : os.Started) (H : Type) (enc : TypeId × Value → H) :
    ReturnsInHanded {} Try.checked os 8 .any (Rows.fnRoundsAgreeSpec.pre6 enc Try.prog Try.f8 Rows.fnRoundsAgreeRow.domain false) (Rows.fnRoundsAgreeSpec.post enc Try.prog Try.f8 false true false false) := by
  refine returnsInHanded_of_change (C := Try.checked) own started (by kernel_rfl) Try.func8
    (ChangeSpec.witness6 (enc := enc) (C := Try.checked) false ⟨#[], #[.float .f64 0], []⟩ 8 (by kernel_rfl) (by kernel_rfl) (by kernel_rfl) (by kernel_rfl)) ?_
  intro W base args ds gs before hval0 hW hcnd _
  have hval : ∀ (j : Nat) t v, Try.f8.params[j]? = some t → args[j]? = some v → Value.okWide Try.prog W .any base t v := hval0
  have hW' := hW
  obtain ⟨p, q, hA0, hV, rfl, hfz, hnd⟩ := hW
  have hA : DataW.TrodAll enc Try.prog W 0 (fun _ => true) true Try.f8.params.toList args.toList ds p := hA0
  rw [Try.params8] at hA hval
  obtain ⟨v0, vs0, d0, ds0, p0, q0, hargs, rfl, rfl, h0, r0⟩ := trodAll_cons hA
  obtain ⟨rfl, rfl, rfl⟩ := trodAll_nil r0
  obtain rfl : args = #[v0] := by cases args; simp_all
  obtain ⟨rfl, rfl⟩ := trodVars_none hV
  obtain ⟨a0, rfl, rfl, rfl, w0⟩ := open_float Try.underlying22 (hval 0 22 v0 rfl rfl) h0
  clear hA0 hval0
  simp only [List.append_nil] at hW'
  refine (walk a0 (lt_of_wf w0) W).mono fun e W' ⟨he, hg⟩ => ?_
  subst he
  exact ⟨_, rfl, post_of_same (pa := []) (pv := []) hW' (fun _ _ _ => (trodAll_cons_mk (shut_bool Try.underlying4 _) trodAll_mk0)) (fun sp _ => (trodAll_cons_mk (shut_float Try.underlying22 w0) trodAll_mk0)) (fun _ _ => rfl) rfl
    (hg.frame _) hg.2.1 (ok_one (by kernel_rfl) rfl (okWide_bool_mk Try.underlying4 _))⟩

theorem over : Rows.fnRoundsAgreeRow.holds Try.pinned (OpenSpec.ofChange Rows.fnRoundsAgreeSpec) :=
  OpenClaim.holds_of_wide 8 Try.f8 rfl rfl rfl rfl rfl rfl rfl ⟨rfl, rfl, rfl, rfl, rfl⟩ rfl rfl rfl rfl rfl (by kernel_rfl) Try.func8 (by kernel_rfl)
    (of_decide_eq_true (by kernel_rfl)) (by unfold Func.isWrapper; first | (rw [if_pos (by decide +kernel)]; kernel_rfl) | (rw [if_neg (by decide +kernel)]; exact ⟨rfl, rfl⟩))
    (fun os started H enc _ => lifted os started H enc)

theorem proved : Rows.FnRoundsAgreeSaid := over
#print axioms proved
end Go.Proofs.Ytaabgcncacdnoaa.fnRoundsAgree
