/- FnModValue returns true for every input. No condition. -/
import Derived.Test.YtnegjfdaijnadaaRows
import Derived.Test.YtnegjfdaijnadaaMds
import Derived.ProofKit
import Derived.OpenShut
namespace Go.Proofs.Ytnegjfdaijnadaa.fnModValue
open Go.ChangeShapes Go.WideShapes Go.ChangeAt Go.RowKit Flt Ieee
theorem own : ownKnob Try.prog.godebug = none := by kernel_rfl
theorem lt_of_wf {b : Nat} (h : (Lit.float .f64 b).wf = true) : b < 2 ^ 64 := by simpa [Lit.wf] using h
theorem bounds_of_wf {n : Int} (h : (Lit.int .i64 n).wf = true) : -9223372036854775808 ≤ n ∧ n ≤ 9223372036854775807 := by simpa [Lit.wf, IntKind.min, IntKind.max, IntKind.signed, IntKind.bits] using h
theorem ord_le' {a b : Nat} (ha : Fnt a) (hb : Fnt b) (h : val a ≤ val b) : FloatKind.f64.format.order a b = some .lt ∨ FloatKind.f64.format.order a b = some .eq := by
  rcases Int.lt_or_eq_of_le h with c | c
  · exact .inl (ord_lt ha hb c)
  · exact .inr (ord_eq ha hb c)
theorem facts {x y : Nat} (hx : Fnt x) (hy : Fnt y) (hx0 : x < 2 ^ 64) (hy0 : y < 2 ^ 64) (hz : rg y ≠ 0) :
    FloatKind.f64.format.order (lsize (modW x y)) (lsize y) = some .lt ∧ (FloatKind.f64.format.order (lsize (modW x y)) (lsize x) = some .lt ∨ FloatKind.f64.format.order (lsize (modW x y)) (lsize x) = some .eq) ∧
    ((FloatKind.f64.format.order (lsize x) (lsize y) = some .eq ∨ FloatKind.f64.format.order (lsize x) (lsize y) = some .gt) ∨ (FloatKind.f64.format.order (lsize x) (lsize y) = some .lt ∧ modW x y = x)) := by
  obtain ⟨h1, h2, h3, h4⟩ := modW_spec hx hz
  have hp : 0 < mag (rg y) := Nat.pos_of_ne_zero (fun q => hz (mag_eq_zero.1 q))
  refine ⟨ord_lt (lsize_fin h4 h1) (lsize_fin hy0 hy) ?_, ord_le' (lsize_fin h4 h1) (lsize_fin hx0 hx) ?_, ?_⟩
  · rw [lsize_val h4, lsize_val hy0, h3]; exact Int.ofNat_lt.2 (Nat.mod_lt _ hp)
  · rw [lsize_val h4, lsize_val hx0, h3]; exact Int.ofNat_le.2 (Nat.mod_le _ _)
  · rcases Nat.lt_or_ge (mag (rg x)) (mag (rg y)) with c | c
    · refine .inr ⟨ord_lt (lsize_fin hx0 hx) (lsize_fin hy0 hy) (by rw [lsize_val hx0, lsize_val hy0]; exact Int.ofNat_lt.2 c), ?_⟩
      rw [modW_eq (r := rg x) (Nat.mod_eq_of_lt c).symm, wd_sg_rg hx0]
    · left
      by_cases e : mag (rg x) = mag (rg y)
      · exact .inl (ord_eq (lsize_fin hx0 hx) (lsize_fin hy0 hy) (by rw [lsize_val hx0, lsize_val hy0, e]))
      · exact .inr (ord_gt (lsize_fin hx0 hx) (lsize_fin hy0 hy) (by rw [lsize_val hx0, lsize_val hy0]; exact Int.ofNat_lt.2 (by omega)))
set_option maxHeartbeats 4000000 in
theorem walk (a0 a1 : Nat) (h0 : a0 < 2 ^ 64) (h1 : a1 < 2 ^ 64) (w : World) :
    Calls Try.prog 9 #[.float .f64 a0, .float .f64 a1] w fun e w' => e = .returned (.bool true) ∧ Grown w w' := by
  by_cases hx : Fnt a0
  · have hnx := fin_nan hx
    by_cases hny : NaN a1
    · have hM := fun u => Mod_none a0 a1 u h0 (.inr (.inr hny))
      have e1 := ord_nan_left a1 hny
      have e2 := ord_nan_left 9221120237041090561 nan_lit
      go_enter Try.func9, Try.ntmps9
      go_wp2_with (first | (go_at_call 18; refine (hM _).mono ?_; rintro e w' ⟨rfl, rfl⟩) | (go_at_call 17; refine (IsFinite_yes _ _ hx).mono ?_; rintro e w' ⟨rfl, rfl⟩))
      go_ret
      exact ⟨rfl, Grown.refl _⟩
    · have e1 := ord_self hny
      by_cases hz : rg a1 = 0
      · have hM := fun u => Mod_none a0 a1 u h0 (.inl hz)
        have e2 := ord_nan_left 9221120237041090561 nan_lit
        have e3 := ord_zero hz
        go_enter Try.func9, Try.ntmps9
        go_wp2_with (first | (go_at_call 18; refine (hM _).mono ?_; rintro e w' ⟨rfl, rfl⟩) | (go_at_call 17; refine (IsFinite_yes _ _ hx).mono ?_; rintro e w' ⟨rfl, rfl⟩))
        go_ret
        exact ⟨rfl, Grown.refl _⟩
      · have e3 := ord_nonzero hny hz
        rcases kinds a1 with hy | hy | hy
        · have hM := fun u => Mod_fin a0 a1 u hx hy h0 h1 hz
          obtain ⟨f1, f2, f3⟩ := facts hx hy h0 h1 hz
          obtain ⟨g1, g2, g3, g4⟩ := modW_spec hx hz
          have hS1 := fun u => Signbit_num (modW a0 a1) u (fin_nan g1)
          rw [g2] at hS1
          have hS2 := fun u => Signbit_num a0 u hnx
          have f3' : FloatKind.f64.format.order (lsize a0) (lsize a1) = some .eq ∨ FloatKind.f64.format.order (lsize a0) (lsize a1) = some .gt ∨ (FloatKind.f64.format.order (lsize a0) (lsize a1) = some .lt ∧ ∀ u, Calls Try.prog 21 #[.float .f64 (modW a0 a1), .float .f64 a0] u fun e w' => e = .returned (.bool true) ∧ u = w') := by
            rcases f3 with (q | q) | ⟨q1, q2⟩
            · exact .inl q
            · exact .inr (.inl q)
            · refine .inr (.inr ⟨q1, fun u => ?_⟩)
              rw [q2]; exact same_self a0 u hnx
          generalize modW a0 a1 = r at *
          generalize sg a0 = s at *
          clear f3 g2 g3 hz
          cases s <;> rcases e3 with e3 | e3 <;> rcases f2 with f2 | f2 <;> rcases f3' with f3 | f3 | ⟨f3, hsm⟩
          all_goals
            go_enter Try.func9, Try.ntmps9
            go_wp2_with (first | (go_at_call 18; refine (hM _).mono ?_; rintro e w' ⟨rfl, rfl⟩) | (go_at_call 17; refine (IsFinite_yes _ _ hx).mono ?_; rintro e w' ⟨rfl, rfl⟩) | (go_at_call 22; (with_reducible refine (lsize_pos _ _ (by assumption)).mono ?_); rintro e w' ⟨rfl, rfl⟩) | (go_at_call 16; (with_reducible refine (hS1 _).mono ?_); rintro e w' ⟨rfl, rfl⟩) | (go_at_call 16; (with_reducible refine (hS2 _).mono ?_); rintro e w' ⟨rfl, rfl⟩) | (go_at_call 21; (with_reducible refine (hsm _).mono ?_); rintro e w' ⟨rfl, rfl⟩))
            go_ret
            exact ⟨rfl, Grown.refl _⟩
        · have hM := fun u => Mod_inf a0 a1 u hx hy h0 h1
          obtain ⟨i1, i2⟩ := lsize_isInf h1 hy
          have f1 : FloatKind.f64.format.order (lsize a0) (lsize a1) = some .lt := by rw [ord_fin_inf (lsize_fin h0 hx) i1, i2, if_neg Bool.false_ne_true]
          have f2 := ord_self (fin_nan (lsize_fin h0 hx))
          have hS2 := fun u => Signbit_num a0 u hnx
          clear hz
          generalize sg a0 = s at hS2
          cases s <;> rcases e3 with e3 | e3
          all_goals
            go_enter Try.func9, Try.ntmps9
            go_wp2_with (first | (go_at_call 18; refine (hM _).mono ?_; rintro e w' ⟨rfl, rfl⟩) | (go_at_call 17; refine (IsFinite_yes _ _ hx).mono ?_; rintro e w' ⟨rfl, rfl⟩) | (go_at_call 22; (with_reducible refine (lsize_pos _ _ hx).mono ?_); rintro e w' ⟨rfl, rfl⟩) | (go_at_call 22; (with_reducible refine (lsize_inf _ _ hy).mono ?_); rintro e w' ⟨rfl, rfl⟩) | (go_at_call 16; (with_reducible refine (hS2 _).mono ?_); rintro e w' ⟨rfl, rfl⟩) | (go_at_call 21; (with_reducible refine (same_self _ _ hnx).mono ?_); rintro e w' ⟨rfl, rfl⟩))
            go_ret
            exact ⟨rfl, Grown.refl _⟩
        · exact absurd hy hny
  · have hM := fun u => Mod_none a0 a1 u h0 (.inr (.inl hx))
    have e2 := ord_nan_left 9221120237041090561 nan_lit
    go_enter Try.func9, Try.ntmps9
    go_wp2_with (first | (go_at_call 18; refine (hM _).mono ?_; rintro e w' ⟨rfl, rfl⟩) | (go_at_call 17; refine (IsFinite_not _ _ hx).mono ?_; rintro e w' ⟨rfl, rfl⟩))
    go_ret
    exact ⟨rfl, (Grown.refl _).drew⟩

set_option maxRecDepth 100000 in
theorem lifted (os : Os) (started : os.Started) (H : Type) (enc : TypeId × Value → H) :
    ReturnsInHanded {} Try.checked os 9 .any (Rows.fnModValueSpec.pre6 enc Try.prog Try.f9 Rows.fnModValueRow.domain false) (Rows.fnModValueSpec.post enc Try.prog Try.f9 false true false false) := by
  refine returnsInHanded_of_change (C := Try.checked) own started (by kernel_rfl) Try.func9
    (ChangeSpec.witness6 (enc := enc) (C := Try.checked) false ⟨#[], #[.float .f64 0, .float .f64 0], []⟩ 8 (by kernel_rfl) (by kernel_rfl) (by kernel_rfl) (by kernel_rfl)) ?_
  intro W base args ds gs before hval0 hW hcnd _
  have hval : ∀ (j : Nat) t v, Try.f9.params[j]? = some t → args[j]? = some v → Value.okWide Try.prog W .any base t v := hval0
  have hW' := hW
  obtain ⟨p, q, hA0, hV, rfl, hfz, hnd⟩ := hW
  have hA : DataW.TrodAll enc Try.prog W 0 (fun _ => true) true Try.f9.params.toList args.toList ds p := hA0
  rw [Try.params9] at hA hval
  obtain ⟨v0, vs0, d0, ds0, p0, q0, hargs, rfl, rfl, h0, r0⟩ := trodAll_cons hA
  obtain ⟨v1, vs1, d1, ds1, p1, q1, rfl, rfl, rfl, h1, r1⟩ := trodAll_cons r0
  obtain ⟨rfl, rfl, rfl⟩ := trodAll_nil r1
  obtain rfl : args = #[v0, v1] := by cases args; simp_all
  obtain ⟨rfl, rfl⟩ := trodVars_none hV
  obtain ⟨a0, rfl, rfl, rfl, w0⟩ := open_float Try.underlying22 (hval 0 22 v0 rfl rfl) h0
  obtain ⟨a1, rfl, rfl, rfl, w1⟩ := open_float Try.underlying22 (hval 1 22 v1 rfl rfl) h1
  clear hA0 hval0
  simp only [List.append_nil] at hW'
  refine (walk a0 a1 (lt_of_wf w0) (lt_of_wf w1) W).mono fun e W' ⟨he, hg⟩ => ?_
  subst he
  exact ⟨_, rfl, post_of_same (pa := []) (pv := []) hW' (fun _ _ _ => (trodAll_cons_mk (shut_bool Try.underlying4 _) trodAll_mk0)) (fun sp _ => (trodAll_cons_mk (shut_float Try.underlying22 w0) (trodAll_cons_mk (shut_float Try.underlying22 w1) trodAll_mk0))) (fun _ _ => rfl) rfl
    (hg.frame _) hg.2.1 (ok_one (by kernel_rfl) rfl (okWide_bool_mk Try.underlying4 _))⟩

theorem over : Rows.fnModValueRow.holds Try.pinned (OpenSpec.ofChange Rows.fnModValueSpec) :=
  OpenClaim.holds_of_wide 9 Try.f9 rfl rfl rfl rfl rfl rfl rfl ⟨rfl, rfl, rfl, rfl, rfl⟩ rfl rfl rfl rfl rfl (by kernel_rfl) Try.func9 (by kernel_rfl)
    (of_decide_eq_true (by kernel_rfl)) (by unfold Func.isWrapper; first | (rw [if_pos (by decide +kernel)]; kernel_rfl) | (rw [if_neg (by decide +kernel)]; exact ⟨rfl, rfl⟩))
    (fun os started H enc _ => lifted os started H enc)

theorem proved : Rows.FnModValueSaid := over
#print axioms proved
end Go.Proofs.Ytnegjfdaijnadaa.fnModValue
