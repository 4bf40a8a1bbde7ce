/- FnRoundingsAgain returns true for every input. No condition. -/
import Derived.Test.YtaabgcncacdnoaaRows
import Derived.Test.YtaabgcncacdnoaaRnk
import Derived.ProofKit
import Derived.OpenShut
namespace Go.Proofs.Ytaabgcncacdnoaa.fnRoundingsAgain
open Go.ChangeShapes Go.WideShapes Go.ChangeAt Go.RowKit Flt Ieee
theorem own : ownKnob Try.prog.godebug = none := by kernel_rfl
theorem lt_of_wf {b : Nat} (h : (Lit.float .f64 b).wf = true) : b < 2 ^ 64 := by simpa [Lit.wf] using h
theorem bounds_of_wf {n : Int} (h : (Lit.int .i64 n).wf = true) : -9223372036854775808 ≤ n ∧ n ≤ 9223372036854775807 := by simpa [Lit.wf, IntKind.min, IntKind.max, IntKind.signed, IntKind.bits] using h
theorem again_same {x k r j t : Nat} (h0 : x < 2 ^ 64) (hr : Rnd x k r) (ht : Rnd r j t) (u : World) : Calls Try.prog 17 #[.float .f64 t, .float .f64 r] u fun e w' => e = .returned (.bool true) ∧ u = w' := by
  rcases kinds x with h | h | h
  · have e := hr.2.1 h
    obtain ⟨K, h1, -⟩ := roundW_int h h0 k
    rw [← e] at h1
    have e2 := ht.2.1 h1.2.1
    rw [roundW_of_mod h1.2.1 h1.1 j (isInt_mod h1)] at e2
    rw [e2]
    exact same_self r u (fin_nan h1.2.1)
  · have e := hr.2.2.1 h
    rw [e] at ht ⊢
    rw [ht.2.2.1 h]
    exact same_self x u (inf_nan h)
  · have e := hr.2.2.2 h
    exact same_nan t r u (ht.2.2.2 e) e
/-- What the last test of a round meets: at most 1 away, or not finite. -/
theorem away {x k r : Nat} (h0 : x < 2 ^ 64) (hr : Rnd x k r) : (Fnt x ∧ ∃ g, double.sub r x = some g ∧ Fnt g ∧ (FloatKind.f64.format.order (lsize g) 4607182418800017408 = some .lt ∨ FloatKind.f64.format.order (lsize g) 4607182418800017408 = some .eq)) ∨ ¬ Fnt x := by
  by_cases h : Fnt x
  · left
    rw [hr.2.1 h]
    exact ⟨h, sub_le_one h h0 k⟩
  · exact .inr h
set_option maxRecDepth 100000 in
set_option maxHeartbeats 4000000 in
theorem walk (a0 : Nat) (h0 : a0 < 2 ^ 64) (w : World) :
    Calls Try.prog 10 #[.float .f64 a0] w fun e w' => e = .returned (.bool true) ∧ Grown w w' := by
  have hL := rounded_any a0 w h0
  go_enter Try.func10, Try.ntmps10
  go_wp2_with (go_at_call 24; refine hL.mono ?_; rintro e w' ⟨a, L, rfl, hl, hr, hk⟩; have HR := Lib.hid hr; clear hr)
  clear hL
  go_loopw [11] (fun i wr => ∃ k : Nat, k ≤ 5 ∧ i = .int .i64 k ∧ Kept w wr ∧ Lists wr a L) (fun i _ => 5 - (intOf i).toNat)
  case atStart => exact ⟨0, by omega, rfl, hk, hl⟩
  case round =>
    clear hk hl
    obtain ⟨k, hk5, rfl, hkr, hlr⟩ := hrel
    by_cases hlt : k < 5
    · have hc := hlr.2 k hlt
      have hrk := HR.out k hlt
      have HL := Lib.hid (rfl : L k = L k)
      generalize hLk : L k = r at hc hrk
      have HLk := Lib.hid hLk
      clear hLk HL
      obtain ⟨wo, rfl⟩ : ∃ wo : World, wo = wr := ⟨_, rfl⟩
      have hA := rounded_any r wo hrk.1
      go_wp2_with (go_at_call 24; refine hA.mono ?_; rintro e w' ⟨a2, L2, rfl, hl2, hr2, hk2⟩; have HR2 := Lib.hid hr2; clear hr2)
      clear hA hc
      go_loopw [21] (fun i wr => ∃ j : Nat, j ≤ 5 ∧ i = .int .i64 j ∧ Kept w wr ∧ Lists wr a L ∧ Lists wr a2 L2) (fun i _ => 5 - (intOf i).toNat)
      case atStart => exact ⟨0, by omega, rfl, hkr.trans hk2, hlr.kept hk2, hl2⟩
      case round =>
        clear hkr hlr hl2 hk2
        obtain ⟨j, hj5, rfl, hkr, hlr, hl2⟩ := hrel
        have hc := hlr.2 k hlt
        rw [HLk.out] at hc
        by_cases hjt : j < 5
        · have hcj := hl2.2 j hjt
          have hS := again_same h0 hrk (HR2.out j hjt)
          generalize L2 j = t at hcj hS
          have i1 : (0 : Int) ≤ (k : Int) := by omega
          have i2 : (k : Int) < 5 := by omega
          have i3 : (0 : Int) ≤ (j : Int) := by omega
          have i4 : (j : Int) < 5 := by omega
          go_wp2_with fail
          go_quiet ((go_at_call 17; exact quiet_eq (hS _)))
          go_wp2_with fail
          go_roundw
          case rel => exact ⟨j + 1, by omega, by go_num, hkr.drewN _, hlr.kept ((Kept.refl _).drewN _), hl2.kept ((Kept.refl _).drewN _)⟩
          case measure => simp [intOf]; omega
        · obtain rfl : j = 5 := by omega
          clear hjt hj5
          rcases away h0 hrk with ⟨hf, g, hg, hgf, hgo | hgo⟩ | hf
          · go_wp2_with (first | (go_at_call 23; refine (IsFinite_yes _ _ hf).mono ?_; rintro e w' ⟨rfl, rfl⟩) | (go_at_call 19; refine (lsize_pos _ _ hgf).mono ?_; rintro e w' ⟨rfl, rfl⟩))
            go_roundw
            case rel => exact ⟨k + 1, by omega, by go_num, hkr, hlr⟩
            case measure => simp [intOf]; omega
          · go_wp2_with (first | (go_at_call 23; refine (IsFinite_yes _ _ hf).mono ?_; rintro e w' ⟨rfl, rfl⟩) | (go_at_call 19; refine (lsize_pos _ _ hgf).mono ?_; rintro e w' ⟨rfl, rfl⟩))
            go_roundw
            case rel => exact ⟨k + 1, by omega, by go_num, hkr, hlr⟩
            case measure => simp [intOf]; omega
          · go_wp2_with (go_at_call 23; refine (IsFinite_not _ _ hf).mono ?_; rintro e w' ⟨rfl, rfl⟩)
            go_roundw
            case rel => exact ⟨k + 1, by omega, by go_num, hkr.drewN 1, hlr.kept ((Kept.refl _).drewN 1)⟩
            case measure => simp [intOf]; omega
    · obtain rfl : k = 5 := by omega
      clear hlt hk5
      go_wp2
      go_ret
      exact ⟨rfl, hkr.1⟩

set_option maxRecDepth 100000 in
theorem lifted (os : Os) (started : os.Started) (H : Type) (enc : TypeId × Value → H) :
    ReturnsInHanded {} Try.checked os 10 .any (Rows.fnRoundingsAgainSpec.pre6 enc Try.prog Try.f10 Rows.fnRoundingsAgainRow.domain false) (Rows.fnRoundingsAgainSpec.post enc Try.prog Try.f10 false true false false) := by
  refine returnsInHanded_of_change (C := Try.checked) own started (by kernel_rfl) Try.func10
    (ChangeSpec.witness6 (enc := enc) (C := Try.checked) false ⟨#[], #[.float .f64 0], []⟩ 8 (by kernel_rfl) (by kernel_rfl) (by kernel_rfl) (by kernel_rfl)) ?_
  intro W base args ds gs before hval0 hW hcnd _
  have hval : ∀ (j : Nat) t v, Try.f10.params[j]? = some t → args[j]? = some v → Value.okWide Try.prog W .any base t v := hval0
  have hW' := hW
  obtain ⟨p, q, hA0, hV, rfl, hfz, hnd⟩ := hW
  have hA : DataW.TrodAll enc Try.prog W 0 (fun _ => true) true Try.f10.params.toList args.toList ds p := hA0
  rw [Try.params10] at hA hval
  obtain ⟨v0, vs0, d0, ds0, p0, q0, hargs, rfl, rfl, h0, r0⟩ := trodAll_cons hA
  obtain ⟨rfl, rfl, rfl⟩ := trodAll_nil r0
  obtain rfl : args = #[v0] := by cases args; simp_all
  obtain ⟨rfl, rfl⟩ := trodVars_none hV
  obtain ⟨a0, rfl, rfl, rfl, w0⟩ := open_float Try.underlying22 (hval 0 22 v0 rfl rfl) h0
  clear hA0 hval0
  simp only [List.append_nil] at hW'
  refine (walk a0 (lt_of_wf w0) W).mono fun e W' ⟨he, hg⟩ => ?_
  subst he
  exact ⟨_, rfl, post_of_same (pa := []) (pv := []) hW' (fun _ _ _ => (trodAll_cons_mk (shut_bool Try.underlying4 _) trodAll_mk0)) (fun sp _ => (trodAll_cons_mk (shut_float Try.underlying22 w0) trodAll_mk0)) (fun _ _ => rfl) rfl
    (hg.frame _) hg.2.1 (ok_one (by kernel_rfl) rfl (okWide_bool_mk Try.underlying4 _))⟩

theorem over : Rows.fnRoundingsAgainRow.holds Try.pinned (OpenSpec.ofChange Rows.fnRoundingsAgainSpec) :=
  OpenClaim.holds_of_wide 10 Try.f10 rfl rfl rfl rfl rfl rfl rfl ⟨rfl, rfl, rfl, rfl, rfl⟩ rfl rfl rfl rfl rfl (by kernel_rfl) Try.func10 (by kernel_rfl)
    (of_decide_eq_true (by kernel_rfl)) (by unfold Func.isWrapper; first | (rw [if_pos (by decide +kernel)]; kernel_rfl) | (rw [if_neg (by decide +kernel)]; exact ⟨rfl, rfl⟩))
    (fun os started H enc _ => lifted os started H enc)

theorem proved : Rows.FnRoundingsAgainSaid := over
#print axioms proved
end Go.Proofs.Ytaabgcncacdnoaa.fnRoundingsAgain
