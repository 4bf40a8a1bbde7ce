/- FnRoundingsBetween returns true for every input. No condition. -/
import Derived.Test.YtaabgcncacdnoaaRows
import Derived.Test.YtaabgcncacdnoaaRnk
import Derived.LoopTactic
import Derived.Lib.Hide
import Derived.BigQuiet
import Derived.Deep.QuietTactic
import Derived.ProofKit
import Derived.OpenShut
namespace Go.Proofs.Ytaabgcncacdnoaa.fnRoundingsBetween
open Go.ChangeShapes Go.WideShapes Go.ChangeAt Go.RowKit Flt Ieee
theorem own : ownKnob Try.prog.godebug = none := by kernel_rfl
theorem lt_of_wf {b : Nat} (h : (Lit.float .f64 b).wf = true) : b < 2 ^ 64 := by simpa [Lit.wf] using h
theorem bounds_of_wf {n : Int} (h : (Lit.int .i64 n).wf = true) : -9223372036854775808 ≤ n ∧ n ≤ 9223372036854775807 := by simpa [Lit.wf, IntKind.min, IntKind.max, IntKind.signed, IntKind.bits] using h
set_option maxRecDepth 100000 in
set_option maxHeartbeats 4000000 in
theorem walk_fin (a0 : Nat) (h0 : a0 < 2 ^ 64) (w : World) (h : Fnt a0) :
    Calls Try.prog 11 #[.float .f64 a0] w fun e w' => e = .returned (.bool true) ∧ Grown w w' := by
  have hL := rounded_any a0 w h0
  have hW : (∀ u, Calls Try.prog 25 #[.float .f64 a0] u fun e w' => e = .returned (.bool true) ∧ u = w') ∧ FloatKind.f64.format.order (roundW a0 0) a0 = some .eq ∧ FloatKind.f64.format.order (roundW a0 1) a0 = some .eq ∨ (∀ u, Calls Try.prog 25 #[.float .f64 a0] u fun e w' => e = .returned (.bool false) ∧ u = w') ∧ ∃ g, double.sub (roundW a0 1) (roundW a0 0) = some g ∧ FloatKind.f64.format.order g 4607182418800017408 = some .eq := by
    by_cases c : mag (rg a0) % U = 0
    · left
      rw [roundW_of_mod h h0 0 c, roundW_of_mod h h0 1 c]
      exact ⟨fun u => IsWhole_yes a0 u h h0 c, ord_self (fin_nan h), ord_self (fin_nan h)⟩
    · right
      exact ⟨fun u => IsWhole_no a0 u h h0 c, gap_one h h0 c⟩
  have hB : ∀ k, (FloatKind.f64.format.order (roundW a0 k) (roundW a0 0) = some .gt ∨ FloatKind.f64.format.order (roundW a0 k) (roundW a0 0) = some .eq) ∧ (FloatKind.f64.format.order (roundW a0 k) (roundW a0 1) = some .lt ∨ FloatKind.f64.format.order (roundW a0 k) (roundW a0 1) = some .eq) := fun k =>
    ⟨ord_ge (roundW_fin h h0 k).1 (roundW_fin h h0 0).1 (roundW_between h h0 k).1, ord_le (roundW_fin h h0 k).1 (roundW_fin h h0 1).1 (roundW_between h h0 k).2⟩
  have HB := Lib.hid hB
  clear hB
  rcases hW with ⟨hW, hW1, hW2⟩ | ⟨hW, g, hg, hgo⟩
  all_goals
    go_enter Try.func11, Try.ntmps11
    go_wp2_with (first | (go_at_call 24; refine hL.mono ?_; rintro e w' ⟨a, L, rfl, hl, hr, hk⟩; have hc0 := hl.2 0 (by omega); have hc1 := hl.2 1 (by omega); rw [(hr 0 (by omega)).2.1 h] at hc0; rw [(hr 1 (by omega)).2.1 h] at hc1; have HR := Lib.hid hr; clear hr) | (go_at_call 23; refine (IsFinite_yes _ _ h).mono ?_; rintro e w' ⟨rfl, rfl⟩))
    go_quiet ((go_at_call 25; exact quiet_eq (hW _)))
    go_wp2_with fail
    go_loopw [55] (fun i wr => ∃ k : Nat, k ≤ 5 ∧ i = .int .i64 k ∧ Kept w wr ∧ Lists wr a L) (fun i _ => 5 - (intOf i).toNat)
    case atStart => exact ⟨0, by omega, rfl, hk.drewN _, hl.kept ((Kept.refl _).drewN _)⟩
    case round =>
      clear hc0 hc1
      obtain ⟨k, hk5, rfl, hkr, hlr⟩ := hrel
      by_cases hlt : k < 5
      · have hc := hlr.2 k hlt
        have hc0 := hlr.2 0 (by omega)
        have hc1 := hlr.2 1 (by omega)
        rw [(HR.out k hlt).2.1 h] at hc
        rw [(HR.out 0 (by omega)).2.1 h] at hc0
        rw [(HR.out 1 (by omega)).2.1 h] at hc1
        have hb := HB.out k
        have i1 : (0 : Int) ≤ (k : Int) := by omega
        have i2 : (k : Int) < 5 := by omega
        generalize roundW a0 k = r at hc hb
        clear hl hL hk
        rcases hb with ⟨hb1 | hb1, hb2 | hb2⟩
        all_goals
          go_wp2_with fail
          go_quiet (fail)
          go_wp2_with fail
          go_roundw
          case rel => exact ⟨k + 1, by omega, by go_num, hkr.drewN _, hlr.kept ((Kept.refl _).drewN _)⟩
          case measure => simp [intOf]; omega
      · obtain rfl : k = 5 := by omega
        clear hlt hk5
        go_wp2
        go_ret
        exact ⟨rfl, hkr.1⟩
theorem walk (a0 : Nat) (h0 : a0 < 2 ^ 64) (w : World) :
    Calls Try.prog 11 #[.float .f64 a0] w fun e w' => e = .returned (.bool true) ∧ Grown w w' := by
  by_cases hf : Fnt a0
  · exact walk_fin a0 h0 w hf
  have hL := rounded_any a0 w h0
  rcases kinds a0 with h | h | h
  · exact absurd h hf
  · have hn := inf_nan h
    go_enter Try.func11, Try.ntmps11
    go_wp2_with (first | (go_at_call 24; refine hL.mono ?_; rintro e w' ⟨a, L, rfl, hl, hr, hk⟩; have hc0 := hl.2 0 (by omega); have hc1 := hl.2 1 (by omega); rw [(hr 0 (by omega)).2.2.1 h] at hc0; rw [(hr 1 (by omega)).2.2.1 h] at hc1; clear hr) | (go_at_call 23; refine (IsFinite_not _ _ hf).mono ?_; rintro e w' ⟨rfl, rfl⟩) | (go_at_call 17; refine (same_self _ _ hn).mono ?_; rintro e w' ⟨rfl, rfl⟩))
    go_ret
    exact ⟨rfl, (hk.drewN 1).1⟩
  · go_enter Try.func11, Try.ntmps11
    go_wp2_with (first | (go_at_call 24; refine hL.mono ?_; rintro e w' ⟨a, L, rfl, hl, hr, hk⟩; have hc0 := hl.2 0 (by omega); have hc1 := hl.2 1 (by omega); have hn0 := (hr 0 (by omega)).2.2.2 h; have hn1 := (hr 1 (by omega)).2.2.2 h; clear hr) | (go_at_call 23; refine (IsFinite_not _ _ hf).mono ?_; rintro e w' ⟨rfl, rfl⟩) | (go_at_call 17; (with_reducible refine (same_nan _ _ _ (by assumption) h).mono ?_); rintro e w' ⟨rfl, rfl⟩))
    go_ret
    exact ⟨rfl, (hk.drewN 1).1⟩

set_option maxRecDepth 100000 in
theorem lifted (os : Os) (started : os.Started) (H : Type) (enc : TypeId × Value → H) :
    ReturnsInHanded {} Try.checked os 11 .any (Rows.fnRoundingsBetweenSpec.pre6 enc Try.prog Try.f11 Rows.fnRoundingsBetweenRow.domain false) (Rows.fnRoundingsBetweenSpec.post enc Try.prog Try.f11 false true false false) := by
  refine returnsInHanded_of_change (C := Try.checked) own started (by kernel_rfl) Try.func11
    (ChangeSpec.witness6 (enc := enc) (C := Try.checked) false ⟨#[], #[.float .f64 0], []⟩ 8 (by kernel_rfl) (by kernel_rfl) (by kernel_rfl) (by kernel_rfl)) ?_
  intro W base args ds gs before hval0 hW hcnd _
  have hval : ∀ (j : Nat) t v, Try.f11.params[j]? = some t → args[j]? = some v → Value.okWide Try.prog W .any base t v := hval0
  have hW' := hW
  obtain ⟨p, q, hA0, hV, rfl, hfz, hnd⟩ := hW
  have hA : DataW.TrodAll enc Try.prog W 0 (fun _ => true) true Try.f11.params.toList args.toList ds p := hA0
  rw [Try.params11] at hA hval
  obtain ⟨v0, vs0, d0, ds0, p0, q0, hargs, rfl, rfl, h0, r0⟩ := trodAll_cons hA
  obtain ⟨rfl, rfl, rfl⟩ := trodAll_nil r0
  obtain rfl : args = #[v0] := by cases args; simp_all
  obtain ⟨rfl, rfl⟩ := trodVars_none hV
  obtain ⟨a0, rfl, rfl, rfl, w0⟩ := open_float Try.underlying22 (hval 0 22 v0 rfl rfl) h0
  clear hA0 hval0
  simp only [List.append_nil] at hW'
  refine (walk a0 (lt_of_wf w0) W).mono fun e W' ⟨he, hg⟩ => ?_
  subst he
  exact ⟨_, rfl, post_of_same (pa := []) (pv := []) hW' (fun _ _ _ => (trodAll_cons_mk (shut_bool Try.underlying4 _) trodAll_mk0)) (fun sp _ => (trodAll_cons_mk (shut_float Try.underlying22 w0) trodAll_mk0)) (fun _ _ => rfl) rfl
    (hg.frame _) hg.2.1 (ok_one (by kernel_rfl) rfl (okWide_bool_mk Try.underlying4 _))⟩

theorem over : Rows.fnRoundingsBetweenRow.holds Try.pinned (OpenSpec.ofChange Rows.fnRoundingsBetweenSpec) :=
  OpenClaim.holds_of_wide 11 Try.f11 rfl rfl rfl rfl rfl rfl rfl ⟨rfl, rfl, rfl, rfl, rfl⟩ rfl rfl rfl rfl rfl (by kernel_rfl) Try.func11 (by kernel_rfl)
    (of_decide_eq_true (by kernel_rfl)) (by unfold Func.isWrapper; first | (rw [if_pos (by decide +kernel)]; kernel_rfl) | (rw [if_neg (by decide +kernel)]; exact ⟨rfl, rfl⟩))
    (fun os started H enc _ => lifted os started H enc)

theorem proved : Rows.FnRoundingsBetweenSaid := over
#print axioms proved
end Go.Proofs.Ytaabgcncacdnoaa.fnRoundingsBetween
