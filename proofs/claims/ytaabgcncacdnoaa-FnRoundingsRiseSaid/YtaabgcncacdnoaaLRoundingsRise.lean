/- FnRoundingsRise returns true for every input. No condition. -/
import Derived.Test.YtaabgcncacdnoaaRows
import Derived.Test.YtaabgcncacdnoaaRis
import Derived.LoopTactic
import Derived.Lib.Hide
import Derived.BigQuiet
import Derived.Deep.QuietTactic
import Derived.RegionTactic
import Derived.ProofKit
import Derived.OpenShut
namespace Go.Proofs.Ytaabgcncacdnoaa.fnRoundingsRise
open Go.ChangeShapes Go.WideShapes Go.ChangeAt Go.RowKit Flt Ieee
theorem own : ownKnob Try.prog.godebug = none := by kernel_rfl
theorem lt_of_wf {b : Nat} (h : (Lit.float .f64 b).wf = true) : b < 2 ^ 64 := by simpa [Lit.wf] using h
theorem bounds_of_wf {n : Int} (h : (Lit.int .i64 n).wf = true) : -9223372036854775808 ≤ n ∧ n ≤ 9223372036854775807 := by simpa [Lit.wf, IntKind.min, IntKind.max, IntKind.signed, IntKind.bits] using h
theorem sub_nan_right (a : Nat) {b : Nat} (h : NaN b) : double.sub a b = none := by
  unfold Format.sub; rw [read_nan h]; cases (double.read a) <;> rfl
/-- What a round meets where both differences are numbers. -/
theorem meets {x y : Nat} (nx : ¬ NaN x) (ny : ¬ NaN y) (hx0 : x < 2 ^ 64) (hy0 : y < 2 ^ 64) (h : ¬ (Inf x ∧ Inf y ∧ sg x = sg y)) :
    ∃ g1 g2 b1 b2, double.sub x y = some g1 ∧ double.sub y x = some g2 ∧ (FloatKind.f64.format.order g1 4611686018427387904 == some .gt) = b1 ∧ (FloatKind.f64.format.order g2 4611686018427387904 == some .gt) = b2 ∧
      ((FloatKind.f64.format.order x y = some .lt ∧ FloatKind.f64.format.order y x = some .gt ∧ b1 = false ∧ ∀ k r t, Rnd x k r → Rnd y k t → (b2 = false ∧ FloatKind.f64.format.order r t = some .eq) ∨ (FloatKind.f64.format.order r t = some .lt ∧ FloatKind.f64.format.order t r = some .gt)) ∨
       (FloatKind.f64.format.order x y = some .eq ∧ FloatKind.f64.format.order y x = some .eq ∧ b1 = false ∧ b2 = false ∧ ∀ k r t, Rnd x k r → Rnd y k t → FloatKind.f64.format.order r t = some .eq ∧ FloatKind.f64.format.order t r = some .eq) ∨
       (FloatKind.f64.format.order x y = some .gt ∧ FloatKind.f64.format.order y x = some .lt ∧ b2 = false ∧ ∀ k r t, Rnd x k r → Rnd y k t → (b1 = false ∧ FloatKind.f64.format.order t r = some .eq) ∨ (FloatKind.f64.format.order r t = some .gt ∧ FloatKind.f64.format.order t r = some .lt))) := by
  obtain ⟨g1, b1, s1, o1, z1, k1⟩ := gap nx ny hx0 hy0 h
  obtain ⟨g2, b2, s2, o2, z2, k2⟩ := gap ny nx hy0 hx0 (fun q => h ⟨q.2.1, q.1, q.2.2.symm⟩)
  refine ⟨g1, g2, b1, b2, s1, s2, o1, o2, ?_⟩
  rcases Int.lt_trichotomy (val x) (val y) with c | c | c
  · refine .inl ⟨by rw [order_num nx ny, cmp_lt c], by rw [order_num ny nx, cmp_gt c], z1 (Int.le_of_lt c), fun k r t hr ht => ?_⟩
    obtain ⟨n1, -, -⟩ := rnd_num hx0 nx hr
    obtain ⟨n2, -, -⟩ := rnd_num hy0 ny ht
    have hle := rise hx0 hy0 nx ny hr ht (Int.le_of_lt c)
    rcases Int.lt_or_eq_of_le hle with q | q
    · exact .inr ⟨by rw [order_num n1 n2, cmp_lt q], by rw [order_num n2 n1, cmp_gt q]⟩
    · refine .inl ⟨?_, by rw [order_num n1 n2, cmp_eq q]⟩
      cases b2
      · rfl
      · have := k2 rfl k t r ht hr; omega
  · refine .inr (.inl ⟨by rw [order_num nx ny, cmp_eq c], by rw [order_num ny nx, cmp_eq c.symm], z1 (Int.le_of_eq c), z2 (Int.le_of_eq c.symm), fun k r t hr ht => ?_⟩)
    obtain ⟨n1, -, -⟩ := rnd_num hx0 nx hr
    obtain ⟨n2, -, -⟩ := rnd_num hy0 ny ht
    have h1 := rise hx0 hy0 nx ny hr ht (Int.le_of_eq c)
    have h2 := rise hy0 hx0 ny nx ht hr (Int.le_of_eq c.symm)
    have e : val r = val t := by omega
    exact ⟨by rw [order_num n1 n2, cmp_eq e], by rw [order_num n2 n1, cmp_eq e.symm]⟩
  · refine .inr (.inr ⟨by rw [order_num nx ny, cmp_gt c], by rw [order_num ny nx, cmp_lt c], z2 (Int.le_of_lt c), fun k r t hr ht => ?_⟩)
    obtain ⟨n1, -, -⟩ := rnd_num hx0 nx hr
    obtain ⟨n2, -, -⟩ := rnd_num hy0 ny ht
    have hle := rise hy0 hx0 ny nx ht hr (Int.le_of_lt c)
    rcases Int.lt_or_eq_of_le hle with q | q
    · exact .inr ⟨by rw [order_num n1 n2, cmp_gt q], by rw [order_num n2 n1, cmp_lt q]⟩
    · refine .inl ⟨?_, by rw [order_num n2 n1, cmp_eq q]⟩
      cases b1
      · rfl
      · have := k1 rfl k r t hr ht; omega
/-- The facts of one round, as the walk asks for them. -/
def Facts (p1 p2 p3 p4 : Bool) (r t : Nat) : Prop :=
  (p1 = true → (FloatKind.f64.format.order r t == some .lt || FloatKind.f64.format.order r t == some .eq) = true) ∧ (p2 = true → (FloatKind.f64.format.order t r == some .lt || FloatKind.f64.format.order t r == some .eq) = true) ∧
  (p3 = true → (FloatKind.f64.format.order r t == some .gt) = true) ∧ (p4 = true → (FloatKind.f64.format.order t r == some .gt) = true)
set_option maxRecDepth 100000 in
set_option maxHeartbeats 4000000 in
theorem walk_num (a0 a1 : Nat) (h0 : a0 < 2 ^ 64) (h1 : a1 < 2 ^ 64) (w : World) (nx : ¬ NaN a0) (ny : ¬ NaN a1) (h : ¬ (Inf a0 ∧ Inf a1 ∧ sg a0 = sg a1)) :
    Calls Try.prog 13 #[.float .f64 a0, .float .f64 a1] w fun e w' => e = .returned (.bool true) ∧ Grown w w' := by
  have hL := fun u => rounded_any a0 u h0
  have hM := fun u => rounded_any a1 u h1
  obtain ⟨g1, g2, b1, b2, s1, s2, o1, o2, hm⟩ := meets nx ny h0 h1 h
  clear nx ny h
  have hm' : ∃ p1 p2, (FloatKind.f64.format.order a0 a1 == some .lt || FloatKind.f64.format.order a0 a1 == some .eq) = p1 ∧ (FloatKind.f64.format.order a1 a0 == some .lt || FloatKind.f64.format.order a1 a0 == some .eq) = p2 ∧
      ((p1 = true ∧ p2 = false ∧ b1 = false) ∨ (p1 = true ∧ p2 = true ∧ b1 = false ∧ b2 = false) ∨ (p1 = false ∧ p2 = true ∧ b2 = false)) ∧ ∀ k r t, Rnd a0 k r → Rnd a1 k t → Facts p1 p2 b1 b2 r t := by
    rcases hm with ⟨e1, e2, e3, e4⟩ | ⟨e1, e2, e3, e4, e5⟩ | ⟨e1, e2, e3, e4⟩
    · refine ⟨true, false, by rw [e1]; rfl, by rw [e2]; rfl, .inl ⟨rfl, rfl, e3⟩, fun k r t hr ht => ?_⟩
      rcases e4 k r t hr ht with ⟨q1, q2⟩ | ⟨q1, q2⟩
      · exact ⟨fun _ => by rw [q2]; rfl, fun q => Bool.noConfusion q, fun q => by rw [e3] at q; exact Bool.noConfusion q, fun q => by rw [q1] at q; exact Bool.noConfusion q⟩
      · exact ⟨fun _ => by rw [q1]; rfl, fun q => Bool.noConfusion q, fun q => by rw [e3] at q; exact Bool.noConfusion q, fun _ => by rw [q2]; rfl⟩
    · refine ⟨true, true, by rw [e1]; rfl, by rw [e2]; rfl, .inr (.inl ⟨rfl, rfl, e3, e4⟩), fun k r t hr ht => ?_⟩
      obtain ⟨q1, q2⟩ := e5 k r t hr ht
      exact ⟨fun _ => by rw [q1]; rfl, fun _ => by rw [q2]; rfl, fun q => by rw [e3] at q; exact Bool.noConfusion q, fun q => by rw [e4] at q; exact Bool.noConfusion q⟩
    · refine ⟨false, true, by rw [e1]; rfl, by rw [e2]; rfl, .inr (.inr ⟨rfl, rfl, e3⟩), fun k r t hr ht => ?_⟩
      rcases e4 k r t hr ht with ⟨q1, q2⟩ | ⟨q1, q2⟩
      · exact ⟨fun q => Bool.noConfusion q, fun _ => by rw [q2]; rfl, fun q => by rw [q1] at q; exact Bool.noConfusion q, fun q => by rw [e3] at q; exact Bool.noConfusion q⟩
      · exact ⟨fun q => Bool.noConfusion q, fun _ => by rw [q2]; rfl, fun _ => by rw [q1]; rfl, fun q => by rw [e3] at q; exact Bool.noConfusion q⟩
  clear hm
  obtain ⟨p1, p2, c1, c2, hcs, hfa⟩ := hm'
  have HF := Lib.hid hfa
  have HC := Lib.hid hcs
  clear hfa hcs
  go_enter Try.func13, Try.ntmps13
  go_wp2_with (first | (go_at_call 24; (with_reducible refine (hL _).mono ?_); rintro e w' ⟨a, L, rfl, hl, hr, hk⟩; have HR := Lib.hid hr; clear hr) | (go_at_call 24; (with_reducible refine (hM _).mono ?_); rintro e w' ⟨b, M, rfl, hl2, hr2, hk2⟩; have HR2 := Lib.hid hr2; clear hr2))
  clear hL hM
  go_loopw [14] (fun i wr => ∃ k : Nat, k ≤ 5 ∧ i = .int .i64 k ∧ Kept w wr ∧ Lists wr a L ∧ Lists wr b M) (fun i _ => 5 - (intOf i).toNat)
  case atStart => exact ⟨0, by omega, rfl, hk.trans hk2, hl.kept hk2, hl2⟩
  case round =>
    clear hl hl2 hk hk2
    obtain ⟨k, hk5, rfl, hkr, hlr, hmr⟩ := hrel
    by_cases hlt : k < 5
    · have hc := hlr.2 k hlt
      have hd := hmr.2 k hlt
      have hf := HF.out k _ _ (HR.out k hlt) (HR2.out k hlt)
      have i1 : (0 : Int) ≤ (k : Int) := by omega
      have i2 : (k : Int) < 5 := by omega
      generalize L k = r at hc hf
      generalize M k = t at hd hf
      obtain ⟨f1, f2, f3, f4⟩ := hf
      have hcs := HC.out
      rcases hcs with ⟨rfl, rfl, rfl⟩ | ⟨rfl, rfl, rfl, rfl⟩ | ⟨rfl, rfl, rfl⟩
      · have f1 := f1 rfl
        clear f2 f3
        cases b2
        · clear f4
          go_wp2_with fail
          go_quiet (fail)
          go_wp2_with fail
          go_quiet (fail)
          go_wp2_with fail
          go_roundw
          case rel => exact ⟨k + 1, by omega, by go_num, hkr.drewN _, hlr.kept ((Kept.refl _).drewN _), hmr.kept ((Kept.refl _).drewN _)⟩
          case measure => simp [intOf]; omega
        · have f4 := f4 rfl
          go_wp2_with fail
          go_quiet (fail)
          go_wp2_with fail
          go_quiet (fail)
          go_wp2_with fail
          go_roundw
          case rel => exact ⟨k + 1, by omega, by go_num, hkr.drewN _, hlr.kept ((Kept.refl _).drewN _), hmr.kept ((Kept.refl _).drewN _)⟩
          case measure => simp [intOf]; omega
      · have f1 := f1 rfl
        have f2 := f2 rfl
        clear f3 f4
        go_wp2_with fail
        go_quiet (fail)
        go_wp2_with fail
        go_quiet (fail)
        go_wp2_with fail
        go_roundw
        case rel => exact ⟨k + 1, by omega, by go_num, hkr.drewN _, hlr.kept ((Kept.refl _).drewN _), hmr.kept ((Kept.refl _).drewN _)⟩
        case measure => simp [intOf]; omega
      · have f2 := f2 rfl
        clear f1 f4
        cases b1
        · clear f3
          go_wp2_with fail
          go_quiet (fail)
          go_wp2_with fail
          go_quiet (fail)
          go_wp2_with fail
          go_roundw
          case rel => exact ⟨k + 1, by omega, by go_num, hkr.drewN _, hlr.kept ((Kept.refl _).drewN _), hmr.kept ((Kept.refl _).drewN _)⟩
          case measure => simp [intOf]; omega
        · have f3 := f3 rfl
          go_wp2_with fail
          go_quiet (fail)
          go_wp2_with fail
          go_quiet (fail)
          go_wp2_with fail
          go_roundw
          case rel => exact ⟨k + 1, by omega, by go_num, hkr.drewN _, hlr.kept ((Kept.refl _).drewN _), hmr.kept ((Kept.refl _).drewN _)⟩
          case measure => simp [intOf]; omega
    · obtain rfl : k = 5 := by omega
      clear hlt hk5
      go_wp2
      go_ret
      exact ⟨rfl, hkr.1⟩
set_option maxRecDepth 100000 in
set_option maxHeartbeats 4000000 in
theorem walk_none (a0 a1 : Nat) (h0 : a0 < 2 ^ 64) (h1 : a1 < 2 ^ 64) (w : World) (s1 : double.sub a0 a1 = none) (s2 : double.sub a1 a0 = none)
    (hm : ((FloatKind.f64.format.order a0 a1 = none ∧ FloatKind.f64.format.order a1 a0 = none) ∨ (FloatKind.f64.format.order a0 a1 = some .eq ∧ FloatKind.f64.format.order a1 a0 = some .eq ∧ ∀ k r t, Rnd a0 k r → Rnd a1 k t → FloatKind.f64.format.order r t = some .eq ∧ FloatKind.f64.format.order t r = some .eq))) :
    Calls Try.prog 13 #[.float .f64 a0, .float .f64 a1] w fun e w' => e = .returned (.bool true) ∧ Grown w w' := by
  have hL := fun u => rounded_any a0 u h0
  have hM := fun u => rounded_any a1 u h1
  have q1 := fun (u : World) (t : TypeId) => run_sub_nan (P := Try.prog) u t s1
  have q2 := fun (u : World) (t : TypeId) => run_sub_nan (P := Try.prog) u t s2
  have q3 : ∀ u : World, FloatKind.f64.format.order (tapeNaN u a0 a1) 4611686018427387904 = none := fun u => ord_nan_left _ (tapeNaN_nan u a0 a1)
  have q4 : ∀ u : World, FloatKind.f64.format.order (tapeNaN u a1 a0) 4611686018427387904 = none := fun u => ord_nan_left _ (tapeNaN_nan u a1 a0)
  have HM := Lib.hid hm
  clear hm s1 s2
  go_enter Try.func13, Try.ntmps13
  go_wp2_with (first | (go_at_call 24; (with_reducible refine (hL _).mono ?_); rintro e w' ⟨a, L, rfl, hl, hr, hk⟩; have HR := Lib.hid hr; clear hr) | (go_at_call 24; (with_reducible refine (hM _).mono ?_); rintro e w' ⟨b, M, rfl, hl2, hr2, hk2⟩; have HR2 := Lib.hid hr2; clear hr2))
  clear hL hM
  go_loopw [14] (fun i wr => ∃ k : Nat, k ≤ 5 ∧ i = .int .i64 k ∧ Kept w wr ∧ Lists wr a L ∧ Lists wr b M) (fun i _ => 5 - (intOf i).toNat)
  case atStart => exact ⟨0, by omega, rfl, hk.trans hk2, hl.kept hk2, hl2⟩
  case round =>
    clear hl hl2 hk hk2
    obtain ⟨k, hk5, rfl, hkr, hlr, hmr⟩ := hrel
    by_cases hlt : k < 5
    · rcases HM.out with ⟨e1, e2⟩ | ⟨e1, e2, e3⟩
      · go_wp2_with fail
        go_quiet (fail)
        go_wp2_with fail
        go_region
        all_goals
          go_wp2_with fail
          go_roundw
          case rel => exact ⟨k + 1, by omega, by go_num, hkr.drewN _, hlr.kept ((Kept.refl _).drewN _), hmr.kept ((Kept.refl _).drewN _)⟩
          case measure => simp [intOf]; omega
      · have hc := hlr.2 k hlt
        have hd := hmr.2 k hlt
        obtain ⟨f1, f2⟩ := e3 k _ _ (HR.out k hlt) (HR2.out k hlt)
        have i1 : (0 : Int) ≤ (k : Int) := by omega
        have i2 : (k : Int) < 5 := by omega
        generalize L k = r at hc f1 f2
        generalize M k = t at hd f1 f2
        clear e3
        go_wp2_with fail
        go_quiet (fail)
        go_wp2_with fail
        go_region
        all_goals
          go_wp2_with fail
          go_roundw
          case rel => exact ⟨k + 1, by omega, by go_num, hkr.drewN _, hlr.kept ((Kept.refl _).drewN _), hmr.kept ((Kept.refl _).drewN _)⟩
          case measure => simp [intOf]; omega
    · obtain rfl : k = 5 := by omega
      clear hlt hk5
      go_wp2
      go_ret
      exact ⟨rfl, hkr.1⟩
theorem walk (a0 a1 : Nat) (h0 : a0 < 2 ^ 64) (h1 : a1 < 2 ^ 64) (w : World) :
    Calls Try.prog 13 #[.float .f64 a0, .float .f64 a1] w fun e w' => e = .returned (.bool true) ∧ Grown w w' := by
  by_cases nx : NaN a0
  · exact walk_none a0 a1 h0 h1 w (sub_nan_left a1 nx) (sub_nan_right a1 nx) (.inl ⟨ord_nan_left a1 nx, ord_nan_right a1 nx⟩)
  by_cases ny : NaN a1
  · exact walk_none a0 a1 h0 h1 w (sub_nan_right a0 ny) (sub_nan_left a0 ny) (.inl ⟨ord_nan_right a0 ny, ord_nan_left a0 ny⟩)
  by_cases h : Inf a0 ∧ Inf a1 ∧ sg a0 = sg a1
  · obtain ⟨i0, i1, hs⟩ := h
    have e : a0 = a1 := wd_ext h0 h1 hs ((show rg a0 = INF from i0).trans (show rg a1 = INF from i1).symm)
    subst e
    refine walk_none a0 a0 h0 h0 w (sub_inf_self i0) (sub_inf_self i0) (.inr ⟨ord_self nx, ord_self nx, fun k r t hr ht => ?_⟩)
    rw [hr.2.2.1 i0, ht.2.2.1 i0]
    exact ⟨ord_self nx, ord_self nx⟩
  · exact walk_num a0 a1 h0 h1 w nx ny h

set_option maxRecDepth 100000 in
theorem lifted (os : Os) (started : os.Started) (H : Type) (enc : TypeId × Value → H) :
    ReturnsInHanded {} Try.checked os 13 .any (Rows.fnRoundingsRiseSpec.pre6 enc Try.prog Try.f13 Rows.fnRoundingsRiseRow.domain false) (Rows.fnRoundingsRiseSpec.post enc Try.prog Try.f13 false true false false) := by
  refine returnsInHanded_of_change (C := Try.checked) own started (by kernel_rfl) Try.func13
    (ChangeSpec.witness6 (enc := enc) (C := Try.checked) false ⟨#[], #[.float .f64 0, .float .f64 0], []⟩ 8 (by kernel_rfl) (by kernel_rfl) (by kernel_rfl) (by kernel_rfl)) ?_
  intro W base args ds gs before hval0 hW hcnd _
  have hval : ∀ (j : Nat) t v, Try.f13.params[j]? = some t → args[j]? = some v → Value.okWide Try.prog W .any base t v := hval0
  have hW' := hW
  obtain ⟨p, q, hA0, hV, rfl, hfz, hnd⟩ := hW
  have hA : DataW.TrodAll enc Try.prog W 0 (fun _ => true) true Try.f13.params.toList args.toList ds p := hA0
  rw [Try.params13] at hA hval
  obtain ⟨v0, vs0, d0, ds0, p0, q0, hargs, rfl, rfl, h0, r0⟩ := trodAll_cons hA
  obtain ⟨v1, vs1, d1, ds1, p1, q1, rfl, rfl, rfl, h1, r1⟩ := trodAll_cons r0
  obtain ⟨rfl, rfl, rfl⟩ := trodAll_nil r1
  obtain rfl : args = #[v0, v1] := by cases args; simp_all
  obtain ⟨rfl, rfl⟩ := trodVars_none hV
  obtain ⟨a0, rfl, rfl, rfl, w0⟩ := open_float Try.underlying22 (hval 0 22 v0 rfl rfl) h0
  obtain ⟨a1, rfl, rfl, rfl, w1⟩ := open_float Try.underlying22 (hval 1 22 v1 rfl rfl) h1
  clear hA0 hval0
  simp only [List.append_nil] at hW'
  refine (walk a0 a1 (lt_of_wf w0) (lt_of_wf w1) W).mono fun e W' ⟨he, hg⟩ => ?_
  subst he
  exact ⟨_, rfl, post_of_same (pa := []) (pv := []) hW' (fun _ _ _ => (trodAll_cons_mk (shut_bool Try.underlying4 _) trodAll_mk0)) (fun sp _ => (trodAll_cons_mk (shut_float Try.underlying22 w0) (trodAll_cons_mk (shut_float Try.underlying22 w1) trodAll_mk0))) (fun _ _ => rfl) rfl
    (hg.frame _) hg.2.1 (ok_one (by kernel_rfl) rfl (okWide_bool_mk Try.underlying4 _))⟩

theorem over : Rows.fnRoundingsRiseRow.holds Try.pinned (OpenSpec.ofChange Rows.fnRoundingsRiseSpec) :=
  OpenClaim.holds_of_wide 13 Try.f13 rfl rfl rfl rfl rfl rfl rfl ⟨rfl, rfl, rfl, rfl, rfl⟩ rfl rfl rfl rfl rfl (by kernel_rfl) Try.func13 (by kernel_rfl)
    (of_decide_eq_true (by kernel_rfl)) (by unfold Func.isWrapper; first | (rw [if_pos (by decide +kernel)]; kernel_rfl) | (rw [if_neg (by decide +kernel)]; exact ⟨rfl, rfl⟩))
    (fun os started H enc _ => lifted os started H enc)

theorem proved : Rows.FnRoundingsRiseSaid := over
#print axioms proved
end Go.Proofs.Ytaabgcncacdnoaa.fnRoundingsRise
