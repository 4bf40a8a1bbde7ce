/- FnModWhole returns true for every input. No condition. -/
import Derived.Test.YtnegjfdaijnadaaRows
import Derived.Test.YtnegjfdaijnadaaMds
import Derived.ProofKit
import Derived.OpenShut
namespace Go.Proofs.Ytnegjfdaijnadaa.fnModWhole
open Go.ChangeShapes Go.WideShapes Go.ChangeAt Go.RowKit Flt Ieee
theorem own : ownKnob Try.prog.godebug = none := by kernel_rfl
theorem lt_of_wf {b : Nat} (h : (Lit.float .f64 b).wf = true) : b < 2 ^ 64 := by simpa [Lit.wf] using h
theorem bounds_of_wf {n : Int} (h : (Lit.int .i64 n).wf = true) : -9223372036854775808 ≤ n ∧ n ≤ 9223372036854775807 := by simpa [Lit.wf, IntKind.min, IntKind.max, IntKind.signed, IntKind.bits] using h
theorem whole_mod {a b : Int} (ha : a.natAbs ≤ 2 ^ 53) (hb : b.natAbs ≤ 2 ^ 53) (hz : b ≠ 0) :
    rg (floatOfInt .f64 b) ≠ 0 ∧ IsInt (modW (floatOfInt .f64 a) (floatOfInt .f64 b)) (decide (a < 0)) (a.natAbs % b.natAbs) := by
  have iA := ofInt_int ha
  have iB := ofInt_int hb
  have hbz : rg (floatOfInt .f64 b) ≠ 0 := by
    intro e
    have h := iB.2.2.2
    rw [e, mag_zero] at h
    have hp := Nat.mul_pos (show 0 < b.natAbs by omega) U_pos
    omega
  obtain ⟨h1, h2, h3, h4⟩ := modW_spec iA.2.1 hbz
  refine ⟨hbz, h4, h1, by rw [h2, iA.2.2.1], ?_⟩
  rw [h3, iA.2.2.2, iB.2.2.2, Nat.mul_mod_mul_right]
theorem tmod_abs (a b : Int) : (a.tmod b).natAbs = a.natAbs % b.natAbs := Int.natAbs_tmod a b
theorem eq_int {r k : Nat} {s : Bool} {n : Int} (h : IsInt r s k) (hn : n.natAbs ≤ 2 ^ 53) (hk : n.natAbs = k) (hs : n < 0 → s = true) (hp : 0 < n → s = false) : FloatKind.f64.format.order r (floatOfInt .f64 n) = some .eq := by
  have hi := ofInt_int hn
  refine ord_eq h.2.1 hi.2.1 ?_
  rw [isInt_val h, isInt_val hi, hk]
  by_cases c : n < 0
  · rw [hs c, decide_eq_true c]
  · by_cases d : 0 < n
    · rw [hp d, decide_eq_false c]
    · have : k = 0 := by omega
      rw [this, Nat.zero_mul]
      cases s <;> simp
set_option maxRecDepth 100000 in
theorem walk (a0 a1 : Int) (h0 : -9223372036854775808 ≤ a0 ∧ a0 ≤ 9223372036854775807) (h1 : -9223372036854775808 ≤ a1 ∧ a1 ≤ 9223372036854775807) (w : World) :
    Calls Try.prog 10 #[.int .i64 a0, .int .i64 a1] w fun e w' => e = .returned (.bool true) ∧ Grown w w' := by
  by_cases c0 : a1 = 0
  · subst c0
    clear h0 h1
    go_enter Try.func10, Try.ntmps10
    go_wp2
    go_ret
    exact ⟨rfl, Grown.refl _⟩
  have c0' : (a1 == 0) = false := by simpa using c0
  by_cases c1 : 9007199254740992 < a0
  · clear h0 h1 c0
    go_enter Try.func10, Try.ntmps10
    go_wp2
    go_ret
    exact ⟨rfl, Grown.refl _⟩
  by_cases c2 : a0 < -9007199254740992
  · clear h0 h1 c0
    go_enter Try.func10, Try.ntmps10
    go_wp2
    go_ret
    exact ⟨rfl, Grown.refl _⟩
  by_cases c3 : 9007199254740992 < a1
  · clear h0 h1 c0
    go_enter Try.func10, Try.ntmps10
    go_wp2
    go_ret
    exact ⟨rfl, Grown.refl _⟩
  by_cases c4 : a1 < -9007199254740992
  · clear h0 h1 c0
    go_enter Try.func10, Try.ntmps10
    go_wp2
    go_ret
    exact ⟨rfl, Grown.refl _⟩
  obtain ⟨hz, hi⟩ := whole_mod (a := a0) (b := a1) (by omega) (by omega) c0
  have iA := ofInt_int (n := a0) (by omega)
  have iB := ofInt_int (n := a1) (by omega)
  have hM := fun u => Mod_fin _ _ u iA.2.1 iB.2.1 iA.1 iB.1 hz
  have hS := fun u => Signbit_num _ u (fin_nan hi.2.1)
  rw [hi.2.2.1] at hS
  have hta := tmod_abs a0 a1
  have htl : a0.natAbs % a1.natAbs ≤ a0.natAbs := Nat.mod_le _ _
  by_cases c : a0 < 0
  · have hsg : a0.tmod a1 ≤ 0 := by
      have q := Int.tmod_nonneg (a := -a0) a1 (by omega)
      rw [Int.neg_tmod] at q
      omega
    have hdc := decide_eq_true c
    have ho := eq_int (n := a0.tmod a1) hi (by omega) hta (fun _ => decide_eq_true c) (fun q => by omega)
    rw [decide_eq_true c] at hS
    generalize modW (floatOfInt .f64 a0) (floatOfInt .f64 a1) = r at *
    clear hi iA iB hz hta htl hsg h0 h1
    go_enter Try.func10, Try.ntmps10
    go_wp2_with (first | (go_at_call 18; refine (hM _).mono ?_; rintro e w' ⟨rfl, rfl⟩) | (go_at_call 16; refine (hS _).mono ?_; rintro e w' ⟨rfl, rfl⟩))
    go_ret
    exact ⟨rfl, Grown.refl _⟩
  · have hsg : 0 ≤ a0.tmod a1 := Int.tmod_nonneg _ (by omega)
    have ho := eq_int (n := a0.tmod a1) hi (by omega) hta (fun q => by omega) (fun _ => decide_eq_false c)
    have hdc := decide_eq_false c
    rw [Int.tmod_eq_emod_of_nonneg (by omega)] at ho
    rw [decide_eq_false c] at hS
    generalize modW (floatOfInt .f64 a0) (floatOfInt .f64 a1) = r at *
    clear hi iA iB hz hta htl hsg h0 h1
    go_enter Try.func10, Try.ntmps10
    go_wp2_with (first | (go_at_call 18; refine (hM _).mono ?_; rintro e w' ⟨rfl, rfl⟩) | (go_at_call 16; refine (hS _).mono ?_; rintro e w' ⟨rfl, rfl⟩))
    go_ret
    exact ⟨rfl, Grown.refl _⟩

set_option maxRecDepth 100000 in
theorem lifted (os : Os) (started : os.Started) (H : Type) (enc : TypeId × Value → H) :
    ReturnsInHanded {} Try.checked os 10 .any (Rows.fnModWholeSpec.pre6 enc Try.prog Try.f10 Rows.fnModWholeRow.domain false) (Rows.fnModWholeSpec.post enc Try.prog Try.f10 false true false false) := by
  refine returnsInHanded_of_change (C := Try.checked) own started (by kernel_rfl) Try.func10
    (ChangeSpec.witness6 (enc := enc) (C := Try.checked) false ⟨#[], #[.int .i64 0, .int .i64 0], []⟩ 8 (by kernel_rfl) (by kernel_rfl) (by kernel_rfl) (by kernel_rfl)) ?_
  intro W base args ds gs before hval0 hW hcnd _
  have hval : ∀ (j : Nat) t v, Try.f10.params[j]? = some t → args[j]? = some v → Value.okWide Try.prog W .any base t v := hval0
  have hW' := hW
  obtain ⟨p, q, hA0, hV, rfl, hfz, hnd⟩ := hW
  have hA : DataW.TrodAll enc Try.prog W 0 (fun _ => true) true Try.f10.params.toList args.toList ds p := hA0
  rw [Try.params10] at hA hval
  obtain ⟨v0, vs0, d0, ds0, p0, q0, hargs, rfl, rfl, h0, r0⟩ := trodAll_cons hA
  obtain ⟨v1, vs1, d1, ds1, p1, q1, rfl, rfl, rfl, h1, r1⟩ := trodAll_cons r0
  obtain ⟨rfl, rfl, rfl⟩ := trodAll_nil r1
  obtain rfl : args = #[v0, v1] := by cases args; simp_all
  obtain ⟨rfl, rfl⟩ := trodVars_none hV
  obtain ⟨a0, rfl, rfl, rfl, w0⟩ := open_int Try.underlying2 (hval 0 2 v0 rfl rfl) h0
  obtain ⟨a1, rfl, rfl, rfl, w1⟩ := open_int Try.underlying2 (hval 1 2 v1 rfl rfl) h1
  clear hA0 hval0
  simp only [List.append_nil] at hW'
  refine (walk a0 a1 (bounds_of_wf w0) (bounds_of_wf w1) W).mono fun e W' ⟨he, hg⟩ => ?_
  subst he
  exact ⟨_, rfl, post_of_same (pa := []) (pv := []) hW' (fun _ _ _ => (trodAll_cons_mk (shut_bool Try.underlying4 _) trodAll_mk0)) (fun sp _ => (trodAll_cons_mk (shut_int Try.underlying2 w0) (trodAll_cons_mk (shut_int Try.underlying2 w1) trodAll_mk0))) (fun _ _ => rfl) rfl
    (hg.frame _) hg.2.1 (ok_one (by kernel_rfl) rfl (okWide_bool_mk Try.underlying4 _))⟩

theorem over : Rows.fnModWholeRow.holds Try.pinned (OpenSpec.ofChange Rows.fnModWholeSpec) :=
  OpenClaim.holds_of_wide 10 Try.f10 rfl rfl rfl rfl rfl rfl rfl ⟨rfl, rfl, rfl, rfl, rfl⟩ rfl rfl rfl rfl rfl (by kernel_rfl) Try.func10 (by kernel_rfl)
    (of_decide_eq_true (by kernel_rfl)) (by unfold Func.isWrapper; first | (rw [if_pos (by decide +kernel)]; kernel_rfl) | (rw [if_neg (by decide +kernel)]; exact ⟨rfl, rfl⟩))
    (fun os started H enc _ => lifted os started H enc)

theorem proved : Rows.FnModWholeSaid := over
#print axioms proved
end Go.Proofs.Ytnegjfdaijnadaa.fnModWhole
