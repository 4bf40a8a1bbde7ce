/- The walk through FnModMultiple. Conditions: as each states. -/
import Derived.Test.YtnegjfdaijnadaaMul
namespace Go.Proofs.Ytnegjfdaijnadaa
open Flt Ieee Go.RowKit

/-- The ways out ahead of the sum. -/
theorem mm_early (a0 : Int) (y z p : Nat) (w w' : World) (hmul : ∀ t, (binOp .mul t (.float .f64 (floatOfInt .f64 a0)) (.float .f64 y)).run Try.prog w = .ok (.float .f64 p) w') (hb : Below w.heap.size w w')
    (h : a0 < 0 ∨ 9007199254740992 < a0 ∨ (FloatKind.f64.format.order y 0 == some .gt) = false ∨ (FloatKind.f64.format.order z 0 == some .gt || FloatKind.f64.format.order z 0 == some .eq) = false ∨ (FloatKind.f64.format.order z y == some .lt) = false) :
    Calls Try.prog 8 #[.int .i64 a0, .float .f64 y, .float .f64 z] w fun e w' => e = .returned (.bool true) ∧ Below w.heap.size w w' := by
  by_cases c1 : a0 < 0
  · clear h
    go_enter Try.func8, Try.ntmps8
    go_wp2_with fail
    go_ret
    exact ⟨rfl, hb⟩
  by_cases c2 : 9007199254740992 < a0
  · clear h
    go_enter Try.func8, Try.ntmps8
    go_wp2_with fail
    go_ret
    exact ⟨rfl, hb⟩
  rcases Bool.eq_false_or_eq_true (FloatKind.f64.format.order y 0 == some .gt) with c3 | c3
  rotate_left
  · clear h
    go_enter Try.func8, Try.ntmps8
    go_wp2_with fail
    go_ret
    exact ⟨rfl, hb⟩
  rcases Bool.eq_false_or_eq_true (FloatKind.f64.format.order z 0 == some .gt || FloatKind.f64.format.order z 0 == some .eq) with c4 | c4
  rotate_left
  · clear h
    go_enter Try.func8, Try.ntmps8
    go_wp2_with fail
    go_ret
    exact ⟨rfl, hb⟩
  have c5 : (FloatKind.f64.format.order z y == some .lt) = false := by
    rcases h with h | h | h | h | h
    · exact absurd h c1
    · exact absurd h c2
    · rw [c3] at h; exact Bool.noConfusion h
    · rw [c4] at h; exact Bool.noConfusion h
    · exact h
  clear h
  go_enter Try.func8, Try.ntmps8
  go_wp2_with fail
  go_ret
  exact ⟨rfl, hb⟩
/-- The sum is not finite. -/
theorem mm_inf (a0 : Int) (y z p s : Nat) (w w1 w2 : World) (c1 : ¬ a0 < 0) (c2 : ¬ 9007199254740992 < a0) (c3 : (FloatKind.f64.format.order y 0 == some .gt) = true) (c4 : (FloatKind.f64.format.order z 0 == some .gt || FloatKind.f64.format.order z 0 == some .eq) = true) (c5 : (FloatKind.f64.format.order z y == some .lt) = true)
    (hmul : ∀ t, (binOp .mul t (.float .f64 (floatOfInt .f64 a0)) (.float .f64 y)).run Try.prog w = .ok (.float .f64 p) w1) (hb : Below w.heap.size w w1)
    (hadd : ∀ t, (binOp .add t (.float .f64 p) (.float .f64 z)).run Try.prog w1 = .ok (.float .f64 s) w2) (hs : ¬ Fnt s) (hb2 : Below w1.heap.size w1 w2) :
    Calls Try.prog 8 #[.int .i64 a0, .float .f64 y, .float .f64 z] w fun e w' => e = .returned (.bool true) ∧ Below w.heap.size w w' := by
  have hI := fun u => IsFinite_not s u hs
  go_enter Try.func8, Try.ntmps8
  go_wp2_with (go_at_call 17; refine (hI _).mono ?_; rintro e w' ⟨rfl, rfl⟩)
  go_ret
  exact ⟨rfl, (below_then hb hb2).drew⟩
theorem bne_false {o : Option Ordering} (h : (o != some .eq) = false) : o = some .eq := by simpa using h
/-- The other ways. -/
theorem mm_rest (a0 : Int) (y z p s d1 d2 m : Nat) (w : World) (c1 : ¬ a0 < 0) (c2 : ¬ 9007199254740992 < a0) (c3 : (FloatKind.f64.format.order y 0 == some .gt) = true) (c4 : (FloatKind.f64.format.order z 0 == some .gt || FloatKind.f64.format.order z 0 == some .eq) = true) (c5 : (FloatKind.f64.format.order z y == some .lt) = true)
    (hmul : double.mul (floatOfInt .f64 a0) y = some p) (hadd : double.add p z = some s) (hs : Fnt s) (hd1 : double.sub s p = some d1) (hd2 : double.sub s z = some d2)
    (hF : ∀ w, Calls Try.prog 25 #[.float .f64 (floatOfInt .f64 a0), .float .f64 y, .float .f64 (negW p)] w fun e w' => ∃ r, e = .returned (.float .f64 r) ∧ (FloatKind.f64.format.order r 0 = some .eq ∨ FloatKind.f64.format.order r 0 = some .lt ∨ FloatKind.f64.format.order r 0 = some .gt) ∧ (FloatKind.f64.format.order r 0 = some .eq → FloatKind.f64.format.order d1 z = some .eq → FloatKind.f64.format.order d2 p = some .eq → FloatKind.f64.format.order m z = some .eq) ∧ Below w.heap.size w w')
    (hM : ∀ w, Calls Try.prog 18 #[.float .f64 s, .float .f64 y] w fun e w' => e = .returned (.float .f64 m) ∧ w = w') :
    Calls Try.prog 8 #[.int .i64 a0, .float .f64 y, .float .f64 z] w fun e w' => e = .returned (.bool true) ∧ Below w.heap.size w w' := by
  have hI := fun u => IsFinite_yes s u hs
  go_enter Try.func8, Try.ntmps8
  go_wp2_with (first | (go_at_call 17; refine (hI _).mono ?_; rintro e w' ⟨rfl, rfl⟩) | (go_at_call 25; refine (hF _).mono ?_; rintro e w' ⟨r, rfl, hr, hz, hbw⟩) | (go_at_call 18; refine (hM _).mono ?_; rintro e w' ⟨rfl, rfl⟩))
  all_goals
    first
      | (go_ret; exact ⟨rfl, hbw⟩)
      | (have hmz := hz (by assumption) (by assumption) (bne_false (by assumption)); go_ret; exact ⟨congrArg (fun b => Ending.returned (.bool b)) (by rw [hmz]; rfl), hbw⟩)
end Go.Proofs.Ytnegjfdaijnadaa
