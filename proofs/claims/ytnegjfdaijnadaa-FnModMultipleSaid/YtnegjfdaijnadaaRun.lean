/- How one operation on 64-bit floating point words runs: its result where the operation is valid, a drawn not-a-number where it is not. No condition. -/
import Derived.Test.YtnegjfdaijnadaaInt
import Derived.WalkKit
import Derived.WalkLawsBesides
import Derived.RowKit3
namespace Flt
open Ieee Go

/-- A not-a-number out of the tape. -/
def tapeNaN (w : World) (x y : Nat) : Nat := (Question.nanBits .f64 x y).cut (w.tape w.drawn (.nanBits .f64 x y))
theorem tapeNaN_eq (w : World) (x y : Nat) : ∃ t, tapeNaN w x y = (t % 2) * 2 ^ 63 + 0x7ff0000000000000 + 1 + (t / 2) % (2 ^ 52 - 1) := ⟨_, rfl⟩
theorem tapeNaN_nan (w : World) (x y : Nat) : NaN (tapeNaN w x y) := by
  obtain ⟨t, h⟩ := tapeNaN_eq w x y
  unfold NaN INF rg
  rw [h]
  have h1 : t % 2 < 2 := Nat.mod_lt _ (by omega)
  have h2 : (t / 2) % (2 ^ 52 - 1) < 2 ^ 52 - 1 := Nat.mod_lt _ (by omega)
  generalize (t / 2) % (2 ^ 52 - 1) = f at h2 ⊢
  generalize t % 2 = g at h1 ⊢
  have : g = 0 ∨ g = 1 := by omega
  rcases this with rfl | rfl <;> omega
theorem tapeNaN_lt (w : World) (x y : Nat) : tapeNaN w x y < 2 ^ 64 := by
  obtain ⟨t, h⟩ := tapeNaN_eq w x y
  rw [h]
  omega

section
variable {P : Program} (w : World)
theorem run_add (t : TypeId) {x y r : Nat} (h : double.add x y = some r) : (binOp .add t (.float .f64 x) (.float .f64 y)).run P w = .ok (.float .f64 r) w := run_float_arith w .add t .f64 x y r h
theorem run_sub (t : TypeId) {x y r : Nat} (h : double.sub x y = some r) : (binOp .sub t (.float .f64 x) (.float .f64 y)).run P w = .ok (.float .f64 r) w := run_float_arith w .sub t .f64 x y r h
theorem run_mul (t : TypeId) {x y r : Nat} (h : double.mul x y = some r) : (binOp .mul t (.float .f64 x) (.float .f64 y)).run P w = .ok (.float .f64 r) w := run_float_arith w .mul t .f64 x y r h
theorem run_quo (t : TypeId) {x y r : Nat} (h : double.div x y = some r) : (binOp .quo t (.float .f64 x) (.float .f64 y)).run P w = .ok (.float .f64 r) w := run_float_arith w .quo t .f64 x y r h
theorem run_add_nan (t : TypeId) {x y : Nat} (h : double.add x y = none) : (binOp .add t (.float .f64 x) (.float .f64 y)).run P w = .ok (.float .f64 (tapeNaN w x y)) w.drew := by
  have h' : FloatKind.f64.format.add x y = none := h
  simp [binOp, Op.floatArith, h', Question.forced, tapeNaN]
theorem run_sub_nan (t : TypeId) {x y : Nat} (h : double.sub x y = none) : (binOp .sub t (.float .f64 x) (.float .f64 y)).run P w = .ok (.float .f64 (tapeNaN w x y)) w.drew := by
  have h' : FloatKind.f64.format.sub x y = none := h
  simp [binOp, Op.floatArith, h', Question.forced, tapeNaN]
theorem run_mul_nan (t : TypeId) {x y : Nat} (h : double.mul x y = none) : (binOp .mul t (.float .f64 x) (.float .f64 y)).run P w = .ok (.float .f64 (tapeNaN w x y)) w.drew := by
  have h' : FloatKind.f64.format.mul x y = none := h
  simp [binOp, Op.floatArith, h', Question.forced, tapeNaN]
theorem run_quo_nan (t : TypeId) {x y : Nat} (h : double.div x y = none) : (binOp .quo t (.float .f64 x) (.float .f64 y)).run P w = .ok (.float .f64 (tapeNaN w x y)) w.drew := by
  have h' : FloatKind.f64.format.div x y = none := h
  simp [binOp, Op.floatArith, h', Question.forced, tapeNaN]
end
theorem unary_neg_f64 (b : Nat) : Op.unary .neg (.float .f64 b) = pure (.float .f64 (negW b)) := rfl
attribute [go_sem] run_add run_sub run_mul run_quo run_convert_float_int unary_neg_f64
end Flt
