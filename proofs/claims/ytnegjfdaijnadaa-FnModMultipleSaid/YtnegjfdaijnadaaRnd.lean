/- Contracts of the roundings that the machine's own instructions carry out (math.Trunc, Floor, Ceil, RoundToEven, through impl). Conditions: as each states. -/
import Derived.Test.YtnegjfdaijnadaaSpc
namespace Go.Proofs.Ytnegjfdaijnadaa
open Flt Ieee Go.RowKit

/-- The word of a finite word cut to an integer. -/
def intW (way : Toward) (b : Nat) : Nat := double.write ((double.read b).integral way)

/-- A step that asks which of two words it is to give. -/
def eitherW (q : String) (x y : Nat) : Sem Value := (choose (.extern q 2)).bind fun n => pure (.float .f64 (if n == 1 then x else y))
theorem run_eitherW (P : Program) (q : String) (x y : Nat) (w : World) : (eitherW q x y).run P w = .ok (.float .f64 x) (w.drewN 1) ∨ (eitherW q x y).run P w = .ok (.float .f64 y) (w.drewN 1) := by
  unfold eitherW
  rw [show ∀ (q : Sem Nat) (k : Nat → Sem Value), Sem.bind q k = (q >>= k) from fun _ _ => rfl, Sem.run_bind, run_choose_drew]
  generalize (Question.extern q 2).cut (w.tape w.drawn (Question.extern q 2)) = n
  by_cases c : n = 1
  · left; subst c; rfl
  · right
    have : (n == 1) = false := by simpa using c
    show Result.ok (Value.float .f64 (if (n == 1) = true then x else y)) (w.drewN 1) = _
    rw [this]; rfl
theorem toIntegral_number (name : String) (way : Toward) {b m : Nat} {s : Bool} {p : Int} (h : FloatKind.f64.decode b = .number s m p) : Extern.MathFloor.toIntegral name way #[.float .f64 b] = pure (.float .f64 (double.write ((Datum.number s m p).integral way))) := by
  delta Extern.MathFloor.toIntegral
  generalize FloatKind.decode FloatKind.f64 = dec at h ⊢
  show (match dec b with | .nan s t => _ | d => _) = _
  rw [h]
  rfl
theorem toIntegral_infinity (name : String) (way : Toward) {b : Nat} {s : Bool} (h : FloatKind.f64.decode b = .infinity s) : Extern.MathFloor.toIntegral name way #[.float .f64 b] = pure (.float .f64 (double.write (.infinity s))) := by
  delta Extern.MathFloor.toIntegral
  generalize FloatKind.decode FloatKind.f64 = dec at h ⊢
  show (match dec b with | .nan s t => _ | d => _) = _
  rw [h]
  rfl
theorem toIntegral_none (name : String) (way : Toward) {b t : Nat} {s : Bool} (h : FloatKind.f64.decode b = .nan s t) : ∃ q, Extern.MathFloor.toIntegral name way #[.float .f64 b] = if double.quiet t = t then pure (.float .f64 b) else eitherW q b (double.write (.nan s (double.quiet t))) := by
  delta Extern.MathFloor.toIntegral
  generalize FloatKind.decode FloatKind.f64 = dec at h ⊢
  apply Exists.intro
  show (match dec b with | .nan s t => _ | d => _) = _
  rw [h]
  rfl

theorem toIntegral_fin (name : String) (way : Toward) (P : Program) (b : Nat) (w : World) (h : Fnt b) : (Extern.MathFloor.toIntegral name way #[.float .f64 b]).run P w = .ok (.float .f64 (intW way b)) w := by
  obtain ⟨m, k, rb, -⟩ := read_fin h
  have e : FloatKind.f64.decode b = .number (sg b) m (-1074 + (k : Nat)) := rb
  rw [toIntegral_number name way e]
  unfold intW
  rw [rb]
  rfl
theorem toIntegral_inf (name : String) (way : Toward) (P : Program) (b : Nat) (w : World) (h : Inf b) (h64 : b < 2 ^ 64) : (Extern.MathFloor.toIntegral name way #[.float .f64 b]).run P w = .ok (.float .f64 b) w := by
  have hi := integral_inf way h h64
  have e : FloatKind.f64.decode b = .infinity (sg b) := read_inf h
  rw [read_inf h] at hi
  rw [toIntegral_infinity name way e]
  show Result.ok (Value.float .f64 (double.write ((Datum.infinity (sg b)).integral way))) w = _
  rw [hi]
theorem quiet_nan (s : Bool) (t : Nat) (h0 : 0 < t) (h1 : t < 2 ^ 52) : NaN (double.write (.nan s (double.quiet t))) ∧ double.write (.nan s (double.quiet t)) < 2 ^ 64 := by
  have e : double.write (.nan s (double.quiet t)) = wd s (INF + double.quiet t % 2 ^ 52) := rfl
  have hq : t ≤ double.quiet t := Nat.left_le_or
  have hl : double.quiet t < 2 ^ 52 := Nat.or_lt_two_pow h1 (by decide)
  have hi : INF + double.quiet t % 2 ^ 52 < 9223372036854775808 := by unfold INF; omega
  rw [e]
  refine ⟨?_, wd_lt s hi⟩
  unfold NaN
  rw [rg_wd s hi, Nat.mod_eq_of_lt hl]
  omega
theorem toIntegral_nan (name : String) (way : Toward) (P : Program) (b : Nat) (w : World) (h : NaN b) (h64 : b < 2 ^ 64) : ∃ r n, NaN r ∧ r < 2 ^ 64 ∧ (Extern.MathFloor.toIntegral name way #[.float .f64 b]).run P w = .ok (.float .f64 r) (w.drewN n) := by
  have e : FloatKind.f64.decode b = .nan (sg b) (rg b - INF) := read_nan h
  have hlt := rg_lt b
  have hq := quiet_nan (sg b) (rg b - INF) (by unfold NaN at h; omega) (by unfold INF; omega)
  obtain ⟨qs, hqs⟩ := toIntegral_none name way e
  rw [hqs]
  by_cases c : double.quiet (rg b - INF) = rg b - INF
  · exact ⟨b, 0, h, h64, by rw [if_pos c]; rfl⟩
  · rw [if_neg c]
    rcases run_eitherW P qs b (double.write (.nan (sg b) (double.quiet (rg b - INF)))) w with d | d
    · exact ⟨b, 1, h, h64, d⟩
    · exact ⟨_, 1, hq.1, hq.2, d⟩

/-- A not-a-number is returned; the world has at most drawn. -/
def RetNaN (w : World) (e : Ending) (w' : World) : Prop := ∃ r n, NaN r ∧ r < 2 ^ 64 ∧ e = .returned (.float .f64 r) ∧ w' = w.drewN n
theorem grown_drewN {a b : World} (h : Grown a b) (n : Nat) : Grown a (b.drewN n) := h
end Go.Proofs.Ytnegjfdaijnadaa
