/- Plain facts on any of the five roundings of a finite word: it is an integer of its sign, less than 1 away. Conditions: as each states. -/
import Derived.Test.YtaabgcncacdnoaaLst
namespace Go.Proofs.Ytaabgcncacdnoaa
open Flt Ieee Go.RowKit

theorem roundW_int {x : Nat} (h : Fnt x) (h0 : x < 2 ^ 64) (k : Nat) : ∃ K, IsInt (roundW x k) (sg x) K ∧ (K = mag (rg x) / U ∨ (K = mag (rg x) / U + 1 ∧ mag (rg x) % U ≠ 0)) := by
  match k with
  | 0 => exact ⟨_, intW_int .down h h0, K_form _ _ _⟩
  | 1 => exact ⟨_, intW_int .up h h0, K_form _ _ _⟩
  | 2 => exact ⟨_, intW_int .zero h h0, K_form _ _ _⟩
  | 3 => exact ⟨_, awayW_int h h0, Kaway_form _⟩
  | _ + 4 => exact ⟨_, intW_int .even h h0, K_form _ _ _⟩
theorem roundW_of_mod {x : Nat} (h : Fnt x) (h0 : x < 2 ^ 64) (k : Nat) (c : mag (rg x) % U = 0) : roundW x k = x := by
  obtain ⟨K, h1, h2⟩ := roundW_int h h0 k
  rcases h2 with h2 | h2
  · rw [h2] at h1; exact isInt_eq h1 (isInt_of_mod h h0 c)
  · exact absurd c h2.2
theorem roundW_nonzero {x : Nat} (h : Fnt x) (h0 : x < 2 ^ 64) (k : Nat) (c : U ≤ mag (rg x)) : FloatKind.f64.format.order (roundW x k) 0 = some .lt ∨ FloatKind.f64.format.order (roundW x k) 0 = some .gt := by
  obtain ⟨K, h1, h2⟩ := roundW_int h h0 k
  have hp := div_pos c
  refine int_nonzero h1 ?_
  rcases h2 with h2 | h2
  · rw [h2]; exact hp
  · rw [h2.1]; exact Nat.succ_pos _
end Go.Proofs.Ytaabgcncacdnoaa
