/- The reference's FMA of an integer times a number, less the rounded product: 0 just where the product is exact. Conditions: as each states. -/
import Derived.Test.YtnegjfdaijnadaaSum
namespace Go.Proofs.Ytnegjfdaijnadaa
open Flt Ieee Go.RowKit

theorem pow_big {X a b : Nat} (h : X < 2 ^ a) (hab : a ≤ b) : X < 2 ^ b := Nat.lt_of_lt_of_le h (Nat.pow_le_pow_right (by omega) hab)
theorem big_mul (B X k n : Nat) (h1 : X < 2 ^ (32 * k)) (h : 32 * k + n ≤ B) : X * 2 ^ n < 2 ^ B := by
  have h4 : X * 2 ^ n < 2 ^ (32 * k) * 2 ^ n := (Nat.mul_lt_mul_right (Nat.two_pow_pos n)).2 h1
  rw [← Nat.pow_add] at h4
  exact pow_big h4 h
theorem sum_any (ua ub : Value) (A B la lb : Nat) (e f : Int) (w : World) (ha : Dn w ua A la) (hta : Trimmed A la) (hb : Dn w ub B lb) (htb : Trimmed B lb) (hA : A < 2 ^ (32 * 4)) (hB : B < 2 ^ (32 * 2)) (e1 : -9000 ≤ e) (e2 : e ≤ 9000) (f1 : -9000 ≤ f) (f2 : f ≤ 9000)
    (hdiv : min e f < -1074 → ∃ c d, A * 2 ^ (e - f).toNat = c * 2 ^ (-1074 - min e f).toNat ∧ B * 2 ^ (f - e).toNat = d * 2 ^ (-1074 - min e f).toNat) :
    Calls Try.prog 46 #[.bool false, ua, .int .i64 e, .bool true, ub, .int .i64 f] w fun r w' => ∃ z, r = .returned (.float .f64 z) ∧ (A * 2 ^ (e - f).toNat = B * 2 ^ (f - e).toNat → z = 0) ∧ (A * 2 ^ (e - f).toNat ≠ B * 2 ^ (f - e).toNat → Nz z) ∧ Below w.heap.size w w' := by
  have hla := tr_len' hta hA
  have hlb := tr_len' htb hB
  have bA := big_mul (32 * 900) A 4 (e - f).toNat hA (by omega)
  have bB := big_mul (32 * 900) B 2 (f - e).toNat hB (by omega)
  by_cases c : f < e
  · have hTa := twice_any ua A la (e - f).toNat w ha (by omega) (by omega)
    rw [show (((e - f).toNat : Nat) : Int) = e - f by omega] at hTa
    rw [show min e f = f by omega] at hdiv
    refine sum_gt ua ub (A * 2 ^ (e - f).toNat) (B * 2 ^ (f - e).toNat) e f w c f1 e2 hTa ?_ bA bB hdiv
    intro u hu
    have := twice_any ub B lb 0 u (hb.below hu) (by omega) (by omega)
    rw [show (f - e).toNat = 0 by omega]
    exact this
  · have hTb := twice_any ub B lb (f - e).toNat w hb (by omega) (by omega)
    rw [show (((f - e).toNat : Nat) : Int) = f - e by omega] at hTb
    rw [show min e f = e by omega] at hdiv
    have e0 : A * 2 ^ (e - f).toNat = A := by rw [show (e - f).toNat = 0 by omega, Nat.pow_zero, Nat.mul_one]
    rw [e0] at hdiv bA ⊢
    exact sum_le ua ub A (B * 2 ^ (f - e).toNat) la e f w c e1 f2 ha hta hTb bA bB hdiv
theorem natural_two (x : Nat) (w : World) (h1 : 2 ^ 52 ≤ x) (h2 : x < 2 ^ 53) :
    Calls Try.prog 44 #[.int .u64 (x : Int)] w fun e w' => ∃ v', e = .returned v' ∧ Dn w' v' x 2 ∧ Below w.heap.size w w' := by
  refine (natural_any x w (by omega)).mono ?_
  rintro e w' ⟨v', rfl, len, hd, ht, hb⟩
  have hl := tr_len ht (by omega)
  have h5 : x < 2 ^ (32 * len) := by obtain ⟨-, -, -, -, -, -, h5, -⟩ := hd; exact h5
  have e2 : len = 2 := by
    have h : len = 0 ∨ len = 1 ∨ len = 2 := by omega
    rcases h with h | h | h
    · subst h; rw [Nat.mul_zero, Nat.pow_zero] at h5; omega
    · subst h; rw [Nat.mul_one] at h5; omega
    · exact h
  rw [e2] at hd
  exact ⟨v', rfl, hd, hb⟩
/-- The numbers of the sum against those of the product. -/
theorem fma_plain {n Y P M1 M2 K E1 E2 E3 : Nat} (h1 : n * U * 2 ^ 52 = M1 * 2 ^ E1) (h2 : Y * 2 ^ 52 = M2 * 2 ^ E2) (h3 : P * 2 ^ 52 = K * 2 ^ E3) :
    (M1 * M2 * 2 ^ (((E1 : Int) - 1126 + ((E2 : Int) - 1126)) - ((E3 : Int) - 1126)).toNat = K * 2 ^ (((E3 : Int) - 1126) - ((E1 : Int) - 1126 + ((E2 : Int) - 1126))).toNat ↔ n * Y = P) ∧
    (min ((E1 : Int) - 1126 + ((E2 : Int) - 1126)) ((E3 : Int) - 1126) < -1074 → ∃ c d, M1 * M2 * 2 ^ (((E1 : Int) - 1126 + ((E2 : Int) - 1126)) - ((E3 : Int) - 1126)).toNat = c * 2 ^ (-1074 - min ((E1 : Int) - 1126 + ((E2 : Int) - 1126)) ((E3 : Int) - 1126)).toNat ∧ K * 2 ^ (((E3 : Int) - 1126) - ((E1 : Int) - 1126 + ((E2 : Int) - 1126))).toNat = d * 2 ^ (-1074 - min ((E1 : Int) - 1126 + ((E2 : Int) - 1126)) ((E3 : Int) - 1126)).toNat) := by
  have hu : UE = 1074 := UE_eq
  obtain ⟨a, ha⟩ : ∃ a, (((E1 : Int) - 1126 + ((E2 : Int) - 1126)) - ((E3 : Int) - 1126)).toNat = a := ⟨_, rfl⟩
  obtain ⟨b, hb⟩ : ∃ b, (((E3 : Int) - 1126) - ((E1 : Int) - 1126 + ((E2 : Int) - 1126))).toNat = b := ⟨_, rfl⟩
  obtain ⟨m, hm⟩ : ∃ m, min ((E1 : Int) - 1126 + ((E2 : Int) - 1126)) ((E3 : Int) - 1126) = m := ⟨_, rfl⟩
  rw [ha, hb, hm]
  obtain ⟨w, hw⟩ : ∃ w : Nat, m + 2252 = (w : Int) := ⟨(m + 2252).toNat, by omega⟩
  have hwa : E1 + E2 = w + a := by omega
  have hwb : E3 + (52 + UE) = w + b := by omega
  have q1 : M1 * M2 * 2 ^ a * 2 ^ w = n * Y * (U * (2 ^ 52 * 2 ^ 52)) := by
    have : M1 * M2 * 2 ^ a * 2 ^ w = (M1 * 2 ^ E1) * (M2 * 2 ^ E2) := by
      rw [Nat.mul_assoc, ← Nat.pow_add, Nat.add_comm a w, ← hwa, Nat.pow_add, Nat.mul_assoc, Nat.mul_assoc, Nat.mul_left_comm M2]
    rw [this, ← h1, ← h2]
    generalize 2 ^ 52 = Q
    rw [Nat.mul_assoc n U Q, Nat.mul_assoc n, Nat.mul_assoc n]
    congr 1
    rw [Nat.mul_assoc U, Nat.mul_left_comm Q Y Q, Nat.mul_left_comm U Y]
  have q2 : K * 2 ^ b * 2 ^ w = P * (U * (2 ^ 52 * 2 ^ 52)) := by
    have : K * 2 ^ b * 2 ^ w = K * 2 ^ E3 * (2 ^ 52 * 2 ^ UE) := by
      rw [Nat.mul_assoc, ← Nat.pow_add, Nat.add_comm b w, ← hwb, Nat.pow_add, Nat.pow_add, Nat.mul_assoc]
    rw [this, ← h3, show (2 ^ UE : Nat) = U from rfl]
    generalize 2 ^ 52 = Q
    rw [Nat.mul_assoc, Nat.mul_comm U, ← Nat.mul_assoc Q Q U]
  have hV : 0 < U * (2 ^ 52 * 2 ^ 52) := Nat.mul_pos U_pos (by omega)
  have hW := Nat.two_pow_pos w
  constructor
  · constructor
    · intro h
      rw [h, q2] at q1
      exact (Nat.eq_of_mul_eq_mul_right hV q1).symm
    · intro h
      rw [h, ← q2] at q1
      exact Nat.eq_of_mul_eq_mul_right hW q1
  · intro h
    obtain ⟨d, hd⟩ : ∃ d : Nat, (-1074 - m).toNat = d := ⟨_, rfl⟩
    have hwd : UE + (52 + 52) = d + w := by omega
    have eV : U * (2 ^ 52 * 2 ^ 52) = 2 ^ d * 2 ^ w := by
      have e9 : 2 ^ (UE + (52 + 52)) = 2 ^ (d + w) := by rw [hwd]
      rw [Nat.pow_add 2 UE, Nat.pow_add 2 52, Nat.pow_add 2 d] at e9
      exact e9
    rw [eV, ← Nat.mul_assoc] at q1 q2
    rw [hd]
    exact ⟨n * Y, P, Nat.eq_of_mul_eq_mul_right hW q1, Nat.eq_of_mul_eq_mul_right hW q2⟩
end Go.Proofs.Ytnegjfdaijnadaa
