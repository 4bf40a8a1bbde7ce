/- The contract of the reference's times at two numbers of two digits. Conditions: as each states. -/
import Derived.Test.YtnegjfdaijnadaaTww
namespace Go.Proofs.Ytnegjfdaijnadaa
open Flt Ieee Go.RowKit

theorem drewN_below (w : World) (n : Nat) : Below w.heap.size w (w.drewN n) := below_drewN (Below.refl _ _) n
/-- A number with one digit put in. -/
def putd (S t v : Nat) : Nat := S / 2 ^ (32 * (t + 1)) * 2 ^ (32 * (t + 1)) + v * 2 ^ (32 * t) + S % 2 ^ (32 * t)
theorem putd_form (S t v : Nat) : putd S t v = 2 ^ (32 * t) * (S / 2 ^ (32 * (t + 1)) * 4294967296 + v) + S % 2 ^ (32 * t) := by
  unfold putd
  rw [show 32 * (t + 1) = 32 + 32 * t by omega, Nat.pow_add]
  generalize S / (2 ^ 32 * 2 ^ (32 * t)) = H
  generalize 2 ^ (32 * t) = P
  rw [Nat.mul_add, Nat.mul_comm P (H * 4294967296), Nat.mul_assoc, Nat.mul_comm P v]
theorem putd_div (S t v : Nat) : putd S t v / 2 ^ (32 * t) = S / 2 ^ (32 * (t + 1)) * 4294967296 + v := by
  have hp := Nat.two_pow_pos (32 * t)
  rw [putd_form, Nat.mul_add_div hp, Nat.div_eq_of_lt (Nat.mod_lt _ hp), Nat.add_zero]
theorem putd_mod (S t v : Nat) : putd S t v % 2 ^ (32 * t) = S % 2 ^ (32 * t) := by
  rw [putd_form, Nat.mul_add_mod, Nat.mod_mod]
theorem putd_dgt (S t v j : Nat) (hv : v < 4294967296) : dgt (putd S t v) j = if j = t then v else dgt S j := by
  rcases Nat.lt_trichotomy j t with c | c | c
  · rw [if_neg (by omega)]
    exact dgt_congr (putd_mod S t v) c
  · subst c
    rw [if_pos rfl]
    unfold dgt
    rw [putd_div S j v]
    omega
  · rw [if_neg (by omega)]
    obtain ⟨d, rfl⟩ : ∃ d, j = t + 1 + d := ⟨j - t - 1, by omega⟩
    have key : ∀ X : Nat, X / 2 ^ (32 * (t + 1 + d)) = X / 2 ^ (32 * t) / 4294967296 / 2 ^ (32 * d) := by
      intro X
      rw [Nat.div_div_eq_div_mul, Nat.div_div_eq_div_mul]
      congr 1
      rw [show (4294967296 : Nat) = 2 ^ 32 from rfl, ← Nat.pow_add, ← Nat.pow_add]
      congr 1
      omega
    unfold dgt
    rw [key, key S, putd_div S t v, Nat.mul_comm, Nat.mul_add_div (by omega), Nat.div_eq_of_lt hv, Nat.add_zero]
    congr 2
    rw [Nat.div_div_eq_div_mul, show 32 * (t + 1) = 32 * t + 32 by omega, Nat.pow_add]
theorem putd_val (S t v : Nat) : putd S t v + dgt S t * 2 ^ (32 * t) = S + v * 2 ^ (32 * t) := by
  have h1 := dgt_split S t
  have h2 := Nat.div_add_mod S (2 ^ (32 * t))
  unfold putd
  rw [h1] at h2
  have e : S / 2 ^ (32 * (t + 1)) * 2 ^ (32 * (t + 1)) = 2 ^ (32 * t) * (S / 2 ^ (32 * (t + 1)) * 4294967296) := by
    rw [show 32 * (t + 1) = 32 + 32 * t by omega, Nat.pow_add]
    generalize S / (2 ^ 32 * 2 ^ (32 * t)) = H
    generalize 2 ^ (32 * t) = P
    rw [Nat.mul_comm P, Nat.mul_assoc]
  rw [e]
  rw [Nat.mul_add, Nat.mul_comm (2 ^ (32 * t)) (dgt S t)] at h2
  omega
/-- What the new row holds. -/
def TRel (w : World) (S : Nat) (wr : World) : Prop := (∀ j, j < 5 → wr.cell? ⟨w.heap.size, j, none⟩ = some (.int .u32 (dgt S j : Int))) ∧ (∀ j, wr.frozen? ⟨w.heap.size, j, none⟩ = false) ∧ w.heap.size < wr.heap.size ∧ Below w.heap.size w wr
theorem TRel.drewN {w wr : World} {S : Nat} (h : TRel w S wr) (n : Nat) : TRel w S (wr.drewN n) := ⟨h.1, h.2.1, h.2.2.1, below_drewN h.2.2.2 n⟩
theorem TRel.put {w wr : World} {S : Nat} (h : TRel w S wr) {t v : Nat} (ht : t < 5) (hv : v < 4294967296) : TRel w (putd S t v) (wr.setCell ⟨w.heap.size, t, none⟩ (.int .u32 (v : Int))) := by
  obtain ⟨h1, h2, h3, h4⟩ := h
  refine ⟨fun j hj => ?_, fun j => ?_, ?_, h4.setCell (Nat.le_refl _) _⟩
  · rw [putd_dgt S t v j hv]
    by_cases c : j = t
    · subst c
      rw [if_pos rfl]
      exact World.cell?_setCell_same _ _ _ (h1 j hj)
    · rw [if_neg c, World.cell?_setCell_other]
      · exact h1 j hj
      · intro e; cases e; exact c rfl
  · rw [World.frozen?_setCell]; exact h2 j
  · exact Nat.lt_of_lt_of_le h3 ((Below.refl w.heap.size wr).setCell (p := ⟨w.heap.size, t, none⟩) (Nat.le_refl _) (.int .u32 (v : Int))).size
theorem times_arith {S S' c c' v d m P X Y Z : Nat} (hv : S' + d * P = S + v * P) (hdm : 4294967296 * c' + v = d + m + c) (h : S + c * P = X + Y) (hZ : Z = m * P) : S' + c' * (4294967296 * P) = X + (Y + Z) := by
  have e2 : (d + m + c) * P = c' * (4294967296 * P) + v * P := by rw [← hdm, Nat.add_mul, Nat.mul_comm 4294967296 c', Nat.mul_assoc]
  rw [Nat.add_mul, Nat.add_mul] at e2
  generalize c' * (4294967296 * P) = T1 at *
  generalize v * P = T2 at *
  generalize d * P = T3 at *
  generalize m * P = T4 at *
  generalize c * P = T5 at *
  omega
theorem times_bounds {d m c : Nat} (hm : m ≤ 18446744065119617025) (hs : d < 4294967296) (hc : c < 4294967296) : IntKind.u64.wrap (m : Int) = (m : Int) ∧ IntKind.u64.wrap ((d : Int) + (m : Int)) = ((d + m : Nat) : Int) ∧ IntKind.u64.wrap (((d + m : Nat) : Int) + (c : Int)) = ((d + m + c : Nat) : Int) ∧ d + m + c < 18446744073709551616 ∧ (d + m + c) / 4294967296 < 4294967296 := by
  rw [IntKind.wrap_u64, IntKind.wrap_u64, IntKind.wrap_u64]
  refine ⟨by omega, by omega, by omega, by omega, by omega⟩
theorem mul_bound {a b : Nat} (ha : a < 4294967296) (hb : b < 4294967296) : a * b ≤ 18446744065119617025 := Nat.mul_le_mul (Nat.le_of_lt_succ ha) (Nat.le_of_lt_succ hb)
/-- One step of a row. -/
theorem times_step {A B S c i k : Nat} (hc : c < 4294967296) (h : S + c * 2 ^ (32 * (i + k)) = A % 2 ^ (32 * i) * B + dgt A i * (B % 2 ^ (32 * k)) * 2 ^ (32 * i)) :
    ∃ m x s v c' : Nat, IntKind.u64.wrap ((dgt A i : Int) * (dgt B k : Int)) = (m : Int) ∧ IntKind.u64.wrap ((dgt S (i + k) : Int) + (m : Int)) = (x : Int) ∧ IntKind.u64.wrap ((x : Int) + (c : Int)) = (s : Int) ∧ s < 18446744073709551616 ∧ s % 4294967296 = v ∧ s / 4294967296 = c' ∧ v < 4294967296 ∧ c' < 4294967296 ∧
      putd S (i + k) v + c' * 2 ^ (32 * (i + (k + 1))) = A % 2 ^ (32 * i) * B + dgt A i * (B % 2 ^ (32 * (k + 1))) * 2 ^ (32 * i) := by
  have ha := dgt_lt A i
  have hb := dgt_lt B k
  have hs := dgt_lt S (i + k)
  have hm := mul_bound ha hb
  obtain ⟨b1, b2, b3, b4, b5⟩ := times_bounds hm hs hc
  refine ⟨dgt A i * dgt B k, dgt S (i + k) + dgt A i * dgt B k, dgt S (i + k) + dgt A i * dgt B k + c, _, _, ?_, b2, b3, b4, rfl, rfl, Nat.mod_lt _ (by omega), b5, ?_⟩
  · rw [← Int.natCast_mul]; exact b1
  · have hv := putd_val S (i + k) ((dgt S (i + k) + dgt A i * dgt B k + c) % 4294967296)
    have eB : B % 2 ^ (32 * (k + 1)) = B % 2 ^ (32 * k) + 2 ^ (32 * k) * dgt B k := by
      rw [show 32 * (k + 1) = 32 * k + 32 by omega, Nat.pow_add, Nat.mod_mul]
      rfl
    have eP : 2 ^ (32 * (i + (k + 1))) = 4294967296 * 2 ^ (32 * (i + k)) := by
      rw [show 32 * (i + (k + 1)) = 32 + 32 * (i + k) by omega, Nat.pow_add]
    have eQ : 2 ^ (32 * (i + k)) = 2 ^ (32 * i) * 2 ^ (32 * k) := by rw [← Nat.pow_add, ← Nat.mul_add]
    have e1 : dgt A i * (2 ^ (32 * k) * dgt B k) * 2 ^ (32 * i) = dgt A i * dgt B k * 2 ^ (32 * (i + k)) := by
      rw [eQ, Nat.mul_comm (2 ^ (32 * k)), ← Nat.mul_assoc, Nat.mul_assoc, Nat.mul_comm (2 ^ (32 * k))]
    rw [eP, eB, Nat.mul_add (dgt A i), Nat.add_mul]
    exact times_arith hv (Nat.div_add_mod _ _) h e1
end Go.Proofs.Ytnegjfdaijnadaa
