/- Contracts of the reference's minus and twice. Conditions: as each states. -/
import Derived.Test.YtnegjfdaijnadaaCut
import Derived.OwnWalk
import Derived.Laws.AppendOwn
namespace Go.Proofs.Ytnegjfdaijnadaa
open Flt Ieee Go.RowKit

theorem info_u32 : (Try.prog.info? 48).map (fun i => (i.zero, i.size, i.bytes)) = some (some (.int .u32 0), 1, 4) := by kernel_rfl
/-- The first k digits. -/
def digs (N k : Nat) : List Value := (List.range k).map fun i => Value.int .u32 (dgt N i : Int)
theorem digs_length (N k : Nat) : (digs N k).length = k := by simp [digs]
theorem digs_succ (N k : Nat) : digs N (k + 1) = digs N k ++ [Value.int .u32 (dgt N k : Int)] := by simp [digs, List.range_succ]
theorem digs_get (N k i : Nat) (h : i < k) : (digs N k)[i]? = some (Value.int .u32 (dgt N i : Int)) := by simp [digs, h]
theorem dgt_congr {N M k i : Nat} (h : N % 2 ^ (32 * k) = M % 2 ^ (32 * k)) (hi : i < k) : dgt N i = dgt M i := by
  have key : ∀ X : Nat, dgt (X % 2 ^ (32 * k)) i = dgt X i := by
    intro X
    unfold dgt
    obtain ⟨d, hd⟩ : ∃ d, 32 * k = 32 * i + (32 + d) := ⟨32 * k - 32 * i - 32, by omega⟩
    rw [hd, Nat.pow_add, Nat.mod_mul_right_div_self, Nat.pow_add, Nat.mod_mul_right_mod]
  rw [← key N, ← key M, h]
/-- A row that the call owns, as a number. -/
theorem Dn_of_owns {w : World} {base k N : Nat} {v : Value} (h : w.ownsRow base 48 1 v k (digs N k)) (hv : v ≠ .slice none 0 0) (hN : N < 2 ^ (32 * k)) (hk : k ≤ 1000000) : Dn w v N k := by
  have h0 := h
  rcases h.2 with ⟨q, -⟩ | ⟨g, cap, cur, rfl, -, -, q2, -⟩
  · exact absurd q hv
  · refine ⟨g, cap, rfl, (h0.lt g rfl).2, q2, hk, hN, fun i hi => ?_⟩
    have := h0.cells (g := g) rfl i _ (digs_get N k i hi)
    rw [← this]
    rcases i with _ | i
    · rfl
    · simp [Addr.add]
/-! ### minus -/
theorem minus_step {A B k : Nat} (h : B ≤ A) : ∃ x d : Nat, IntKind.u64.wrap ((dgt A k : Int) - (dgt B k : Int)) = (x : Int) ∧ IntKind.u64.wrap ((x : Int) - ((if A % 2 ^ (32 * k) < B % 2 ^ (32 * k) then 1 else 0 : Nat) : Int)) = (d : Int) ∧ d < 18446744073709551616 ∧
    d % 4294967296 = dgt (A - B) k ∧ d / 9223372036854775808 = (if A % 2 ^ (32 * (k + 1)) < B % 2 ^ (32 * (k + 1)) then 1 else 0) := by
  have hp := Nat.two_pow_pos (32 * k)
  have e1 : ∀ X : Nat, X % 2 ^ (32 * (k + 1)) = X % 2 ^ (32 * k) + 2 ^ (32 * k) * dgt X k := by
    intro X
    rw [show 32 * (k + 1) = 32 * k + 32 by omega, Nat.pow_add, Nat.mod_mul]
    rfl
  have hd : dgt (A - B) k = (A - B) / 2 ^ (32 * k) % 4294967296 := rfl
  have ha : dgt A k = A / 2 ^ (32 * k) % 4294967296 := rfl
  have hb : dgt B k = B / 2 ^ (32 * k) % 4294967296 := rfl
  rw [e1 A, e1 B]
  have hla := dgt_lt A k
  have hlb := dgt_lt B k
  have da := Nat.div_add_mod A (2 ^ (32 * k))
  have db := Nat.div_add_mod B (2 ^ (32 * k))
  have ma := Nat.mod_lt A hp
  have mb := Nat.mod_lt B hp
  -- the quotient of the difference
  have hq : (A - B) / 2 ^ (32 * k) + B / 2 ^ (32 * k) + (if A % 2 ^ (32 * k) < B % 2 ^ (32 * k) then 1 else 0) = A / 2 ^ (32 * k) := by
    generalize 2 ^ (32 * k) = P at *
    generalize A / P = qa at *
    generalize B / P = qb at *
    generalize A % P = ra at *
    generalize B % P = rb at *
    by_cases c : ra < rb
    · rw [if_pos c]
      have hlt : qb < qa := by
        rcases Nat.lt_or_ge qb qa with z | z
        · exact z
        · have := Nat.mul_le_mul_left P z
          omega
      obtain ⟨t, ht⟩ : ∃ t, qa = qb + 1 + t := ⟨qa - qb - 1, by omega⟩
      have e : A - B = P * t + (P + ra - rb) := by
        rw [← da, ← db, ht, Nat.mul_add, Nat.mul_add, Nat.mul_one]; omega
      rw [e, Nat.mul_add_div hp, Nat.div_eq_of_lt (by omega)]
      omega
    · rw [if_neg c]
      have hle : qb ≤ qa := by
        rcases Nat.lt_or_ge qa qb with z | z
        · have := Nat.mul_le_mul_left P (show qa + 1 ≤ qb from z)
          rw [Nat.mul_add, Nat.mul_one] at this
          omega
        · exact z
      obtain ⟨t, ht⟩ : ∃ t, qa = qb + t := ⟨qa - qb, by omega⟩
      have e : A - B = P * t + (ra - rb) := by
        rw [← da, ← db, ht, Nat.mul_add]; omega
      rw [e, Nat.mul_add_div hp, Nat.div_eq_of_lt (by omega)]
      omega
  have hbor : (A % 2 ^ (32 * k) + 2 ^ (32 * k) * dgt A k < B % 2 ^ (32 * k) + 2 ^ (32 * k) * dgt B k) ↔ dgt A k < dgt B k + (if A % 2 ^ (32 * k) < B % 2 ^ (32 * k) then 1 else 0) := by
    generalize dgt A k = a at *
    generalize dgt B k = b at *
    generalize 2 ^ (32 * k) = P at *
    generalize A % P = ra at *
    generalize B % P = rb at *
    rcases Nat.lt_trichotomy a b with z | z | z
    · have := Nat.mul_le_mul_left P (show a + 1 ≤ b from z)
      rw [Nat.mul_add, Nat.mul_one] at this
      constructor
      · intro _; omega
      · intro _; omega
    · subst z
      by_cases c : ra < rb
      · rw [if_pos c]; omega
      · rw [if_neg c]; omega
    · have := Nat.mul_le_mul_left P (show b + 1 ≤ a from z)
      rw [Nat.mul_add, Nat.mul_one] at this
      constructor
      · intro _; omega
      · intro z2
        have : (if ra < rb then 1 else 0) ≤ 1 := by split <;> omega
        omega
  simp only [hbor]
  rw [hd]
  have hbo : (if A % 2 ^ (32 * k) < B % 2 ^ (32 * k) then 1 else 0 : Nat) ≤ 1 := by split <;> omega
  clear hbor e1 hd da db ma mb
  rw [ha] at hla ⊢
  rw [hb] at hlb ⊢
  clear ha hb
  generalize (if A % 2 ^ (32 * k) < B % 2 ^ (32 * k) then 1 else 0 : Nat) = bo at *
  generalize (A - B) / 2 ^ (32 * k) = qd at *
  generalize A / 2 ^ (32 * k) = qa at *
  generalize B / 2 ^ (32 * k) = qb at *
  clear hp h
  refine ⟨(qa % 4294967296 + 18446744073709551616 - qb % 4294967296) % 18446744073709551616, ((qa % 4294967296 + 18446744073709551616 - qb % 4294967296) % 18446744073709551616 + 18446744073709551616 - bo) % 18446744073709551616, ?_, ?_, ?_, ?_, ?_⟩
  · rw [IntKind.wrap_u64]; omega
  · rw [IntKind.wrap_u64]; omega
  · omega
  · omega
  · split <;> omega
theorem borrow_zero (A B : Nat) : (if A % 2 ^ (32 * 0) < B % 2 ^ (32 * 0) then 1 else 0) = 0 := by
  rw [Nat.mul_zero, Nat.pow_zero, Nat.mod_one, Nat.mod_one, if_neg (by omega)]
end Go.Proofs.Ytnegjfdaijnadaa
