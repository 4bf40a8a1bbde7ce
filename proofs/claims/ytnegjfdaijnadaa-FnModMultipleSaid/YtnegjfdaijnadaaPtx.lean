/- Contracts of the reference's rest and power. Conditions: as each states. -/
import Derived.Test.YtnegjfdaijnadaaPtw
namespace Go.Proofs.Ytnegjfdaijnadaa
open Flt Ieee Go.RowKit

/-! ### rest -/
theorem rest_step (A n : Nat) (hn : 0 < n) : (A * 2) % n = (if n ≤ 2 * (A % n) then 2 * (A % n) - n else 2 * (A % n)) ∧ (decide ((A * 2) / n % 2 = 1)) = decide (n ≤ 2 * (A % n)) := by
  have h := Nat.div_add_mod A n
  have hm := Nat.mod_lt A hn
  generalize A % n = r at *
  generalize hq : A / n = q at *
  by_cases c : n ≤ 2 * r
  · rw [if_pos c]
    have e : A * 2 = (2 * r - n) + n * (2 * q + 1) := by
      rw [← h, Nat.mul_add, Nat.mul_one, Nat.mul_comm 2 q, ← Nat.mul_assoc, Nat.add_mul]; omega
    rw [e, Nat.add_mul_mod_self_left, Nat.mod_eq_of_lt (by omega), Nat.add_mul_div_left _ _ hn, Nat.div_eq_of_lt (by omega)]
    exact ⟨rfl, decide_eq_decide.2 (by omega)⟩
  · rw [if_neg c]
    have e : A * 2 = 2 * r + n * (2 * q) := by
      rw [← h, Nat.mul_comm 2 q, ← Nat.mul_assoc, Nat.add_mul]; omega
    rw [e, Nat.add_mul_mod_self_left, Nat.mod_eq_of_lt (by omega), Nat.add_mul_div_left _ _ hn, Nat.div_eq_of_lt (by omega)]
    exact ⟨rfl, decide_eq_decide.2 (by omega)⟩
def RestRel (m n k : Nat) (kv rv ov : Value) : Prop := ∃ i j : Nat, i + j = k ∧ kv = .int .i64 (j : Int) ∧ rv = .int .u64 (((m * 2 ^ i) % n : Nat) : Int) ∧ ov = .bool (decide ((m * 2 ^ i) / n % 2 = 1))
set_option maxRecDepth 100000 in
set_option maxHeartbeats 2000000 in
theorem rest_any (m n k F : Nat) (B : Bool) (w : World) (hn : 0 < n) (hn2 : n < 2 ^ 60) (hm : m < 2 ^ 60) (hk : k ≤ 100000) (hF : (m * 2 ^ k) % n = F) (hB : decide ((m * 2 ^ k) / n % 2 = 1) = B) :
    Calls Try.prog 38 #[.int .u64 (m : Int), .int .u64 (n : Int), .int .i64 (k : Int)] w fun e' w' => e' = .returned (.tuple #[.int .u64 (F : Int), .bool B]) ∧ w = w' := by
  have HF := Lib.hid (And.intro hF hB)
  clear hF hB
  have z1 : ((n : Int) == 0) = false := by rw [beq_eq_false_iff_ne]; omega
  have z2 : ¬ (n : Int) = 0 := by omega
  have z3 : IntKind.u64.wrap ((m : Int) / (n : Int)) = ((m / n : Nat) : Int) := by
    have h1 : m / n ≤ m := Nat.div_le_self _ _
    rw [IntKind.wrap_u64, ← Int.natCast_ediv]
    generalize m / n = q at *
    omega
  have z4 : (((m / n : Nat) : Int).tmod 2 == 1) = decide (m / n % 2 = 1) := by
    generalize m / n = q
    rw [show (q : Int).tmod 2 = ((q % 2 : Nat) : Int) from (Int.ofNat_tmod q 2).symm]
    by_cases c : q % 2 = 1
    · rw [c]; rfl
    · rw [decide_eq_false c, beq_eq_false_iff_ne]; omega
  have z5 : (m : Int) % (n : Int) = ((m % n : Nat) : Int) := (Int.natCast_emod m n).symm
  have HK := Lib.hid hk
  clear hm hk
  go_enter Try.func38, Try.ntmps38
  go_wp2_with fail
  go_loop [2, 8, 9] (fun kv rv ov => RestRel m n k kv rv ov) (fun kv _ _ => (intOf kv).toNat)
  case atStart => exact ⟨0, k, by omega, rfl, by rw [Nat.pow_zero, Nat.mul_one, Int.natCast_emod], by rw [Nat.pow_zero, Nat.mul_one, ← z4, Int.natCast_ediv]⟩
  case round =>
    clear z3 z4 z5
    obtain ⟨i, j, hij, rfl, rfl, rfl⟩ := hrel
    have hkk := HK.out
    by_cases c : j = 0
    · subst c
      obtain rfl : i = k := by omega
      clear hij hkk HK hn hn2
      rw [HF.out.1, HF.out.2]
      go_wp2_with fail
      go_ret2
      exact ⟨rfl, rfl⟩
    · obtain ⟨st1, st2⟩ := rest_step (m * 2 ^ i) n hn
      have hr := Nat.mod_lt (m * 2 ^ i) hn
      have e1 : m * 2 ^ i * 2 = m * 2 ^ (i + 1) := by rw [Nat.pow_succ, Nat.mul_assoc]
      rw [e1] at st1 st2
      have HS := Lib.hid (And.intro st1 st2)
      have HIJ := Lib.hid hij
      clear st1 st2 e1
      generalize hR : m * 2 ^ i % n = R at *
      generalize m * 2 ^ i / n % 2 = S at *
      have c1 : (0 : Int) < (j : Int) := by omega
      have c2 : (j : Int) ≤ 100000 := by omega
      have j1 : ((j : Int) - 1) = ((j - 1 : Nat) : Int) := by omega
      have HJ := Lib.hid j1
      clear j1 hR
      by_cases d : n ≤ 2 * R
      · have d1 : (n : Int) ≤ 2 * (R : Int) := by omega
        have w1 : IntKind.u64.wrap (2 * (R : Int)) = 2 * (R : Int) := by rw [IntKind.wrap_u64]; omega
        have w2 : n ≤ 2 * R → IntKind.u64.wrap (2 * (R : Int) - (n : Int)) = 2 * (R : Int) - (n : Int) := fun q => by rw [IntKind.wrap_u64]; omega
        have HD := Lib.hid d
        try have w2 := w2 d
        clear d hij hkk hn hn2 hr
        go_wp2_with fail
        go_round
        case rel =>
          refine ⟨i + 1, j - 1, by have := HIJ.out; omega, by rw [HJ.out], ?_, ?_⟩
          · rw [HS.out.1, if_pos HD.out]; congr 1; have := HD.out; have := w2; omega
          · rw [HS.out.2, decide_eq_true HD.out]
        case measure => simp [intOf]; omega
      · have d1 : ¬ (n : Int) ≤ 2 * (R : Int) := by omega
        have w1 : IntKind.u64.wrap (2 * (R : Int)) = 2 * (R : Int) := by rw [IntKind.wrap_u64]; omega
        have w2 : n ≤ 2 * R → IntKind.u64.wrap (2 * (R : Int) - (n : Int)) = 2 * (R : Int) - (n : Int) := fun q => by rw [IntKind.wrap_u64]; omega
        have HD := Lib.hid d
        try have w2 := w2 d
        clear d hij hkk hn hn2 hr
        go_wp2_with fail
        go_round
        case rel =>
          refine ⟨i + 1, j - 1, by have := HIJ.out; omega, by rw [HJ.out], ?_, ?_⟩
          · rw [HS.out.1, if_neg HD.out]; congr 1
          · rw [HS.out.2, decide_eq_false HD.out]
        case measure => simp [intOf]; omega
end Go.Proofs.Ytnegjfdaijnadaa
