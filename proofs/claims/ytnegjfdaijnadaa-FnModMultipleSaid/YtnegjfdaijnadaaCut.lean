/- The contract of the reference's cut. Conditions: as each states. -/
import Derived.Test.YtnegjfdaijnadaaNtl
namespace Go.Proofs.Ytnegjfdaijnadaa
open Flt Ieee Go.RowKit

theorem cut_step (Q m : Nat) : Q % 2 ^ (m + 1) = Q / 2 % 2 ^ m * 2 + Q % 2 := by
  rw [Nat.pow_succ, Nat.mul_comm, Nat.mod_mul]
  omega
theorem u64_push (o b : Nat) (ho : o < 9223372036854775808) (hb : b < 2) : bits .or .u64 ((o * 2 : Nat) : Int) (b : Int) = ((o * 2 + b : Nat) : Int) := by
  rw [u64_or_nat (o * 2) b (by omega) (by omega)]
  have e := Nat.two_pow_add_eq_or_of_lt (i := 1) (b := b) (by omega) o
  rw [Nat.pow_one, Nat.mul_comm] at e
  rw [← e]
set_option maxRecDepth 100000 in
theorem cut_any (v : Value) (N len n F : Nat) (w : World) (h : Dn w v N len) (hn : n ≤ 100000) (hF : N / 2 ^ n % 18446744073709551616 = F) :
    Calls Try.prog 58 #[v, .int .i64 (n : Int)] w fun e w' => e = .returned (.int .u64 (F : Int)) ∧ w = w' := by
  have HD := Lib.hid (fun (i : Nat) => digit_any v N len (i : Int) w h (dgt N i) (by rw [if_neg (by omega), Int.toNat_natCast]))
  obtain ⟨g, cap, rfl, g2, g3, g4, g5, -⟩ := h
  have HF := Lib.hid hF
  have HN := Lib.hid hn
  have n1 : (n : Int) ≤ 100000 := by omega
  have n2 : (0 : Int) ≤ (n : Int) := by omega
  clear g5 hF hn
  go_enter Try.func58, Try.ntmps58
  go_wp2_with fail
  go_loop [5, 6] (fun ov iv => ∃ j o : Nat, j ≤ 64 ∧ iv = .int .i64 ((n : Int) + (j : Int) - 1) ∧ ov = .int .u64 (o : Int) ∧ o = N / 2 ^ (n + j) % 2 ^ (64 - j)) (fun _ iv => (intOf iv - (n : Int) + 1).toNat)
  case atStart => exact ⟨64, 0, by omega, by go_num, rfl, by rw [Nat.sub_self, Nat.pow_zero, Nat.mod_one]⟩
  case round =>
    obtain ⟨j, o, hj, rfl, rfl, ho⟩ := hrel
    rcases j with _ | k
    · rw [Nat.add_zero] at ho
      have e : o = F := by rw [ho, ← HF.out]
      subst e
      clear ho hj
      have j1 : ¬ (n : Int) ≤ (n : Int) + ((0 : Nat) : Int) - 1 := by omega
      generalize (n : Int) + ((0 : Nat) : Int) - 1 = J at *
      go_wp2_with fail
      go_ret
      exact ⟨rfl, rfl⟩
    · have e0 : (n : Int) + ((k + 1 : Nat) : Int) - 1 = ((n + k : Nat) : Int) := by omega
      rw [e0]
      have hd := HD.out ((n + k) / 32)
      have hb := bit_dgt N (n + k)
      have hlt := dgt_lt N ((n + k) / 32)
      have hNb := HN.out
      have hol : o < 2 ^ (63 - k) := by rw [ho, show 64 - (k + 1) = 63 - k by omega]; exact Nat.mod_lt _ (Nat.two_pow_pos _)
      have hol2 : o < 9223372036854775808 := Nat.lt_of_lt_of_le hol (show 2 ^ (63 - k) ≤ 2 ^ 63 from Nat.pow_le_pow_right (by omega) (by omega))
      have hnew : o * 2 + N / 2 ^ (n + k) % 2 = N / 2 ^ (n + k) % 2 ^ (64 - k) := by
        have c := cut_step (N / 2 ^ (n + k)) (63 - k)
        rw [show 63 - k + 1 = 64 - k by omega] at c
        rw [c, ho, show 64 - (k + 1) = 63 - k by omega, Nat.div_div_eq_div_mul, ← Nat.pow_succ, show n + (k + 1) = (n + k).succ from rfl]
      obtain ⟨bt, hbt⟩ : ∃ b, N / 2 ^ (n + k) % 2 = b := ⟨_, rfl⟩
      have hbt2 : bt < 2 := by rw [← hbt]; exact Nat.mod_lt _ (by omega)
      rw [hbt] at hb hnew
      obtain ⟨o2, ho2⟩ : ∃ o2, o * 2 + bt = o2 := ⟨_, rfl⟩
      rw [ho2] at hnew
      have HW := Lib.hid hnew
      have HK := Lib.hid hj
      have q4 : bits .or .u64 ((o : Int) * 2) (bt : Int) = (o2 : Int) := by rw [← ho2]; exact u64_push o bt hol2 hbt2
      clear hnew hol ho hbt hj ho2
      generalize hi : n + k = i at *
      have t1 : (i : Int).tdiv 32 = ((i / 32 : Nat) : Int) := (Int.ofNat_tdiv i 32).symm
      have t2 : (i : Int).tmod 32 = ((i % 32 : Nat) : Int) := (Int.ofNat_tmod i 32).symm
      have r2 : i % 32 < 32 := Nat.mod_lt _ (by omega)
      have i1 : (n : Int) ≤ (i : Int) := by omega
      have i4 : (i : Int) ≤ 200000 := by have := HK.out; omega
      have i5 : (0 : Int) ≤ (i : Int) := by omega
      generalize dgt N (i / 32) = D at *
      have k1 : i / 32 ≤ 100000000 := by have := HK.out; omega
      generalize i / 32 = kk at *
      generalize i % 32 = r at *
      have q1 : (D : Int) / 2 ^ r = ((D / 2 ^ r : Nat) : Int) := by rw [Int.natCast_ediv, Int.natCast_pow]; rfl
      have q2 : D / 2 ^ r ≤ D := Nat.div_le_self _ _
      generalize hs : D / 2 ^ r = s at *
      have q3 := u64_bit s (by omega)
      rw [hb] at q3
      have r3 : (r : Int) < 32 := by omega
      have r4 : (0 : Int) ≤ (r : Int) := by omega
      have w1 : IntKind.u64.wrap ((o : Int) * 2) = (o : Int) * 2 := by rw [IntKind.wrap_u64]; omega
      clear hlt r2 q2 hs HD hb hNb
      go_wp2_with (go_at_call 55; (with_reducible refine hd.mono ?_); rintro e w' ⟨rfl, rfl⟩)
      go_round
      case rel => exact ⟨k, o2, by have := HK.out; omega, by have := hi; go_num, rfl, by rw [hi]; exact HW.out⟩
      case measure => simp [intOf]; omega
end Go.Proofs.Ytnegjfdaijnadaa
