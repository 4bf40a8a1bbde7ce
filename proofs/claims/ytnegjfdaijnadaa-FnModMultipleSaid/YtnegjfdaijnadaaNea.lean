/- The reference's nearest is not 0 where the number is not 0 and nothing is cut off below. Conditions: as each states. -/
import Derived.Test.YtnegjfdaijnadaaPwz
namespace Go.Proofs.Ytnegjfdaijnadaa
open Flt Ieee Go.RowKit

theorem binary_det (v : Value) (N len b : Nat) (w : World) (h : Dn w v N len) (hb : 1 ≤ b) (h1 : 2 ^ (b - 1) ≤ N) (h2 : N < 2 ^ b) :
    Calls Try.prog 57 #[v] w fun e w' => e = .returned (.int .i64 (b : Int)) ∧ w = w' := by
  refine (binary_any v N len w h).mono ?_
  rintro e w' ⟨n, rfl, -, n2, n3, rfl⟩
  have hp : 0 < 2 ^ (b - 1) := Nat.two_pow_pos _
  have e : n = b := by
    rcases n3 with z | z
    · subst z; rw [Nat.pow_zero] at n2; omega
    · have a1 : 2 ^ (b - 1) < 2 ^ n := Nat.lt_of_le_of_lt h1 n2
      have a2 : 2 ^ (n - 1) < 2 ^ b := Nat.lt_of_le_of_lt z h2
      have a3 := (Nat.pow_lt_pow_iff_right (a := 2) (by omega)).1 a1
      have a4 := (Nat.pow_lt_pow_iff_right (a := 2) (by omega)).1 a2
      have hn0 : n ≠ 0 := by intro q; rw [q] at a3; omega
      omega
  rw [e]
  exact ⟨rfl, rfl⟩
theorem tr_len {x len : Nat} (h : Trimmed x len) (hx : x < 18446744073709551616) : len ≤ 2 := by
  rcases h with h | h
  · omega
  · rcases Nat.lt_or_ge 2 len with c | c
    · have : 2 ^ (32 * 2) ≤ 2 ^ (32 * (len - 1)) := Nat.pow_le_pow_right (by omega) (by omega)
      omega
    · exact c
set_option maxRecDepth 100000 in
theorem nearest_small (v : Value) (N len b : Nat) (e : Int) (w : World) (h : Dn w v N len) (hb : 1 ≤ b) (h1 : 2 ^ (b - 1) ≤ N) (h2 : N < 2 ^ b) (b53 : b ≤ 53) (e1 : -1074 ≤ e) (e2 : e ≤ 90000) :
    Calls Try.prog 45 #[v, .int .i64 e] w fun r w' => ∃ z, r = .returned (.float .f64 z) ∧ Nz z ∧ Below w.heap.size w w' := by
  have hB := binary_det v N len b w h hb h1 h2
  have hp : 0 < 2 ^ (b - 1) := Nat.two_pow_pos _
  have h53 : N < 2 ^ 53 := Nat.lt_of_lt_of_le h2 (Nat.pow_le_pow_right (by omega) b53)
  have hC := cut_any v N len 0 N w h (by omega) (by rw [Nat.pow_zero, Nat.div_one, Nat.mod_eq_of_lt (by omega)])
  have hC' : Calls Try.prog 58 #[v, .int .i64 0] w fun e w' => e = .returned (.int .u64 (N : Int)) ∧ w = w' := hC
  have hP := power_nz N e w (by omega) (by omega) e1 e2
  have hlen : len ≠ 0 := by
    intro q
    obtain ⟨-, -, -, -, -, -, h5, -⟩ := h
    rw [q, Nat.mul_zero, Nat.pow_zero] at h5
    omega
  obtain ⟨g, cap, rfl, -, -, h4, -, -⟩ := h
  have l1 : ((len : Int) == 0) = false := by rw [beq_eq_false_iff_ne]; omega
  have l2 : ¬ (len : Int) = 0 := by omega
  have b1 : (b : Int) ≤ 53 := by omega
  have b2 : (1 : Int) ≤ (b : Int) := by omega
  clear h1 h2 hp h53 hC hlen hb b53 h4
  by_cases c : (b : Int) - 53 < -1074 - e
  · have c2 : -1074 - e ≤ 0 := by omega
    go_enter Try.func45, Try.ntmps45
    go_wp2_with (first | (go_at_call 57; (with_reducible refine hB.mono ?_); rintro e w' ⟨rfl, rfl⟩) | (go_at_call 58; (with_reducible refine hC'.mono ?_); rintro e w' ⟨rfl, rfl⟩) | (go_at_call 54; (with_reducible refine hP.mono ?_); rintro r w' ⟨z, rfl, hz, hbw⟩))
    go_ret
    exact ⟨_, rfl, hz, hbw⟩
  · have c2 : (b : Int) - 53 ≤ 0 := by omega
    go_enter Try.func45, Try.ntmps45
    go_wp2_with (first | (go_at_call 57; (with_reducible refine hB.mono ?_); rintro e w' ⟨rfl, rfl⟩) | (go_at_call 58; (with_reducible refine hC'.mono ?_); rintro e w' ⟨rfl, rfl⟩) | (go_at_call 54; (with_reducible refine hP.mono ?_); rintro r w' ⟨z, rfl, hz, hbw⟩))
    go_ret
    exact ⟨_, rfl, hz, hbw⟩
theorem below_then {a b c : World} (h : Below a.heap.size a b) (k : Below b.heap.size b c) : Below a.heap.size a c := h.trans (k.mono h.size)
theorem twice_nat (u : Value) (A la n : Nat) (w : World) (ha : Dn w u A la) (ht : Trimmed A la) (hA : A < 18446744073709551616) (hn : n ≤ 90000) :
    Calls Try.prog 60 #[u, .int .i64 (n : Int)] w fun e w' => ∃ v', e = .returned v' ∧ ∃ len', Dn w' v' (A * 2 ^ n) len' ∧ Trimmed (A * 2 ^ n) len' ∧ Below w.heap.size w w' :=
  twice_any u A la n w ha (by have := tr_len ht hA; omega) (by omega)
theorem cmpI_cases (a b : Nat) : cmpI a b = 1 ∨ cmpI a b = 0 ∨ cmpI a b = -1 := by
  unfold cmpI
  split
  · exact .inr (.inr rfl)
  · split
    · exact .inl rfl
    · exact .inr (.inl rfl)
set_option maxRecDepth 100000 in
set_option maxHeartbeats 4000000 in
theorem nearest_big (v : Value) (N len b n : Nat) (e : Int) (w : World) (h : Dn w v N len) (hlen : len ≤ 5000) (hb : 1 ≤ b) (h1 : 2 ^ (b - 1) ≤ N) (h2 : N < 2 ^ b) (hn : 1 ≤ n) (hn2 : n ≤ 90000)
    (hnn : (b : Int) - 53 < -1074 - e ∧ (n : Int) = -1074 - e ∨ ¬ (b : Int) - 53 < -1074 - e ∧ (n : Int) = (b : Int) - 53) (hq1 : 1 ≤ N / 2 ^ n) (hq2 : N / 2 ^ n < 2 ^ 53) (e1 : -1074 ≤ e + n) (e2 : e + n ≤ 90000) (e3 : -90000 ≤ e) (e4 : e ≤ 90000) (hb2 : b ≤ 900000) :
    Calls Try.prog 45 #[v, .int .i64 e] w fun r w' => ∃ z, r = .returned (.float .f64 z) ∧ Nz z ∧ Below w.heap.size w w' := by
  have hB := binary_det v N len b w h hb h1 h2
  have hp : 0 < 2 ^ (b - 1) := Nat.two_pow_pos _
  obtain ⟨q, hq⟩ : ∃ q, N / 2 ^ n = q := ⟨_, rfl⟩
  have hqn : q * 2 ^ n ≤ N := by rw [← hq]; exact Nat.div_mul_le_self _ _
  rw [hq] at hq1 hq2
  have hC := cut_any v N len n q w h (by omega) (by rw [hq, Nat.mod_eq_of_lt (by omega)])
  have hNq := fun (u : World) => natural_any q u (by omega)
  have hN1 : ∀ (u : World), Calls Try.prog 44 #[.int .u64 1] u fun e w' => ∃ v', e = .returned v' ∧ ∃ len', Dn w' v' 1 len' ∧ Trimmed 1 len' ∧ Below u.heap.size u w' := fun u => natural_any 1 u (by omega)
  have hP1 := fun (u : World) => power_nz q (e + n) u hq1 (by omega) e1 e2
  have hP2 := fun (u : World) => power_nz (q + 1) (e + n) u (by omega) (by omega) e1 e2
  have hl0 : len ≠ 0 := by
    intro z
    obtain ⟨-, -, -, -, -, -, h5, -⟩ := h
    rw [z, Nat.mul_zero, Nat.pow_zero] at h5
    omega
  have HD := Lib.hid h
  obtain ⟨g, cap, rfl, -, -, h4, -, -⟩ := h
  have l1 : ((len : Int) == 0) = false := by rw [beq_eq_false_iff_ne]; omega
  have l2 : ¬ (len : Int) = 0 := by omega
  have b1 : (b : Int) ≤ 900000 := by omega
  have b2 : (1 : Int) ≤ (b : Int) := by omega
  have n1 : ¬ (n : Int) ≤ 0 := by omega
  have n2 : (n : Int) ≤ 90000 := by omega
  have n3 : (n : Int) - 1 = ((n - 1 : Nat) : Int) := by omega
  have w1 : IntKind.u64.wrap ((q : Int) + 1) = ((q + 1 : Nat) : Int) := by rw [IntKind.wrap_u64]; omega
  have HQ := Lib.hid hqn
  have HQ2 := Lib.hid (show q < 18446744073709551616 by omega)
  have HL := Lib.hid hlen
  have HNB := Lib.hid hn2
  obtain ⟨qs, hqs⟩ : ∃ qs, q + 1 = qs := ⟨_, rfl⟩
  rw [hqs] at hP2 w1
  obtain ⟨nm, hnm⟩ : ∃ nm, n - 1 = nm := ⟨_, rfl⟩
  rw [hnm] at n3
  have HNM := Lib.hid hnm
  clear h1 h2 hp hl0 hb h4 hq hq1 hq2 hn hqn hn2 hb2 hlen hqs hnm
  have HL2 := Lib.hid (show len ≤ 100000 by have := HL.out; omega)
  have H1 := Lib.hid (show 1 < 18446744073709551616 by omega)
  have HNM2 := Lib.hid (show nm ≤ 90000 by have := HNM.out; have := HNB.out; omega)
  obtain ⟨F, hF⟩ : ∃ F, cmpI (N - q * 2 ^ n) (1 * 2 ^ nm) = F := ⟨_, rfl⟩
  have hFc := cmpI_cases (N - q * 2 ^ n) (1 * 2 ^ nm)
  rw [hF] at hFc
  have HF := Lib.hid hF
  have hpar : (q : Int).tmod 2 = 1 ∨ (q : Int).tmod 2 = 0 := by
    rw [show (q : Int).tmod 2 = ((q % 2 : Nat) : Int) from (Int.ofNat_tmod q 2).symm]
    omega
  have hpar2 : (q : Int).tmod 2 = (q : Int) % 2 := by
    rw [show (q : Int).tmod 2 = ((q % 2 : Nat) : Int) from (Int.ofNat_tmod q 2).symm]
    omega
  clear hF HNM
  have hcase : (F = 1) ∨ (F = 0 ∧ (q : Int).tmod 2 = 1 ∧ (q : Int) % 2 = 1) ∨ (F = 0 ∧ (q : Int).tmod 2 = 0 ∧ (q : Int) % 2 = 0) ∨ F = -1 := by
    rcases hFc with z | z | z
    · exact .inl z
    · rcases hpar with p | p
      · exact .inr (.inl ⟨z, p, by rw [← hpar2, p]⟩)
      · exact .inr (.inr (.inl ⟨z, p, by rw [← hpar2, p]⟩))
    · exact .inr (.inr (.inr z))
  clear hFc hpar hpar2
  rcases hnn with ⟨c, d⟩ | ⟨c, d⟩
  · rw [← d] at c
    have d' := d.symm
    clear d
    rcases hcase with rfl | ⟨rfl, p1, p2⟩ | ⟨rfl, p1, p2⟩ | rfl
    all_goals
      go_enter Try.func45, Try.ntmps45
      go_wp2_with (first | (go_at_call 57; (with_reducible refine hB.mono ?_); rintro e w' ⟨rfl, rfl⟩) | (go_at_call 58; (with_reducible refine hC.mono ?_); rintro e w' ⟨rfl, rfl⟩) | (go_at_call 44; (with_reducible refine (hNq _).mono ?_); rintro r wq ⟨vq, rfl, lq, hdq, htq, hbq⟩) | (go_at_call 60; (with_reducible refine (twice_nat _ _ _ _ _ hdq htq HQ2.out HNB.out).mono ?_); rintro r w2 ⟨v2, rfl, l2', hd2, ht2, hb2⟩) | (go_at_call 59; (with_reducible refine (minus_any _ _ _ _ _ _ _ (HD.out.below (below_then hbq hb2)) hd2 HQ.out HL2.out).mono ?_); rintro r w3 ⟨v3, rfl, l3, hd3, ht3, hb3⟩) | (go_at_call 44; (with_reducible refine (hN1 _).mono ?_); rintro r w4 ⟨v4, rfl, l4, hd4, ht4, hb4⟩) | (go_at_call 60; (with_reducible refine (twice_nat _ _ _ _ _ hd4 ht4 H1.out HNM2.out).mono ?_); rintro r w5 ⟨v5, rfl, l5, hd5, ht5, hb5⟩) | (go_at_call 61; (with_reducible refine (compare_any _ _ _ _ _ _ _ (hd3.below (below_then hb4 hb5)) hd5 _ HF.out).mono ?_); rintro r w' ⟨rfl, rfl⟩) | (go_at_call 54; (with_reducible refine (hP1 _).mono ?_); rintro r w' ⟨z, rfl, hz, hbw⟩) | (go_at_call 54; (with_reducible refine (hP2 _).mono ?_); rintro r w' ⟨z, rfl, hz, hbw⟩))
      go_ret
      exact ⟨_, rfl, hz, below_then (below_then (below_then (below_then (below_then hbq hb2) hb3) hb4) hb5) hbw⟩
  · have d' := d.symm
    clear d
    rw [d'] at c
    rcases hcase with rfl | ⟨rfl, p1, p2⟩ | ⟨rfl, p1, p2⟩ | rfl
    all_goals
      go_enter Try.func45, Try.ntmps45
      go_wp2_with (first | (go_at_call 57; (with_reducible refine hB.mono ?_); rintro e w' ⟨rfl, rfl⟩) | (go_at_call 58; (with_reducible refine hC.mono ?_); rintro e w' ⟨rfl, rfl⟩) | (go_at_call 44; (with_reducible refine (hNq _).mono ?_); rintro r wq ⟨vq, rfl, lq, hdq, htq, hbq⟩) | (go_at_call 60; (with_reducible refine (twice_nat _ _ _ _ _ hdq htq HQ2.out HNB.out).mono ?_); rintro r w2 ⟨v2, rfl, l2', hd2, ht2, hb2⟩) | (go_at_call 59; (with_reducible refine (minus_any _ _ _ _ _ _ _ (HD.out.below (below_then hbq hb2)) hd2 HQ.out HL2.out).mono ?_); rintro r w3 ⟨v3, rfl, l3, hd3, ht3, hb3⟩) | (go_at_call 44; (with_reducible refine (hN1 _).mono ?_); rintro r w4 ⟨v4, rfl, l4, hd4, ht4, hb4⟩) | (go_at_call 60; (with_reducible refine (twice_nat _ _ _ _ _ hd4 ht4 H1.out HNM2.out).mono ?_); rintro r w5 ⟨v5, rfl, l5, hd5, ht5, hb5⟩) | (go_at_call 61; (with_reducible refine (compare_any _ _ _ _ _ _ _ (hd3.below (below_then hb4 hb5)) hd5 _ HF.out).mono ?_); rintro r w' ⟨rfl, rfl⟩) | (go_at_call 54; (with_reducible refine (hP1 _).mono ?_); rintro r w' ⟨z, rfl, hz, hbw⟩) | (go_at_call 54; (with_reducible refine (hP2 _).mono ?_); rintro r w' ⟨z, rfl, hz, hbw⟩))
      go_ret
      exact ⟨_, rfl, hz, below_then (below_then (below_then (below_then (below_then hbq hb2) hb3) hb4) hb5) hbw⟩
end Go.Proofs.Ytnegjfdaijnadaa
