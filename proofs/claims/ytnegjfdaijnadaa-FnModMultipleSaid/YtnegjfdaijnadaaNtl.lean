/- Contracts of the reference's natural, compare, binary and cut. Conditions: as each states. -/
import Derived.Test.YtnegjfdaijnadaaDig
namespace Go.Proofs.Ytnegjfdaijnadaa
open Flt Ieee Go.RowKit

theorem Dn_two (x : Nat) (w : World) (hx : x < 18446744073709551616) : Dn (w.alloc (.cells #[.int .u32 ((x : Int) % 4294967296), .int .u32 ((x : Int) / 4294967296)] 48)) (.slice (some ⟨w.heap.size, 0, none⟩) 2 2) x 2 := by
  refine ⟨w.heap.size, 2, rfl, by simp, Nat.le_refl _, by omega, by omega, fun i hi => ?_⟩
  have h : i = 0 ∨ i = 1 := by omega
  rcases h with rfl | rfl
  · have e : (dgt x 0 : Int) = (x : Int) % 4294967296 := by unfold dgt; simp
    rw [e]; simp
  · have e : (dgt x 1 : Int) = (x : Int) / 4294967296 := by unfold dgt; omega
    rw [e]; simp
theorem natural_any (x : Nat) (w : World) (hx : x < 18446744073709551616) :
    Calls Try.prog 44 #[.int .u64 (x : Int)] w fun e w' => ∃ v', e = .returned v' ∧ ∃ len', Dn w' v' x len' ∧ Trimmed x len' ∧ Below w.heap.size w w' := by
  have hT := trim_any _ x 2 _ (Dn_two x w hx)
  go_enter Try.func44, Try.ntmps44
  go_wp2_with (go_at_call 56; refine hT.mono ?_; rintro e w' ⟨v', rfl, len', hd, ht, rfl⟩)
  go_ret
  exact ⟨_, rfl, len', hd, ht, (Below.refl _ _).alloc (Nat.le_refl _) _⟩

/-! ### compare -/
def cmpI (a b : Nat) : Int := if a < b then -1 else if b < a then 1 else 0
theorem dgt_split (N i : Nat) : N / 2 ^ (32 * i) = N / 2 ^ (32 * (i + 1)) * 4294967296 + dgt N i := by
  have e : N / 2 ^ (32 * (i + 1)) = N / 2 ^ (32 * i) / 4294967296 := by
    rw [Nat.div_div_eq_div_mul, show 32 * (i + 1) = 32 * i + 32 by omega, Nat.pow_add]
  rw [e]
  unfold dgt
  omega
theorem cmp_lt_of {A B i : Nat} (h : A / 2 ^ (32 * (i + 1)) = B / 2 ^ (32 * (i + 1))) (hd : dgt A i < dgt B i) : A < B := by
  have a := dgt_split A i
  have b := dgt_split B i
  rw [h] at a
  have : A / 2 ^ (32 * i) < B / 2 ^ (32 * i) := by omega
  rcases Nat.lt_or_ge A B with c | c
  · exact c
  · have := Nat.div_le_div_right (c := 2 ^ (32 * i)) c; omega
theorem cmp_eq_of {A B i : Nat} (h : A / 2 ^ (32 * (i + 1)) = B / 2 ^ (32 * (i + 1))) (hd : dgt A i = dgt B i) : A / 2 ^ (32 * i) = B / 2 ^ (32 * i) := by
  rw [dgt_split A i, dgt_split B i, h, hd]
set_option maxRecDepth 100000 in
theorem compare_any (u v : Value) (A B la lb : Nat) (w : World) (ha : Dn w u A la) (hb : Dn w v B lb) (F : Int) (hF : cmpI A B = F) :
    Calls Try.prog 61 #[u, v] w fun e w' => e = .returned (.int .i64 F) ∧ w = w' := by
  have HA := Lib.hid (fun (i : Nat) => digit_any u A la (i : Int) w ha (dgt A i) (by rw [if_neg (by omega), Int.toNat_natCast]))
  have HB := Lib.hid (fun (i : Nat) => digit_any v B lb (i : Int) w hb (dgt B i) (by rw [if_neg (by omega), Int.toNat_natCast]))
  have HF := Lib.hid hF
  obtain ⟨g, cap, rfl, g2, g3, g4, g5, -⟩ := ha
  obtain ⟨h, cap', rfl, h2, h3, h4, h5, -⟩ := hb
  have HS : ∀ n : Nat, la ≤ n → lb ≤ n → A / 2 ^ (32 * n) = B / 2 ^ (32 * n) := by
    intro n q1 q2
    rw [Nat.div_eq_of_lt (Nat.lt_of_lt_of_le g5 (Nat.pow_le_pow_right (by omega) (by omega))), Nat.div_eq_of_lt (Nat.lt_of_lt_of_le h5 (Nat.pow_le_pow_right (by omega) (by omega)))]
  have HS := Lib.hid HS
  have l1 : (la : Int) ≤ 1000000 := by omega
  have l2 : (lb : Int) ≤ 1000000 := by omega
  have l3 : (0 : Int) ≤ (la : Int) := by omega
  have l4 : (0 : Int) ≤ (lb : Int) := by omega
  clear hF g5 h5
  obtain ⟨n, c, hn⟩ : ∃ n : Nat, ((la : Int) < (lb : Int) ∧ n = lb ∨ ¬ (la : Int) < (lb : Int) ∧ n = la) ∧ la ≤ n ∧ lb ≤ n ∧ n ≤ 1000000 := by
    by_cases c : la < lb
    · exact ⟨lb, .inl ⟨by omega, rfl⟩, by omega, by omega, by omega⟩
    · exact ⟨la, .inr ⟨by omega, rfl⟩, by omega, by omega, by omega⟩
  have HN := Lib.hid hn
  clear hn
  rcases c with ⟨c1, c2⟩ | ⟨c1, c2⟩
  all_goals
    rw [c2] at HN
    clear c2
    go_enter Try.func61, Try.ntmps61
    go_wp2_with fail
    go_loop [6] (fun iv => ∃ j : Nat, iv = .int .i64 ((j : Int) - 1) ∧ j ≤ 1000000 ∧ A / 2 ^ (32 * j) = B / 2 ^ (32 * j)) (fun iv => (intOf iv + 1).toNat)
    case atStart => exact ⟨_, rfl, HN.out.2.2, HS.out _ HN.out.1 HN.out.2.1⟩
    case round =>
      obtain ⟨j, rfl, hj, he⟩ := hrel
      rcases j with _ | j
      · have hz : cmpI A B = 0 := by
          rw [Nat.mul_zero, Nat.pow_zero, Nat.div_one, Nat.div_one] at he
          unfold cmpI
          rw [he, if_neg (Nat.lt_irrefl _), if_neg (Nat.lt_irrefl _)]
        rw [HF.out] at hz
        subst hz
        clear he hj
        go_wp2_with fail
        go_ret
        exact ⟨rfl, rfl⟩
      · have e1 : ((j + 1 : Nat) : Int) - 1 = (j : Int) := by omega
        rw [e1]
        have e2 : (0 : Int) ≤ (j : Int) := by omega
        have e3 : (j : Int) ≤ 1000000 := by omega
        have hda := HA.out j
        have hdb := HB.out j
        rcases Nat.lt_trichotomy (dgt A j) (dgt B j) with d | d | d
        · have hz : cmpI A B = -1 := by unfold cmpI; rw [if_pos (cmp_lt_of he d)]
          rw [HF.out] at hz
          subst hz
          have d1 : (dgt A j : Int) < (dgt B j : Int) := by omega
          clear he hj d
          generalize dgt A j = p at *
          generalize dgt B j = q at *
          go_wp2_with (first | (go_at_call 55; (with_reducible refine hda.mono ?_); rintro e w' ⟨rfl, rfl⟩) | (go_at_call 55; (with_reducible refine hdb.mono ?_); rintro e w' ⟨rfl, rfl⟩))
          go_ret
          exact ⟨rfl, rfl⟩
        · have HE := Lib.hid (cmp_eq_of he d)
          have HJ := Lib.hid hj
          have d1 : ¬ (dgt A j : Int) < (dgt B j : Int) := by omega
          have d2 : ¬ (dgt B j : Int) < (dgt A j : Int) := by omega
          clear he hj d
          generalize dgt A j = p at *
          generalize dgt B j = q at *
          go_wp2_with (first | (go_at_call 55; (with_reducible refine hda.mono ?_); rintro e w' ⟨rfl, rfl⟩) | (go_at_call 55; (with_reducible refine hdb.mono ?_); rintro e w' ⟨rfl, rfl⟩))
          go_round
          case rel => exact ⟨j, rfl, by have := HJ.out; omega, HE.out⟩
          case measure => simp [intOf]
        · have hz : cmpI A B = 1 := by
            have := cmp_lt_of he.symm d
            unfold cmpI; rw [if_neg (by omega), if_pos this]
          rw [HF.out] at hz
          subst hz
          have d1 : ¬ (dgt A j : Int) < (dgt B j : Int) := by omega
          have d2 : (dgt B j : Int) < (dgt A j : Int) := by omega
          clear he hj d
          generalize dgt A j = p at *
          generalize dgt B j = q at *
          go_wp2_with (first | (go_at_call 55; (with_reducible refine hda.mono ?_); rintro e w' ⟨rfl, rfl⟩) | (go_at_call 55; (with_reducible refine hdb.mono ?_); rintro e w' ⟨rfl, rfl⟩))
          go_ret
          exact ⟨rfl, rfl⟩

/-! ### binary, cut -/
/-- A bit out of its digit. -/
theorem bit_dgt (N i : Nat) : dgt N (i / 32) / 2 ^ (i % 32) % 2 = N / 2 ^ i % 2 := by
  unfold dgt
  have hi : i = 32 * (i / 32) + i % 32 := (Nat.div_add_mod i 32).symm
  have hr : i % 32 < 32 := Nat.mod_lt _ (by omega)
  have e : N / 2 ^ i = N / 2 ^ (32 * (i / 32)) / 2 ^ (i % 32) := by
    rw [Nat.div_div_eq_div_mul, ← Nat.pow_add, ← hi]
  rw [e]
  generalize N / 2 ^ (32 * (i / 32)) = Q
  generalize i % 32 = r at hr
  obtain ⟨d, hd⟩ : ∃ d, 32 = r + 1 + d := ⟨31 - r, by omega⟩
  have e2 : (4294967296 : Nat) = 2 ^ r * 2 * 2 ^ d := by
    rw [← Nat.pow_succ, ← Nat.pow_add, ← hd]
  have hp := Nat.two_pow_pos r
  rw [e2, Nat.mul_assoc, Nat.mod_mul, Nat.add_mul_div_left _ _ hp, Nat.div_eq_of_lt (Nat.mod_lt _ hp), Nat.zero_add, Nat.mod_mul]
  omega
theorem u64_bit (s : Nat) (h : s < 18446744073709551616) : bits .and .u64 (s : Int) 1 = ((s % 2 : Nat) : Int) := by
  have e := u64_and_nat s 1 h (by omega)
  rw [Nat.and_one_is_mod] at e
  exact e
theorem bit_zero {N i : Nat} (h : N < 2 ^ (i + 1)) (h0 : N / 2 ^ i % 2 = 0) : N < 2 ^ i := by
  have hp := Nat.two_pow_pos i
  have h1 : N / 2 ^ i < 2 := by
    rw [Nat.div_lt_iff_lt_mul hp, Nat.mul_comm, ← Nat.pow_succ]; exact h
  have h2 : N / 2 ^ i = 0 := by
    generalize N / 2 ^ i = Q at *
    omega
  rcases Nat.div_eq_zero_iff.1 h2 with q | q
  · omega
  · exact q
theorem bit_one {N i : Nat} (h0 : N / 2 ^ i % 2 ≠ 0) : 2 ^ i ≤ N := by
  rcases Nat.lt_or_ge N (2 ^ i) with c | c
  · rw [Nat.div_eq_of_lt c] at h0; exact absurd rfl h0
  · exact c
set_option maxRecDepth 100000 in
theorem binary_any (v : Value) (N len : Nat) (w : World) (h : Dn w v N len) :
    Calls Try.prog 57 #[v] w fun e w' => ∃ n : Nat, e = .returned (.int .i64 (n : Int)) ∧ n ≤ 32 * len ∧ N < 2 ^ n ∧ (n = 0 ∨ 2 ^ (n - 1) ≤ N) ∧ w = w' := by
  have HD := Lib.hid (fun (i : Nat) => digit_any v N len (i : Int) w h (dgt N i) (by rw [if_neg (by omega), Int.toNat_natCast]))
  obtain ⟨g, cap, rfl, g2, g3, g4, g5, -⟩ := h
  have l1 : (len : Int) ≤ 1000000 := by omega
  have l2 : (0 : Int) ≤ (len : Int) := by omega
  have H5 := Lib.hid g5
  clear g5
  go_enter Try.func57, Try.ntmps57
  go_wp2_with fail
  go_loop [3] (fun nv => ∃ j : Nat, nv = .int .i64 (j : Int) ∧ j ≤ 32 * len ∧ N < 2 ^ j) (fun nv => (intOf nv).toNat)
  case atStart => exact ⟨32 * len, by go_num, Nat.le_refl _, H5.out⟩
  case round =>
    obtain ⟨j, rfl, hj, hN⟩ := hrel
    rcases j with _ | i
    · have HN := Lib.hid (And.intro hN hj)
      clear hN hj
      go_wp2_with fail
      go_ret
      exact ⟨0, rfl, HN.out.2, HN.out.1, .inl rfl, rfl⟩
    · have hd := HD.out (i / 32)
      have hb := bit_dgt N i
      have hlt := dgt_lt N (i / 32)
      have t1 : (i : Int).tdiv 32 = ((i / 32 : Nat) : Int) := (Int.ofNat_tdiv i 32).symm
      have t2 : (i : Int).tmod 32 = ((i % 32 : Nat) : Int) := (Int.ofNat_tmod i 32).symm
      have r2 : i % 32 < 32 := Nat.mod_lt _ (by omega)
      have i1 : ((i + 1 : Nat) : Int) - 1 = (i : Int) := by omega
      have i2 : (0 : Int) < ((i + 1 : Nat) : Int) := by omega
      have i3 : (0 : Int) ≤ (i : Int) := by omega
      have i4 : ((i + 1 : Nat) : Int) ≤ 100000000 := by omega
      have HJ := Lib.hid (And.intro hj hN)
      generalize dgt N (i / 32) = D at *
      have k1 : i / 32 ≤ 100000000 := by omega
      generalize i / 32 = k at *
      generalize i % 32 = r at *
      have q1 : (D : Int) / 2 ^ r = ((D / 2 ^ r : Nat) : Int) := by rw [Int.natCast_ediv, Int.natCast_pow]; rfl
      have q2 : D / 2 ^ r ≤ D := Nat.div_le_self _ _
      generalize hs : D / 2 ^ r = s at *
      have q3 := u64_bit s (by omega)
      rw [hb] at q3
      have r3 : (r : Int) < 32 := by omega
      have r4 : (0 : Int) ≤ (r : Int) := by omega
      have hz : ∀ {b : Nat}, N / 2 ^ i % 2 = b → (b = 0 → N < 2 ^ i) ∧ (b ≠ 0 → 2 ^ i ≤ N) := fun hb => ⟨fun q => bit_zero hN (by rw [hb, q]), fun q => bit_one (by rw [hb]; exact q)⟩
      clear hb
      obtain ⟨bt, hbt⟩ : ∃ b, N / 2 ^ i % 2 = b := ⟨_, rfl⟩
      rw [hbt] at q3
      have HZ := Lib.hid (hz hbt)
      clear hN hj hlt r2 q2 hs HD hz hbt
      generalize hJJ : ((i + 1 : Nat) : Int) = J at *
      by_cases c : bt = 0
      · have HZ0 := Lib.hid (HZ.out.1 c)
        clear HZ
        subst c
        go_wp2_with (go_at_call 55; (with_reducible refine hd.mono ?_); rintro e w' ⟨rfl, rfl⟩)
        go_round
        case rel => exact ⟨i, rfl, by have := HJ.out.1; omega, HZ0.out⟩
        case measure => simp [intOf]; omega
      · have c1 : ((bt : Int) == 0) = false := by rw [beq_eq_false_iff_ne]; omega
        have HC := Lib.hid c
        have HJ2 := Lib.hid hJJ
        clear c hJJ
        go_wp2_with (go_at_call 55; (with_reducible refine hd.mono ?_); rintro e w' ⟨rfl, rfl⟩)
        go_ret
        exact ⟨i + 1, by rw [HJ2.out]; rfl, HJ.out.1, HJ.out.2, .inr (HZ.out.2 HC.out), rfl⟩
end Go.Proofs.Ytnegjfdaijnadaa
