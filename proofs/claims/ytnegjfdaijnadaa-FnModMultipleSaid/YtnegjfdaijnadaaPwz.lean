/- The reference's power of a number that is not 0 is not 0. Conditions: as each states. -/
import Derived.Test.YtnegjfdaijnadaaTmw
namespace Go.Proofs.Ytnegjfdaijnadaa
open Flt Ieee Go.RowKit

set_option maxRecDepth 100000 in
set_option maxHeartbeats 2000000 in
theorem power_upN (m j t : Nat) (w : World) (hm : m ≤ 2 ^ 53) (ht : m * U * 2 ^ j = mag t) (hj : j ≤ 100000) :
    Calls Try.prog 54 #[.int .u64 (m : Int), .int .i64 (j : Int)] w fun e w' => e = .returned (.float .f64 (wd false (min t INF))) ∧ ∃ n, w' = w.drewN n := by
  obtain ⟨r, hr, hri⟩ := int_rung hm
  have hc := ofNat_word hr hri
  have HS := Lib.hid (show UpRel t (.int .i64 (j : Int)) (.float .f64 (wd false r)) from ⟨j, r, rfl, by rw [Nat.min_eq_left (Nat.le_of_lt hri)], by rw [hr, ht], hj⟩)
  clear hr hri ht hm hj
  go_enter Try.func54, Try.ntmps54
  go_wp2_with fail
  go_loop [1, 5] (fun ev xv => UpRel t ev xv) (fun ev _ => (intOf ev).toNat)
  case atStart => exact HS.out
  case round =>
    clear HS hc
    obtain ⟨i, s, rfl, rfl, hst, hi⟩ := hrel
    rcases i with _ | i
    · rw [Nat.pow_zero, Nat.mul_one] at hst
      obtain rfl := mag_inj hst
      clear hst hi
      generalize hz : wd false (min s INF) = z
      have HZ := Lib.hid hz
      clear hz
      go_wp2_with fail
      go_loop [1, 5] (fun ev xv => ev = .int .i64 0 ∧ xv = .float .f64 z) (fun _ _ => 0)
      case atStart => exact ⟨rfl, rfl⟩
      case round =>
        obtain ⟨rfl, rfl⟩ := hrel
        go_wp2_with fail
        go_ret
        rw [HZ.out]
        exact ⟨rfl, 0, rfl⟩
    · have i1 : (0 : Int) < ((i + 1 : Nat) : Int) := by omega
      have i2 : ((i + 1 : Nat) : Int) ≤ 100000 := by omega
      have i3 : ¬ ((i + 1 : Nat) : Int) < 0 := by omega
      by_cases c : s < INF
      · rw [Nat.min_eq_left (Nat.le_of_lt c)]
        obtain ⟨s2, h2⟩ := double_rung s
        have hd := twice_word (s := false) c h2
        have hF := fun u => isFinite_yes (wd false s) u (val_pos_word c).1
        have HE := Lib.hid (show ((i + 1 : Nat) : Int) - 1 = (i : Int) by omega)
        have HN := Lib.hid (show UpRel t (.int .i64 (i : Int)) (.float .f64 (wd false (min s2 INF))) from ⟨i, s2, rfl, rfl, by rw [h2, ← hst, Nat.pow_succ, Nat.mul_assoc, Nat.mul_comm 2], by omega⟩)
        clear h2 hst hi c
        generalize ((i + 1 : Nat) : Int) = ev at *
        generalize wd false (min s2 INF) = xs at *
        generalize wd false s = xo at *
        go_wp2_with (go_at_call 29; refine (hF _).mono ?_; rintro e w' ⟨rfl, rfl⟩)
        go_round
        case rel => rw [HE.out]; exact HN.out
        case measure =>
          show (ev - 1).toNat < ev.toNat
          omega
      · have hti : INF ≤ t := Nat.le_trans (Nat.le_of_not_lt c) (up_ge hst)
        rw [Nat.min_eq_right (Nat.le_of_not_lt c)]
        have HT := Lib.hid hti
        have hF := fun u => isFinite_not (wd false INF) u (inf_fin (inf_wd false))
        clear hti hst hi c
        generalize ((i + 1 : Nat) : Int) = ev at *
        generalize hz : wd false INF = z at *
        have HZ := Lib.hid hz
        clear hz
        go_wp2_with (go_at_call 29; refine (hF _).mono ?_; rintro e w' ⟨rfl, rfl⟩)
        go_loop [1, 5] (fun evv xv => evv = .int .i64 ev ∧ xv = .float .f64 z) (fun _ _ => 0)
        case atStart => exact ⟨rfl, rfl⟩
        case round =>
          obtain ⟨rfl, rfl⟩ := hrel
          go_wp2_with fail
          go_ret
          rw [Nat.min_eq_right HT.out, HZ.out]
          exact ⟨rfl, 1, rfl⟩
/-- A word that is no not-a-number and not 0. -/
def Nz (z : Nat) : Prop := z < 2 ^ 64 ∧ ¬ NaN z ∧ rg z ≠ 0
theorem Nz_word {t : Nat} (h : t ≤ INF) (h0 : t ≠ 0) : Nz (wd false t) := by
  have hl : t < 9223372036854775808 := Nat.lt_of_le_of_lt h INF_lt
  exact ⟨wd_lt _ hl, by unfold NaN; rw [rg_wd _ hl]; omega, by rw [rg_wd _ hl]; exact h0⟩
theorem power_nz (m : Nat) (e : Int) (w : World) (h1 : 1 ≤ m) (h2 : m ≤ 2 ^ 53) (e1 : -1074 ≤ e) (e2 : e ≤ 90000) :
    Calls Try.prog 54 #[.int .u64 (m : Int), .int .i64 e] w fun r w' => ∃ z, r = .returned (.float .f64 z) ∧ Nz z ∧ Below w.heap.size w w' := by
  have hu : UE = 1074 := UE_eq
  have hU := U_pos
  by_cases c : 0 ≤ e
  · obtain ⟨r, hr, hri⟩ := int_rung h2
    obtain ⟨t, ht⟩ := scale_rung r e.toNat
    have ht0 : t ≠ 0 := by
      intro q
      rw [q, mag_zero, hr] at ht
      have := Nat.mul_pos (Nat.mul_pos h1 hU) (Nat.two_pow_pos e.toNat)
      omega
    have hP := power_upN m e.toNat t w h2 (by rw [ht, hr]) (by omega)
    rw [show ((e.toNat : Nat) : Int) = e by omega] at hP
    refine hP.mono ?_
    rintro r w' ⟨rfl, n, rfl⟩
    refine ⟨_, rfl, Nz_word (Nat.min_le_right _ _) ?_, drewN_below w n⟩
    rcases Nat.le_total t INF with q | q
    · rw [Nat.min_eq_left q]; exact ht0
    · rw [Nat.min_eq_right q]; unfold INF; omega
  · obtain ⟨j, hj⟩ : ∃ j, UE = j + (-e).toNat := ⟨UE - (-e).toNat, by omega⟩
    obtain ⟨t, ht⟩ := exists_rung' j m h2
    have htU : m * U = mag t * 2 ^ (-e).toNat := by rw [ht, Nat.mul_assoc, ← Nat.pow_add, ← hj]; rfl
    have ht0 : t ≠ 0 := by
      intro q
      rw [q, mag_zero, Nat.zero_mul] at htU
      have := Nat.mul_pos h1 hU
      omega
    have hti : t ≤ INF := by
      refine Nat.le_of_lt ?_
      rw [← mag_lt_iff]
      refine Nat.lt_of_le_of_lt ?_ big_lt_INF
      have a1 : mag t ≤ mag t * 2 ^ (-e).toNat := Nat.le_mul_of_pos_right _ (Nat.two_pow_pos _)
      rw [← htU] at a1
      exact Nat.le_trans a1 (Nat.mul_le_mul_right _ h2)
    have hP := power_down m (-e).toNat t w h2 htU (by omega)
    rw [show -(((-e).toNat : Nat) : Int) = e by omega] at hP
    refine hP.mono ?_
    rintro r w' ⟨rfl, rfl⟩
    exact ⟨_, rfl, Nz_word hti ht0, Below.refl _ _⟩
end Go.Proofs.Ytnegjfdaijnadaa
