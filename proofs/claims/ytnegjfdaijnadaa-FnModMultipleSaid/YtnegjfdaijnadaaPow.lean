/- Contracts of the reference's power. Conditions: as each states. -/
import Derived.Test.YtnegjfdaijnadaaPtx
namespace Go.Proofs.Ytnegjfdaijnadaa
open Flt Ieee Go.RowKit

theorem ofNat_word {m r : Nat} (h : mag r = m * U) (hr : r < INF) : floatOfInt .f64 (m : Int) = wd false r := by
  rw [nearest_int, Int.natAbs_natCast, ← h, rd_mag, Nat.min_eq_left (Nat.le_of_lt hr), decide_eq_false (by omega)]
theorem scale_back {t i s : Nat} (h : mag s = mag t * 2 ^ (i + 1)) : ∃ s', mag s' = mag t * 2 ^ i ∧ mag s = mag s' * 2 := by
  obtain ⟨s', hs⟩ := scale_rung t i
  exact ⟨s', hs, by rw [h, hs, Nat.pow_succ, Nat.mul_assoc]⟩
/-- Downwards: e is not above 0. -/
def DownRel (t : Nat) (ev xv : Value) : Prop := ∃ i s : Nat, ev = .int .i64 (-(i : Int)) ∧ xv = .float .f64 (wd false s) ∧ s < INF ∧ mag s = mag t * 2 ^ i ∧ i ≤ 100000
theorem ne_zero_word {s : Nat} (h : s < INF) (h0 : s ≠ 0) : FloatKind.f64.format.order (wd false s) 0 = some .gt := by
  obtain ⟨h1, h2⟩ := val_pos_word h
  refine ord_gt h1 fin_zero ?_
  rw [val_zero, h2]
  exact Int.ofNat_lt.2 (mag_pos h0)
set_option maxRecDepth 100000 in
set_option maxHeartbeats 2000000 in
theorem power_down (m j t : Nat) (w : World) (hm : m ≤ 2 ^ 53) (ht : m * U = mag t * 2 ^ j) (hj : j ≤ 100000) :
    Calls Try.prog 54 #[.int .u64 (m : Int), .int .i64 (-(j : Int))] w fun e w' => e = .returned (.float .f64 (wd false t)) ∧ w = w' := by
  obtain ⟨r, hr, hri⟩ := int_rung hm
  have hc := ofNat_word hr hri
  have HS := Lib.hid (show DownRel t (.int .i64 (-(j : Int))) (.float .f64 (wd false r)) from ⟨j, r, rfl, rfl, hri, by rw [hr, ht], hj⟩)
  have j1 : ¬ (0 : Int) < -(j : Int) := by omega
  clear hr hri ht hm hj
  go_enter Try.func54, Try.ntmps54
  go_wp2_with fail
  go_loop [1, 5] (fun ev xv => ev = .int .i64 (-(j : Int)) ∧ xv = .float .f64 (wd false r)) (fun _ _ => 0)
  case atStart => exact ⟨rfl, rfl⟩
  case round =>
    obtain ⟨rfl, rfl⟩ := hrel
    go_wp2_with fail
    clear hc j1
    go_loop [1, 5] (fun ev xv => DownRel t ev xv) (fun ev _ => (-(intOf ev)).toNat)
    case atStart => exact HS.out
    case round =>
      clear HS
      obtain ⟨i, s, rfl, rfl, hs, hst, hi⟩ := hrel
      rcases i with _ | i
      · rw [Nat.pow_zero, Nat.mul_one] at hst
        obtain rfl := mag_inj hst
        clear hs hst hi
        go_wp2_with fail
        go_ret
        exact ⟨rfl, rfl⟩
      · by_cases c : s = 0
        · subst c
          have ht0 : t = 0 := by
            rw [mag_zero] at hst
            rcases Nat.mul_eq_zero.1 hst.symm with q | q
            · exact mag_eq_zero.1 q
            · exact absurd q (Nat.ne_of_gt (Nat.two_pow_pos _))
          subst ht0
          have o : FloatKind.f64.format.order (wd false 0) 0 = some .eq := ord_zero (rg_wd _ (by omega))
          have i1 : -((i + 1 : Nat) : Int) < 0 := by omega
          clear hs hst hi
          generalize -((i + 1 : Nat) : Int) = ev at *
          go_wp2_with fail
          go_ret
          exact ⟨rfl, rfl⟩
        · have o := ne_zero_word hs c
          obtain ⟨s', h1, h2⟩ := scale_back hst
          have hd := half_of (s := false) hs h2
          have hs' : s' < INF := Nat.lt_of_le_of_lt (mag_le_iff.1 (by rw [h2]; omega)) hs
          have i1 : -((i + 1 : Nat) : Int) < 0 := by omega
          have i2 : -100000 ≤ -((i + 1 : Nat) : Int) := by omega
          have HE := Lib.hid (show -((i + 1 : Nat) : Int) + 1 = -(i : Int) by omega)
          have HN := Lib.hid (show DownRel t (.int .i64 (-(i : Int))) (.float .f64 (wd false s')) from ⟨i, s', rfl, rfl, hs', h1, by omega⟩)
          have HM := Lib.hid (show -((i + 1 : Nat) : Int) < -(i : Int) ∧ -(i : Int) ≤ 0 by omega)
          clear h1 h2 hs' hst hs c hi
          generalize -((i + 1 : Nat) : Int) = ev at *
          generalize wd false s' = xs at *
          generalize wd false s = xo at *
          go_wp2_with fail
          go_round
          case rel => rw [HE.out]; exact HN.out
          case measure =>
            show (-(ev + 1)).toNat < (-ev).toNat
            have := HM.out
            have := HE.out
            omega
/-- Upwards: e is not below 0. -/
def UpRel (t : Nat) (ev xv : Value) : Prop := ∃ i s : Nat, ev = .int .i64 (i : Int) ∧ xv = .float .f64 (wd false (min s INF)) ∧ mag s * 2 ^ i = mag t ∧ i ≤ 100000
theorem up_ge {s t i : Nat} (h : mag s * 2 ^ i = mag t) : s ≤ t := by
  rw [← mag_le_iff, ← h]
  exact Nat.le_mul_of_pos_right _ (Nat.two_pow_pos i)
set_option maxRecDepth 100000 in
set_option maxHeartbeats 2000000 in
theorem power_up (m j t : Nat) (w : World) (hm : m ≤ 2 ^ 53) (ht : m * U * 2 ^ j = mag t) (hj : j ≤ 100000) :
    Calls Try.prog 54 #[.int .u64 (m : Int), .int .i64 (j : Int)] w fun e w' => e = .returned (.float .f64 (wd false (min t INF))) ∧ (t < INF → w = w') ∧ Grown w w' := by
  obtain ⟨r, hr, hri⟩ := int_rung hm
  have hc := ofNat_word hr hri
  have HS := Lib.hid (show UpRel t (.int .i64 (j : Int)) (.float .f64 (wd false r)) from ⟨j, r, rfl, by rw [Nat.min_eq_left (Nat.le_of_lt hri)], by rw [hr, ht], hj⟩)
  clear hr hri ht hm hj
  go_enter Try.func54, Try.ntmps54
  go_wp2_with fail
  go_loop [1, 5] (fun ev xv => UpRel t ev xv) (fun ev _ => (intOf ev).toNat)
  case atStart => exact HS.out
  case round =>
    clear HS hc
    obtain ⟨i, s, rfl, rfl, hst, hi⟩ := hrel
    rcases i with _ | i
    · rw [Nat.pow_zero, Nat.mul_one] at hst
      obtain rfl := mag_inj hst
      clear hst hi
      generalize hz : wd false (min s INF) = z
      have HZ := Lib.hid hz
      clear hz
      go_wp2_with fail
      go_loop [1, 5] (fun ev xv => ev = .int .i64 0 ∧ xv = .float .f64 z) (fun _ _ => 0)
      case atStart => exact ⟨rfl, rfl⟩
      case round =>
        obtain ⟨rfl, rfl⟩ := hrel
        go_wp2_with fail
        go_ret
        rw [HZ.out]
        exact ⟨rfl, fun _ => rfl, Grown.refl _⟩
    · have i1 : (0 : Int) < ((i + 1 : Nat) : Int) := by omega
      have i2 : ((i + 1 : Nat) : Int) ≤ 100000 := by omega
      have i3 : ¬ ((i + 1 : Nat) : Int) < 0 := by omega
      by_cases c : s < INF
      · rw [Nat.min_eq_left (Nat.le_of_lt c)]
        obtain ⟨s2, h2⟩ := double_rung s
        have hd := twice_word (s := false) c h2
        have hF := fun u => isFinite_yes (wd false s) u (val_pos_word c).1
        have HE := Lib.hid (show ((i + 1 : Nat) : Int) - 1 = (i : Int) by omega)
        have HN := Lib.hid (show UpRel t (.int .i64 (i : Int)) (.float .f64 (wd false (min s2 INF))) from ⟨i, s2, rfl, rfl, by rw [h2, ← hst, Nat.pow_succ, Nat.mul_assoc, Nat.mul_comm 2], by omega⟩)
        clear h2 hst hi c
        generalize ((i + 1 : Nat) : Int) = ev at *
        generalize wd false (min s2 INF) = xs at *
        generalize wd false s = xo at *
        go_wp2_with (go_at_call 29; refine (hF _).mono ?_; rintro e w' ⟨rfl, rfl⟩)
        go_round
        case rel => rw [HE.out]; exact HN.out
        case measure =>
          show (ev - 1).toNat < ev.toNat
          omega
      · have hti : INF ≤ t := Nat.le_trans (Nat.le_of_not_lt c) (up_ge hst)
        rw [Nat.min_eq_right (Nat.le_of_not_lt c)]
        have HT := Lib.hid hti
        have hF := fun u => isFinite_not (wd false INF) u (inf_fin (inf_wd false))
        clear hti hst hi c
        generalize ((i + 1 : Nat) : Int) = ev at *
        generalize hz : wd false INF = z at *
        have HZ := Lib.hid hz
        clear hz
        go_wp2_with (go_at_call 29; refine (hF _).mono ?_; rintro e w' ⟨rfl, rfl⟩)
        go_loop [1, 5] (fun evv xv => evv = .int .i64 ev ∧ xv = .float .f64 z) (fun _ _ => 0)
        case atStart => exact ⟨rfl, rfl⟩
        case round =>
          obtain ⟨rfl, rfl⟩ := hrel
          go_wp2_with fail
          go_ret
          rw [Nat.min_eq_right HT.out, HZ.out]
          exact ⟨rfl, fun q => absurd q (Nat.not_lt_of_le HT.out), (Grown.refl _).drew⟩
end Go.Proofs.Ytnegjfdaijnadaa
