/- Contracts of the reference's parts and rest. Conditions: as each states. -/
import Derived.Test.YtnegjfdaijnadaaPrt
namespace Go.Proofs.Ytnegjfdaijnadaa
open Flt Ieee Go.RowKit

def PartRel2 (X : Nat) (v ev : Value) : Prop := ∃ r a c : Nat, v = .float .f64 (wd false r) ∧ r < INF ∧ ev = .int .i64 ((a : Int) - (c : Int)) ∧ mag r * 2 ^ a = mag X * 2 ^ c ∧ mag r < 2 ^ 53 * U
theorem over_step {r : Nat} (c1 : 2 ^ 53 * U ≤ mag r) : ∃ t, mag r = mag t * 2 ∧ t < r := by
  rw [← mag_over, mag_le_iff, rg_over] at c1
  refine ⟨r - 2 ^ 52, ?_, by omega⟩
  have h : 2 ^ 52 ≤ r - 2 ^ 52 := by unfold rg at c1; omega
  have := mag_double h
  rw [← this]
  congr 1
  omega
theorem lead_step {r : Nat} (c2 : mag r < 2 ^ 52 * U) (hr0 : r ≠ 0) : ∃ t, mag t = mag r * 2 ∧ t < INF ∧ mag t < 2 ^ 53 * U ∧ r < t ∧ r < 4841369599423283200 := by
  obtain ⟨t, ht⟩ := double_rung r
  have h1 : mag t < 2 ^ 53 * U := by
    rw [ht]
    generalize U = V at *
    omega
  have hp := mag_pos hr0
  refine ⟨t, ht, ?_, h1, ?_, ?_⟩
  · rw [← mag_lt_iff]; exact Nat.lt_trans h1 big_lt_INF
  · rw [← mag_lt_iff, ht]; omega
  · rw [← mag_lead, mag_lt_iff] at c2
    exact c2
theorem rel_nonzero {X r a c : Nat} (hX : X ≠ 0) (h : mag r * 2 ^ a = mag X * 2 ^ c) : r ≠ 0 := by
  intro e
  rw [e, mag_zero, Nat.zero_mul] at h
  have h2 := Nat.two_pow_pos c
  rcases Nat.mul_eq_zero.1 h.symm with q | q
  · exact hX (mag_eq_zero.1 q)
  · exact absurd q (Nat.ne_of_gt h2)
set_option maxRecDepth 100000 in
set_option maxHeartbeats 2000000 in
theorem parts_any (X M e : Nat) (w : World) (hX : X ≠ 0) (hXi : X < INF) (m1 : 2 ^ 52 ≤ M) (m2 : M < 2 ^ 53) (m3 : mag X * 2 ^ 52 = M * 2 ^ e) :
    Calls Try.prog 36 #[.float .f64 (wd false X)] w fun e' w' => e' = .returned (.tuple #[.int .u64 (M : Int), .int .i64 ((e : Int) - 1126)]) ∧ w = w' := by
  have H3 := Lib.hid m3
  have HM := Lib.hid (And.intro m1 m2)
  have HX := Lib.hid (And.intro hX hXi)
  clear m1 m2 m3 hX hXi
  go_enter Try.func36, Try.ntmps36
  go_wp2_with fail
  go_loop [0, 4] (fun v ev => PartRel X v ev) (fun v _ => rungOf v)
  case atStart => exact ⟨X, 0, 0, rfl, HX.out.2, rfl, rfl⟩
  case round =>
    obtain ⟨r, a, c, rfl, hr, rfl, h⟩ := hrel
    obtain ⟨pb1, pb2⟩ := part_bound HX.out.1 HX.out.2 hr h
    have o := ge_over hr
    by_cases c1 : 2 ^ 53 * U ≤ mag r
    · rw [decide_eq_true c1] at o
      obtain ⟨t, ht, htr⟩ := over_step c1
      have hd := half_of (s := false) hr ht
      have hnew := part_half h ht
      have Hnew := Lib.hid hnew
      have Hr := Lib.hid (And.intro hr htr)
      have He := Lib.hid (show ((a : Int) - (c : Int)) + 1 = ((a + 1 : Nat) : Int) - (c : Int) by omega)
      clear hnew ht htr hr h c1
      generalize hev : (a : Int) - (c : Int) = ev at *
      clear hev
      go_wp2_with fail
      go_round
      case rel => exact ⟨t, a + 1, c, rfl, Nat.lt_trans Hr.out.2 Hr.out.1, by rw [He.out], Hnew.out⟩
      case measure =>
        show rg (wd false t) < rg (wd false r)
        have hl := INF_lt
        rw [rg_wd _ (Nat.lt_trans (Nat.lt_trans Hr.out.2 Hr.out.1) hl), rg_wd _ (Nat.lt_trans Hr.out.1 hl)]
        exact Hr.out.2
    · rw [decide_eq_false c1] at o
      have HS := Lib.hid (show PartRel2 X (.float .f64 (wd false r)) (.int .i64 ((a : Int) - (c : Int))) from ⟨r, a, c, rfl, hr, rfl, h, Nat.lt_of_not_le c1⟩)
      clear c1 hr h pb1 pb2
      go_wp2_with fail
      go_loop [0, 4] (fun v ev => PartRel2 X v ev) (fun v _ => 4841369599423283200 - rungOf v)
      case atStart => exact HS.out
      case round =>
        clear HS o
        obtain ⟨r, a, c, rfl, hr, rfl, h, hlt⟩ := hrel
        obtain ⟨pb1, pb2⟩ := part_bound HX.out.1 HX.out.2 hr h
        have o := lt_lead hr
        by_cases c2 : mag r < 2 ^ 52 * U
        · rw [decide_eq_true c2] at o
          obtain ⟨t, ht, hti, htl, hrt, hrl⟩ := lead_step c2 (rel_nonzero HX.out.1 h)
          have hd := twice_word (s := false) hr ht
          rw [Nat.min_eq_left (Nat.le_of_lt hti)] at hd
          have Hnew := Lib.hid (part_twice h ht)
          have Hr := Lib.hid (And.intro hti (And.intro htl (And.intro hrt hrl)))
          have He := Lib.hid (show ((a : Int) - (c : Int)) - 1 = (a : Int) - ((c + 1 : Nat) : Int) by omega)
          have Hri := Lib.hid hr
          clear ht hti htl hrt hrl h hr c2 hlt
          generalize hev : (a : Int) - (c : Int) = ev at *
          clear hev
          go_wp2_with fail
          go_round
          case rel => exact ⟨t, a, c + 1, rfl, Hr.out.1, by rw [He.out], Hnew.out, Hr.out.2.1⟩
          case measure =>
            show 4841369599423283200 - rg (wd false t) < 4841369599423283200 - rg (wd false r)
            have hl := INF_lt
            rw [rg_wd _ (Nat.lt_trans Hr.out.1 hl), rg_wd _ (Nat.lt_trans Hri.out hl)]
            have := Hr.out.2.2.1
            have := Hr.out.2.2.2
            omega
        · rw [decide_eq_false c2] at o
          obtain ⟨k1, k2⟩ := part_end HM.out.1 HM.out.2 H3.out h (Nat.le_of_not_lt c2) hlt
          have hrl : r < 9223372036854775808 := Nat.lt_trans hr INF_lt
          have hq : mag r / U = M := by rw [k1, Nat.mul_div_cancel _ U_pos]
          have hu := toU64 (b := wd false r) (val_pos_word hr).1 (sg_wd _ hrl) (by rw [rg_wd _ hrl, hq]; have := HM.out.2; omega)
          rw [rg_wd _ hrl, hq] at hu
          clear c2 hlt h k1 hq hrl hr pb1 pb2
          rw [k2]
          go_wp2_with fail
          go_ret2
          exact ⟨rfl, rfl⟩
end Go.Proofs.Ytnegjfdaijnadaa
