/- The contract of the reference's times at two numbers of two digits: the walk. Conditions: as each states. -/
import Derived.Test.YtnegjfdaijnadaaTim
namespace Go.Proofs.Ytnegjfdaijnadaa
open Flt Ieee Go.RowKit

theorem quiet_eq {P : Program} {f : FuncId} {args : Array Value} {w : World} {n : Nat} {v : Value}
    (h : Calls P f args (w.drewN n) fun e w' => e = .returned v ∧ w.drewN n = w') : Calls P f args (w.drewN n) fun e w'' => e = .returned v ∧ ∃ m, w'' = w.drewN m :=
  h.mono fun _ _ ⟨he, hm⟩ => ⟨he, n, hm.symm⟩
theorem TRel_start (w : World) : TRel w 0 (w.alloc (.cells (madeCells #[.int .u32 0] 5) 48)) := by
  refine ⟨fun j hj => ?_, fun j => ?_, by simp, (Below.refl _ _).alloc (Nat.le_refl _) _⟩
  · have h : j = 0 ∨ j = 1 ∨ j = 2 ∨ j = 3 ∨ j = 4 := by omega
    have e : dgt 0 j = 0 := by unfold dgt; rw [Nat.zero_div]
    rw [e]
    rcases h with rfl | rfl | rfl | rfl | rfl <;> simp [madeCells]
  · simp
theorem row_end {A B S c i : Nat} (hB : B < 2 ^ (32 * 2)) (h : S + c * 2 ^ (32 * (i + 3)) = A % 2 ^ (32 * i) * B + dgt A i * (B % 2 ^ (32 * 3)) * 2 ^ (32 * i)) : S = A % 2 ^ (32 * (i + 1)) * B := by
  have hBm : B % 2 ^ (32 * 3) = B := Nat.mod_eq_of_lt (Nat.lt_of_lt_of_le hB (Nat.pow_le_pow_right (by omega) (by omega)))
  have eA : A % 2 ^ (32 * (i + 1)) = A % 2 ^ (32 * i) + 2 ^ (32 * i) * dgt A i := by
    rw [show 32 * (i + 1) = 32 * i + 32 from rfl, Nat.pow_add, Nat.mod_mul]
    rfl
  have hT : S + c * 2 ^ (32 * (i + 3)) = A % 2 ^ (32 * (i + 1)) * B := by
    rw [h, hBm, eA, Nat.add_mul, Nat.mul_comm (2 ^ (32 * i)) (dgt A i), Nat.mul_right_comm]
  have hlt : A % 2 ^ (32 * (i + 1)) * B < 2 ^ (32 * (i + 3)) := by
    have h1 : A % 2 ^ (32 * (i + 1)) < 2 ^ (32 * (i + 1)) := Nat.mod_lt _ (Nat.two_pow_pos _)
    rw [show 32 * (i + 3) = 32 * (i + 1) + 32 * 2 from rfl, Nat.pow_add]
    exact Nat.mul_lt_mul_of_lt_of_le h1 (Nat.le_of_lt hB) (Nat.two_pow_pos _)
  have hc : c = 0 := by
    rcases Nat.eq_zero_or_pos c with z | z
    · exact z
    · have : 1 * 2 ^ (32 * (i + 3)) ≤ c * 2 ^ (32 * (i + 3)) := Nat.mul_le_mul_right _ z
      omega
  rw [hc, Nat.zero_mul, Nat.add_zero] at hT
  exact hT
set_option maxRecDepth 100000 in
set_option maxHeartbeats 2000000 in
theorem times_two (u v : Value) (A B : Nat) (w : World) (ha : Dn w u A 2) (hb : Dn w v B 2) :
    Calls Try.prog 43 #[u, v] w fun e w' => ∃ v', e = .returned v' ∧ ∃ len', Dn w' v' (A * B) len' ∧ Trimmed (A * B) len' ∧ Below w.heap.size w w' := by
  have HA := Lib.hid ha
  have HB := Lib.hid hb
  obtain ⟨g, cap, rfl, g2, g3, g4, g5, -⟩ := ha
  obtain ⟨h, cap', rfl, h2, h3, h4, h5, -⟩ := hb
  have HG := Lib.hid (And.intro g5 h5)
  have hmk := fun (u : World) => run_make_row' (P := Try.prog) 42 48 (.int .u32 0) 4 Try.underlying42 info_u32 rfl .i64 .i64 5 (by omega) (by omega) u
  simp only [show ((5 : Nat) : Int) = 5 from rfl] at hmk
  clear g2 g3 g4 g5 h2 h3 h4 h5
  go_enter Try.func43, Try.ntmps43
  go_wp2_with fail
  go_loopw [6] (fun iv wr => ∃ i : Nat, i ≤ 2 ∧ iv = .int .i64 (i : Int) ∧ TRel w (A % 2 ^ (32 * i) * B) wr) (fun iv _ => 2 - (intOf iv).toNat)
  case atStart => exact ⟨0, by omega, rfl, by rw [Nat.mul_zero, Nat.pow_zero, Nat.mod_one, Nat.zero_mul]; exact TRel_start w⟩
  case round =>
    clear hmk
    obtain ⟨i, hi, rfl, hT⟩ := hrel
    by_cases c : i < 2
    · have c1 : (i : Int) < 2 := by omega
      have c2 : (0 : Int) ≤ (i : Int) := by omega
      have HI := Lib.hid c
      have HT := Lib.hid hT
      clear c hi hT
      go_wp2_with fail
      go_loopw [7, 8] (fun cv kv wr => ∃ k c S : Nat, k ≤ 3 ∧ kv = .int .i64 (k : Int) ∧ cv = .int .u64 (c : Int) ∧ c < 4294967296 ∧ TRel w S wr ∧ S + c * 2 ^ (32 * (i + k)) = A % 2 ^ (32 * i) * B + dgt A i * (B % 2 ^ (32 * k)) * 2 ^ (32 * i)) (fun _ kv _ => 3 - (intOf kv).toNat)
      case atStart => exact ⟨0, 0, _, by omega, rfl, rfl, by omega, HT.out, by rw [Nat.zero_mul, Nat.mul_zero, Nat.pow_zero, Nat.mod_one, Nat.mul_zero, Nat.zero_mul]⟩
      case round =>
        clear HT
        obtain ⟨k, cc, S, hk, rfl, rfl, hcc, hT, he⟩ := hrel
        by_cases d : k < 3
        · obtain ⟨m, x, s, vv, c', s1, s2, s3, s4, s5, s6, s7, s8, s9⟩ := times_step hcc he
          have hi2 := HI.out
          have hda := fun n => digit_any _ A 2 (i : Int) (wr.drewN n) ((HA.out.below hT.2.2.2).below (drewN_below wr n)) (dgt A i) (by rw [if_neg (by omega), Int.toNat_natCast])
          have hdb := fun n => digit_any _ B 2 (k : Int) (wr.drewN n) ((HB.out.below hT.2.2.2).below (drewN_below wr n)) (dgt B k) (by rw [if_neg (by omega), Int.toNat_natCast])
          have hcell := hT.1 (i + k) (by omega)
          have hfz := hT.2.1 (i + k)
          obtain ⟨t, ht⟩ : ∃ t, i + k = t := ⟨_, rfl⟩
          have d1 : (k : Int) ≤ 2 := by omega
          have d2 : (0 : Int) ≤ (k : Int) := by omega
          have d3 : (i : Int) + (k : Int) = (t : Int) := by omega
          have d4 : (t : Int) < 5 := by omega
          have d5 : (0 : Int) ≤ (t : Int) := by omega
          have d6 : IntKind.i64.wrap (t : Int) = (t : Int) := by rw [IntKind.wrap_i64]; omega
          have f1 : (s : Int) % 4294967296 = (vv : Int) := by omega
          have f2 : (s : Int) / 4294967296 = (c' : Int) := by omega
          have f3 : IntKind.u32.wrap (s : Int) = (vv : Int) := by rw [IntKind.wrap_u32]; exact f1
          rw [ht] at s2 hcell hfz s9
          have HN := Lib.hid (And.intro s9 s8)
          have HT := Lib.hid (fun n => (hT.drewN n).put (t := t) (v := vv) (by omega) s7)
          have HK := Lib.hid d
          have hlt : dgt S t < 4294967296 := dgt_lt S t
          clear s9 s8 s7 s6 s5 s4 he hcc hT d hk hi2 ht
          generalize dgt A i = p at *
          generalize dgt B k = q at *
          generalize dgt S t = r at *
          go_wp2_with fail
          go_quiet (first | (go_at_call 55; with_reducible exact quiet_eq (hda _)) | (go_at_call 55; with_reducible exact quiet_eq (hdb _)))
          go_wp2_with fail
          go_roundw
          case rel => exact ⟨k + 1, c', putd S t vv, by have := HK.out; omega, by go_num, rfl, HN.out.2, HT.out _, HN.out.1⟩
          case measure => have := HK.out; simp [intOf]; omega
        · obtain rfl : k = 3 := by omega
          have hend := row_end HG.out.2 he
          subst hend
          have HT := Lib.hid hT
          clear he hcc hT d hk
          go_wp2_with fail
          go_roundw
          case rel => exact ⟨i + 1, by have := HI.out; omega, by go_num, HT.out⟩
          case measure => have := HI.out; simp [intOf]; omega
    · obtain rfl : i = 2 := by omega
      have hAm : A % 2 ^ (32 * 2) = A := Nat.mod_eq_of_lt HG.out.1
      rw [hAm] at hT
      have hlt : A * B < 2 ^ (32 * 5) := by
        have h1 : A * B < 2 ^ (32 * 2) * 2 ^ (32 * 2) := Nat.mul_lt_mul_of_lt_of_le HG.out.1 (Nat.le_of_lt HG.out.2) (Nat.two_pow_pos _)
        omega
      have hD : Dn wr (.slice (some ⟨w.heap.size, 0, none⟩) 5 5) (A * B) 5 := ⟨_, 5, rfl, hT.2.2.1, Nat.le_refl _, by omega, hlt, hT.1⟩
      have hR := trim_any _ (A * B) 5 wr hD
      have HBW := Lib.hid hT.2.2.2
      clear hAm hlt hD hT c hi
      go_wp2_with (go_at_call 56; (with_reducible refine hR.mono ?_); rintro e w' ⟨v', rfl, len', hd, ht, rfl⟩)
      go_ret
      exact ⟨_, rfl, len', hd, ht, HBW.out⟩
end Go.Proofs.Ytnegjfdaijnadaa
