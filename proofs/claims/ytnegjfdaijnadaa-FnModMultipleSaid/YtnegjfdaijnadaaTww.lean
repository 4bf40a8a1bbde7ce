/- The contract of the reference's twice. Conditions: as each states. -/
import Derived.Test.YtnegjfdaijnadaaTwc
namespace Go.Proofs.Ytnegjfdaijnadaa
open Flt Ieee Go.RowKit

theorem digit_idg (v : Value) (N len : Nat) (i : Int) (w : World) (h : Dn w v N len) :
    Calls Try.prog 55 #[v, .int .i64 i] w fun e w' => e = .returned (.int .u64 (idg N i : Int)) ∧ w = w' := digit_any v N len i w h (idg N i) rfl
set_option maxRecDepth 100000 in
set_option maxHeartbeats 2000000 in
theorem twice_any (u : Value) (A la n : Nat) (w : World) (ha : Dn w u A la) (hla : la ≤ 10000) (hn : n ≤ 100000) :
    Calls Try.prog 60 #[u, .int .i64 (n : Int)] w fun e w' => ∃ v', e = .returned v' ∧ ∃ len', Dn w' v' (A * 2 ^ n) len' ∧ Trimmed (A * 2 ^ n) len' ∧ Below w.heap.size w w' := by
  obtain ⟨i0, hi, hz0, hz1, hz2⟩ := info_parts info_u32
  have HA := Lib.hid ha
  obtain ⟨g, cap, rfl, g2, g3, g4, g5, -⟩ := ha
  have hr2 : n % 32 < 32 := Nat.mod_lt _ (by omega)
  have hdm : n = 32 * (n / 32) + n % 32 := (Nat.div_add_mod n 32).symm
  have t1 : (n : Int).tdiv 32 = ((n / 32 : Nat) : Int) := (Int.ofNat_tdiv n 32).symm
  have t2 : (n : Int).tmod 32 = ((n % 32 : Nat) : Int) := (Int.ofNat_tmod n 32).symm
  have hs : n / 32 ≤ 100000 := by omega
  generalize n / 32 = s at *
  generalize n % 32 = r at *
  have hbig : A * 2 ^ n < 2 ^ (32 * (la + s + 1)) := by
    have h1 : A * 2 ^ n < 2 ^ (32 * la) * 2 ^ n := (Nat.mul_lt_mul_right (Nat.two_pow_pos n)).2 g5
    rw [← Nat.pow_add] at h1
    exact Nat.lt_of_lt_of_le h1 (Nat.pow_le_pow_right (by omega) (by omega))
  have HG := Lib.hid hbig
  have HR := Lib.hid hr2
  have HD := Lib.hid hdm
  have r3 : (r : Int) < 32 := by omega
  have r4 : (0 : Int) ≤ (r : Int) := by omega
  have l1 : (la : Int) ≤ 10000 := by omega
  have l2 : (s : Int) ≤ 100000 := by omega
  have l3 : (0 : Int) ≤ (s : Int) := by omega
  have HLN := Lib.hid (And.intro hla hs)
  clear g5 hbig hr2 hdm hn hs hla g4 g3 g2
  go_enter Try.func60, Try.ntmps60
  go_wp2_with fail
  go_loopw [5, 6] (fun ov iv wr => ∃ k : Nat, k ≤ la + s + 1 ∧ iv = .int .i64 (k : Int) ∧ wr.ownsRow w.heap.size 48 1 ov k (digs (A * 2 ^ n) k) ∧ ov ≠ .slice none 0 0 ∧ Below w.heap.size w wr) (fun _ iv _ => la + s + 1 - (intOf iv).toNat)
  case atStart => exact ⟨0, Nat.zero_le _, rfl, own_start w, by simp, (Below.refl _ _).alloc (Nat.le_refl _) _⟩
  case round =>
    obtain ⟨k, hk, rfl, hown, hne, hbw⟩ := hrel
    have hln := HLN.out
    by_cases c : k < la + s + 1
    · have hda := digit_idg _ A la ((k : Int) - (s : Int)) wr (HA.out.below hbw)
      have hdb := digit_idg _ A la ((k : Int) - (s : Int) - 1) wr (HA.out.below hbw)
      obtain ⟨wh, y, rs, o, s1, s2, s3, s4, s5, s6⟩ := twice_step A s r k HR.out
      rw [← HD.out] at s6
      have c1 : (k : Int) ≤ (la : Int) + (s : Int) := by omega
      have c2 : (k : Int) ≤ 1000000 := by omega
      have c3 : (0 : Int) ≤ (k : Int) := by omega
      obtain ⟨dd, hdd⟩ : ∃ dd : Nat, o % 4294967296 = dd := ⟨_, rfl⟩
      have f1 : (o : Int) % 4294967296 = (dd : Int) := by omega
      have f3 : IntKind.u32.wrap (o : Int) = (dd : Int) := by rw [IntKind.wrap_u32]; exact f1
      have HD1 := Lib.hid (hdd.symm.trans s6)
      have HO := Lib.hid hown
      have HNE := Lib.hid hne
      have HBW := Lib.hid hbw
      have HK := Lib.hid c
      have hsz := hbw.size
      clear s6 hdd hne hbw c hk hln s5
      generalize hpp : idg A ((k : Int) - (s : Int)) = p at *
      generalize hqq : idg A ((k : Int) - (s : Int) - 1) = q at *
      clear hpp hqq
      go_wp2_with (first | (go_at_call 55; (with_reducible refine hda.mono ?_); rintro e w' ⟨rfl, rfl⟩) | (go_at_call 55; (with_reducible refine hdb.mono ?_); rintro e w' ⟨rfl, rfl⟩) | (at_builtin; refine wpList_append_own _ rfl _ _ 42 rfl w.heap.size 48 i0 (.int .u32 0) 1 4 Try.underlying42 hi hz0 hz1 hz2 rfl (by decide) _ _ _ rfl (HO.out.alloc _) ⟨wr.heap.size, 0, none⟩ 1 1 [.int .u32 (dd : Int)] rfl rfl ?c1 ?c2 ?c3 ?c4 ?c5 ?_))
      case c1 =>
        intro j u hj
        match j, hj with
        | 0, hj => simp at hj; subst hj; simp [Addr.add]
      case c2 => intro u hu; simp at hu; subst hu; rfl
      case c3 => have := HK.out; have := HLN.out; unfold maxLen; omega
      case c4 => have := HK.out; have := HLN.out; omega
      case c5 => simp; omega
      · intro v' w1 hown' hgrow hne'
        have HBW2 := Lib.hid (((HBW.out.alloc hsz _).grown hgrow (by simp; omega) (fun z hz => (HO.out.lt z hz).1)))
        have HO2 : w1.ownsRow w.heap.size 48 1 v' (k + 1) (digs (A * 2 ^ n) (k + 1)) := by rw [digs_succ, ← HD1.out]; exact hown'
        have HO2 := Lib.hid HO2
        have HNE2 := Lib.hid hne'
        clear hown' hgrow hne' hown
        go_wp2_with fail
        go_roundw
        case rel => exact ⟨k + 1, by have := HK.out; omega, by go_num, HO2.out, HNE2.out, HBW2.out⟩
        case measure => have := HK.out; simp [intOf]; omega
    · obtain rfl : k = la + s + 1 := by omega
      have hT := trim_any _ (A * 2 ^ n) _ wr (Dn_of_owns hown hne HG.out (by omega))
      have HBW := Lib.hid hbw
      have c1 : ¬ ((la + s + 1 : Nat) : Int) ≤ (la : Int) + (s : Int) := by omega
      clear hown hne hbw c hk hln
      generalize ((la + s + 1 : Nat) : Int) = J at *
      go_wp2_with (go_at_call 56; (with_reducible refine hT.mono ?_); rintro e w' ⟨v', rfl, len', hd, ht, rfl⟩)
      go_ret
      exact ⟨_, rfl, len', hd, ht, HBW.out⟩
end Go.Proofs.Ytnegjfdaijnadaa
