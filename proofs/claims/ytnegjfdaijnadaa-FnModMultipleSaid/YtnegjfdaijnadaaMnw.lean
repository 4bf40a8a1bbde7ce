/- The contract of the reference's minus. Conditions: as each states. -/
import Derived.Test.YtnegjfdaijnadaaMin
namespace Go.Proofs.Ytnegjfdaijnadaa
open Flt Ieee Go.RowKit

theorem own_start (w : World) : (w.alloc (.cells #[] 48)).ownsRow w.heap.size 48 1 (.slice (some ⟨w.heap.size, 0, none⟩) 0 0) 0 [] :=
  World.ownsRow_made w #[] 0 (Nat.le_refl _) (Nat.zero_le _) rfl
set_option maxRecDepth 100000 in
set_option maxHeartbeats 2000000 in
theorem minus_any (u v : Value) (A B la lb : Nat) (w : World) (ha : Dn w u A la) (hb : Dn w v B lb) (hle : B ≤ A) (hla : la ≤ 100000) :
    Calls Try.prog 59 #[u, v] w fun e w' => ∃ v', e = .returned v' ∧ ∃ len', Dn w' v' (A - B) len' ∧ Trimmed (A - B) len' ∧ Below w.heap.size w w' := by
  obtain ⟨i0, hi, hz0, hz1, hz2⟩ := info_parts info_u32
  have HA := Lib.hid ha
  have HB := Lib.hid hb
  have HL := Lib.hid hle
  obtain ⟨g, cap, rfl, g2, g3, g4, g5, -⟩ := ha
  obtain ⟨h, cap', rfl, h2, h3, h4, h5, -⟩ := hb
  have HG := Lib.hid g5
  have l1 : (la : Int) ≤ 100000 := by omega
  clear g5 h5 hle g2 h2 g3 h3 h4
  go_enter Try.func59, Try.ntmps59
  go_wp2_with fail
  go_loopw [5, 6, 7] (fun ov bv iv wr => ∃ k bo : Nat, k ≤ la ∧ iv = .int .i64 (k : Int) ∧ bv = .int .u64 (bo : Int) ∧ bo = (if A % 2 ^ (32 * k) < B % 2 ^ (32 * k) then 1 else 0) ∧ wr.ownsRow w.heap.size 48 1 ov k (digs (A - B) k) ∧ ov ≠ .slice none 0 0 ∧ Below w.heap.size w wr) (fun _ _ iv _ => la - (intOf iv).toNat)
  case atStart => exact ⟨0, 0, Nat.zero_le _, rfl, rfl, (borrow_zero A B).symm, own_start w, by simp, (Below.refl _ _).alloc (Nat.le_refl _) _⟩
  case round =>
    obtain ⟨k, bo, hk, rfl, rfl, hbo, hown, hne, hbw⟩ := hrel
    by_cases c : k < la
    · have hda := digit_any _ A la (k : Int) wr (HA.out.below hbw) (dgt A k) (by rw [if_neg (by omega), Int.toNat_natCast])
      have hdb := digit_any _ B lb (k : Int) wr (HB.out.below hbw) (dgt B k) (by rw [if_neg (by omega), Int.toNat_natCast])
      obtain ⟨x, d, s1, s2, s3, s4, s5⟩ := minus_step (k := k) HL.out
      rw [← hbo] at s2
      have c1 : (k : Int) < (la : Int) := by omega
      have HS4 := Lib.hid s4
      have HS5 := Lib.hid s5
      obtain ⟨dd, hdd⟩ : ∃ dd : Nat, d % 4294967296 = dd := ⟨_, rfl⟩
      obtain ⟨b2, hb2⟩ : ∃ b2 : Nat, d / 9223372036854775808 = b2 := ⟨_, rfl⟩
      have f1 : (d : Int) % 4294967296 = (dd : Int) := by omega
      have f2 : (d : Int) / 9223372036854775808 = (b2 : Int) := by omega
      have f3 : IntKind.u32.wrap (d : Int) = (dd : Int) := by rw [IntKind.wrap_u32]; exact f1
      have HD1 := Lib.hid (hdd.symm.trans s4)
      have HD2 := Lib.hid (hb2.symm.trans s5)
      have HO := Lib.hid hown
      have HNE := Lib.hid hne
      have HBW := Lib.hid hbw
      have HK := Lib.hid c
      have hsz := hbw.size
      clear s4 s5 hbo hdd hb2 hne hbw c hk HS4 HS5
      generalize dgt A k = p at *
      generalize dgt B k = q at *
      go_wp2_with (first | (go_at_call 55; (with_reducible refine hda.mono ?_); rintro e w' ⟨rfl, rfl⟩) | (go_at_call 55; (with_reducible refine hdb.mono ?_); rintro e w' ⟨rfl, rfl⟩) | (at_builtin; refine wpList_append_own _ rfl _ _ 42 rfl w.heap.size 48 i0 (.int .u32 0) 1 4 Try.underlying42 hi hz0 hz1 hz2 rfl (by decide) _ _ _ rfl (HO.out.alloc _) ⟨wr.heap.size, 0, none⟩ 1 1 [.int .u32 (dd : Int)] rfl rfl ?c1 ?c2 ?c3 ?c4 ?c5 ?_))
      case c1 =>
        intro j u hj
        match j, hj with
        | 0, hj => simp at hj; subst hj; simp [Addr.add]
      case c2 => intro u hu; simp at hu; subst hu; rfl
      case c3 => have := HK.out; unfold maxLen; omega
      case c4 => have := HK.out; omega
      case c5 => simp; omega
      · intro v' w1 hown' hgrow hne'
        have HBW2 := Lib.hid (((HBW.out.alloc hsz _).grown hgrow (by simp; omega) (fun z hz => (HO.out.lt z hz).1)))
        have HO2 : w1.ownsRow w.heap.size 48 1 v' (k + 1) (digs (A - B) (k + 1)) := by rw [digs_succ, ← HD1.out]; exact hown'
        have HO2 := Lib.hid HO2
        have HNE2 := Lib.hid hne'
        clear hown' hgrow hne' hown
        go_wp2_with fail
        go_roundw
        case rel => exact ⟨k + 1, b2, by have := HK.out; omega, by go_num, rfl, HD2.out, HO2.out, HNE2.out, HBW2.out⟩
        case measure => have := HK.out; simp [intOf]; omega
    · obtain rfl : k = la := by omega
      have hlt : A - B < 2 ^ (32 * k) := Nat.lt_of_le_of_lt (Nat.sub_le _ _) HG.out
      have hT := trim_any _ (A - B) k wr (Dn_of_owns hown hne hlt (by omega))
      have HBW := Lib.hid hbw
      clear hlt hbo hown hne hbw c hk
      go_wp2_with (go_at_call 56; (with_reducible refine hT.mono ?_); rintro e w' ⟨v', rfl, len', hd, ht, rfl⟩)
      go_ret
      exact ⟨_, rfl, len', hd, ht, HBW.out⟩
end Go.Proofs.Ytnegjfdaijnadaa
