/- Natural numbers as slices of 32-bit digits: what such a slice holds; contracts of the reference's digit, trim and natural. Conditions: as each states. -/
import Derived.Test.YtnegjfdaijnadaaScd
import Derived.Below
import Derived.BigQuiet
import Derived.Deep.QuietTactic
import Derived.Deep.OwnRows
import Derived.Lib.Hide
import Derived.LoopTactic
namespace Go.Proofs.Ytnegjfdaijnadaa
open Flt Ieee Go.RowKit

/-- The i-th digit. -/
def dgt (N i : Nat) : Nat := N / 2 ^ (32 * i) % 4294967296
theorem dgt_lt (N i : Nat) : dgt N i < 4294967296 := Nat.mod_lt _ (by omega)
theorem dgt_zero {N i : Nat} (h : N < 2 ^ (32 * i)) : dgt N i = 0 := by unfold dgt; rw [Nat.div_eq_of_lt h]
/-- The slice v, of so many digits, holds N. -/
def Dn (w : World) (v : Value) (N len : Nat) : Prop := ∃ g cap, v = .slice (some ⟨g, 0, none⟩) len cap ∧ g < w.heap.size ∧ len ≤ cap ∧ len ≤ 1000000 ∧ N < 2 ^ (32 * len) ∧ ∀ i, i < len → w.cell? ⟨g, i, none⟩ = some (.int .u32 (dgt N i : Int))
theorem Dn.below {w w' : World} {v : Value} {N len : Nat} (h : Dn w v N len) (k : Below w.heap.size w w') : Dn w' v N len := by
  obtain ⟨g, cap, h1, h2, h3, h4, h5, h6⟩ := h
  exact ⟨g, cap, h1, Nat.lt_of_lt_of_le h2 k.size, h3, h4, h5, fun i hi => (k.cell (p := ⟨g, i, none⟩) h2).trans (h6 i hi)⟩

set_option maxRecDepth 100000 in
theorem digit_any (v : Value) (N len : Nat) (i : Int) (w : World) (h : Dn w v N len) (F : Nat) (hF : (if i < 0 then 0 else dgt N i.toNat) = F) :
    Calls Try.prog 55 #[v, .int .i64 i] w fun e w' => e = .returned (.int .u64 (F : Int)) ∧ w = w' := by
  obtain ⟨g, cap, rfl, h2, h3, h4, h5, h6⟩ := h
  by_cases c : i < 0
  · rw [if_pos c] at hF
    subst hF
    clear h6 h5
    go_enter Try.func55, Try.ntmps55
    go_wp2_with fail
    go_ret
    exact ⟨rfl, rfl⟩
  · rw [if_neg c] at hF
    by_cases d : i < (len : Int)
    · have hc := h6 i.toNat (by omega)
      rw [hF] at hc
      have d1 : ¬ (len : Int) ≤ i := by omega
      have d2 : 0 ≤ i := by omega
      have hlt : F < 4294967296 := by rw [← hF]; exact dgt_lt _ _
      clear h6 h5 hF
      go_enter Try.func55, Try.ntmps55
      go_wp2_with fail
      go_ret
      exact ⟨rfl, rfl⟩
    · have d1 : (len : Int) ≤ i := by omega
      have hz : F = 0 := by
        rw [← hF]
        refine dgt_zero (Nat.lt_of_lt_of_le h5 (Nat.pow_le_pow_right (by omega) (by omega)))
      subst hz
      clear h6 h5 hF
      go_enter Try.func55, Try.ntmps55
      go_wp2_with fail
      go_ret
      exact ⟨rfl, rfl⟩

/-! ### trim -/
theorem top_zero {N j : Nat} (h : N < 2 ^ (32 * (j + 1))) (h0 : dgt N j = 0) : N < 2 ^ (32 * j) := by
  have hp := Nat.two_pow_pos (32 * j)
  have h1 : N / 2 ^ (32 * j) < 4294967296 := by
    rw [Nat.div_lt_iff_lt_mul hp]
    have e : 2 ^ (32 * (j + 1)) = 4294967296 * 2 ^ (32 * j) := by rw [show 32 * (j + 1) = 32 + 32 * j by omega, Nat.pow_add]
    rw [← e]; exact h
  unfold dgt at h0
  rw [Nat.mod_eq_of_lt h1] at h0
  rcases Nat.div_eq_zero_iff.1 h0 with q | q
  · omega
  · exact q
theorem top_nonzero {N j : Nat} (h0 : dgt N j ≠ 0) : 2 ^ (32 * j) ≤ N := by
  rcases Nat.lt_or_ge N (2 ^ (32 * j)) with c | c
  · exact absurd (dgt_zero c) h0
  · exact c
/-- Without zeros at its end. -/
def Trimmed (N len : Nat) : Prop := len = 0 ∨ 2 ^ (32 * (len - 1)) ≤ N
set_option maxRecDepth 100000 in
theorem trim_any (v : Value) (N len : Nat) (w : World) (h : Dn w v N len) :
    Calls Try.prog 56 #[v] w fun e w' => ∃ v', e = .returned v' ∧ ∃ len', Dn w v' N len' ∧ Trimmed N len' ∧ w = w' := by
  obtain ⟨g, cap, rfl, h2, h3, h4, h5, h6⟩ := h
  have H6 := Lib.hid h6
  have H5 := Lib.hid h5
  clear h6 h5
  have e1 : (len : Int) ≤ 1000000 := by omega
  go_enter Try.func56, Try.ntmps56
  go_wp2_with fail
  go_loop [3] (fun nv => ∃ j : Nat, nv = .int .i64 (j : Int) ∧ j ≤ len ∧ N < 2 ^ (32 * j)) (fun nv => (intOf nv).toNat)
  case atStart => exact ⟨len, rfl, Nat.le_refl _, H5.out⟩
  case round =>
    obtain ⟨j, rfl, hj, hN⟩ := hrel
    rcases j with _ | j
    · have HN := Lib.hid hN
      clear hN
      go_wp2_with fail
      go_ret
      exact ⟨_, rfl, 0, ⟨g, cap, rfl, h2, by omega, by omega, HN.out, fun i hi => absurd hi (by omega)⟩, .inl rfl, rfl⟩
    · have hc := H6.out j (by omega)
      have i1 : ((j + 1 : Nat) : Int) - 1 = (j : Int) := by omega
      have i2 : (0 : Int) < ((j + 1 : Nat) : Int) := by omega
      have i3 : (j : Int) < (len : Int) := by omega
      have i4 : (0 : Int) ≤ (j : Int) := by omega
      have i5 : ((j + 1 : Nat) : Int) ≤ (cap : Int) := by omega
      have i6 : ((j + 1 : Nat) : Int) ≤ 1000000 := by omega
      by_cases d : dgt N j = 0
      · have HN := Lib.hid (top_zero hN d)
        rw [d] at hc
        have HJ := Lib.hid hj
        clear hN hj d
        generalize hJJ : ((j + 1 : Nat) : Int) = J at *
        go_wp2_with fail
        go_round
        case rel => exact ⟨j, rfl, by have := HJ.out; omega, HN.out⟩
        case measure =>
          simp [intOf]; omega
      · have HT := Lib.hid (top_nonzero d)
        have HN := Lib.hid hN
        have d1 : ((dgt N j : Int) == 0) = false := by rw [beq_eq_false_iff_ne]; omega
        have HJ := Lib.hid hj
        clear hN hj d
        generalize dgt N j = D at *
        go_wp2_with fail
        go_ret
        have := HJ.out
        exact ⟨_, rfl, j + 1, ⟨g, cap, rfl, h2, by omega, by omega, HN.out, fun i hi => H6.out i (by omega)⟩, .inr HT.out, rfl⟩
end Go.Proofs.Ytnegjfdaijnadaa
