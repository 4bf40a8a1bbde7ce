/- The reference's sum of a number and a negative one: 0 where both are the same, and not 0 elsewhere. Conditions: as each states. -/
import Derived.Test.YtnegjfdaijnadaaNea
namespace Go.Proofs.Ytnegjfdaijnadaa
open Flt Ieee Go.RowKit

theorem tr_len' {x len K : Nat} (h : Trimmed x len) (hx : x < 2 ^ (32 * K)) : len ≤ K := by
  rcases h with h | h
  · omega
  · rcases Nat.lt_or_ge K len with c | c
    · have : 2 ^ (32 * K) ≤ 2 ^ (32 * (len - 1)) := Nat.pow_le_pow_right (by omega) (by omega)
      exact absurd (Nat.le_trans this h) (Nat.not_le_of_lt hx)
    · exact c
theorem nearest_nz (v : Value) (N len : Nat) (e : Int) (w : World) (h : Dn w v N len) (hlen : len ≤ 1000) (hN : N ≠ 0) (e3 : -9000 ≤ e) (e4 : e ≤ 9000) (hdiv : e < -1074 → ∃ c, N = c * 2 ^ (-1074 - e).toNat) :
    Calls Try.prog 45 #[v, .int .i64 e] w fun r w' => ∃ z, r = .returned (.float .f64 z) ∧ Nz z ∧ Below w.heap.size w w' := by
  have h5 : N < 2 ^ (32 * len) := by obtain ⟨-, -, -, -, -, -, h5, -⟩ := h; exact h5
  have hl1 := Nat.log2_self_le hN
  have hl2 := lt_pow_log2 N
  have hlb : N.log2 < 32 * len := (Nat.log2_lt hN).2 h5
  obtain ⟨b, hb⟩ : ∃ b, N.log2 + 1 = b := ⟨_, rfl⟩
  rw [hb] at hl2
  rw [show N.log2 = b - 1 by omega] at hl1
  by_cases c : (b : Int) - 53 < -1074 - e
  · by_cases d : -1074 - e ≤ 0
    · exact nearest_small v N len b e w h (by omega) hl1 hl2 (by omega) (by omega) (by omega)
    · obtain ⟨n, hn⟩ : ∃ n : Nat, (n : Int) = -1074 - e := ⟨(-1074 - e).toNat, by omega⟩
      obtain ⟨q, hq⟩ := hdiv (by omega)
      rw [show (-1074 - e).toNat = n by omega] at hq
      have hq0 : q ≠ 0 := by intro z; rw [z, Nat.zero_mul] at hq; exact hN hq
      have hdv : N / 2 ^ n = q := by rw [hq, Nat.mul_div_cancel _ (Nat.two_pow_pos n)]
      have hqlt : q < 2 ^ 53 := by
        have h6 : q * 2 ^ n < 2 ^ 53 * 2 ^ n := by
          rw [← hq, ← Nat.pow_add]
          exact Nat.lt_of_lt_of_le hl2 (Nat.pow_le_pow_right (by omega) (by omega))
        exact Nat.lt_of_mul_lt_mul_right h6
      exact nearest_big v N len b n e w h (by omega) (by omega) hl1 hl2 (by omega) (by omega) (.inl ⟨c, hn⟩) (by rw [hdv]; omega) (by rw [hdv]; exact hqlt) (by omega) (by omega) (by omega) (by omega) (by omega)
  · by_cases d : (b : Int) - 53 ≤ 0
    · exact nearest_small v N len b e w h (by omega) hl1 hl2 (by omega) (by omega) (by omega)
    · obtain ⟨n, hn⟩ : ∃ n : Nat, b = n + 53 := ⟨b - 53, by omega⟩
      have hq1 : 1 ≤ N / 2 ^ n := by
        rw [Nat.le_div_iff_mul_le (Nat.two_pow_pos n), Nat.one_mul]
        exact Nat.le_trans (Nat.pow_le_pow_right (by omega) (by omega)) hl1
      have hq2 : N / 2 ^ n < 2 ^ 53 := by
        rw [Nat.div_lt_iff_lt_mul (Nat.two_pow_pos n), ← Nat.pow_add]
        exact Nat.lt_of_lt_of_le hl2 (Nat.pow_le_pow_right (by omega) (by omega))
      exact nearest_big v N len b n e w h (by omega) (by omega) hl1 hl2 (by omega) (by omega) (.inr ⟨c, by omega⟩) hq1 hq2 (by omega) (by omega) (by omega) (by omega) (by omega)
theorem Nz_neg {z : Nat} (h : Nz z) : Nz (negW z) := ⟨negW_lt h.1, by rw [nan_negW h.1]; exact h.2.1, by rw [rg_negW h.1]; exact h.2.2⟩
/-- A call of 'twice' that gives this number. -/
def Twices (u : Value) (k : Int) (A : Nat) (w : World) : Prop := Calls Try.prog 60 #[u, .int .i64 k] w fun e w' => ∃ v', e = .returned v' ∧ ∃ len', Dn w' v' A len' ∧ Trimmed A len' ∧ Below w.heap.size w w'
theorem sub_div {A B m : Nat} (h : ∃ c d, A = c * 2 ^ m ∧ B = d * 2 ^ m) : (∃ c, A - B = c * 2 ^ m) ∧ ∃ c, B - A = c * 2 ^ m := by
  obtain ⟨c, d, rfl, rfl⟩ := h
  exact ⟨⟨c - d, by rw [Nat.sub_mul]⟩, ⟨d - c, by rw [Nat.sub_mul]⟩⟩
set_option maxRecDepth 100000 in
set_option maxHeartbeats 4000000 in
/-- The end of 'sum', in the case that the first exponent is the greater one. -/
theorem sum_gt (ua ub : Value) (A B : Nat) (e f : Int) (w : World) (hgt : f < e) (e1 : -9000 ≤ f) (e2 : e ≤ 9000) (hTa : Twices ua (e - f) A w) (hTb : ∀ u, Below w.heap.size w u → Twices ub 0 B u)
    (hA : A < 2 ^ (32 * 900)) (hB : B < 2 ^ (32 * 900)) (hdiv : f < -1074 → ∃ c d, A = c * 2 ^ (-1074 - f).toNat ∧ B = d * 2 ^ (-1074 - f).toNat) :
    Calls Try.prog 46 #[.bool false, ua, .int .i64 e, .bool true, ub, .int .i64 f] w fun r w' => ∃ z, r = .returned (.float .f64 z) ∧ (A = B → z = 0) ∧ (A ≠ B → Nz z) ∧ Below w.heap.size w w' := by
  have HA := Lib.hid (fun len (h : Trimmed A len) => show len ≤ 100000 from Nat.le_trans (tr_len' h hA) (by omega))
  have HB := Lib.hid (fun len (h : Trimmed B len) => show len ≤ 100000 from Nat.le_trans (tr_len' h hB) (by omega))
  have HAB := Lib.hid (fun len (h : Trimmed (A - B) len) => show len ≤ 1000 from Nat.le_trans (tr_len' h (Nat.lt_of_le_of_lt (Nat.sub_le _ _) hA)) (by omega))
  have HBA := Lib.hid (fun len (h : Trimmed (B - A) len) => show len ≤ 1000 from Nat.le_trans (tr_len' h (Nat.lt_of_le_of_lt (Nat.sub_le _ _) hB)) (by omega))
  have HDV := Lib.hid (fun q => sub_div (hdiv q))
  clear hA hB hdiv
  unfold Twices at hTa hTb
  rcases Nat.lt_trichotomy A B with c | c | c
  · have hF : cmpI A B = -1 := by unfold cmpI; rw [if_pos c]
    have HF := Lib.hid hF
    have HNE := Lib.hid (show B - A ≠ 0 by omega)
    have HLE := Lib.hid (Nat.le_of_lt c)
    have HC := Lib.hid (Nat.ne_of_lt c)
    clear hF c
    have hNr := fun (u : World) v len (h : Dn u v (B - A) len) (ht : Trimmed (B - A) len) => nearest_nz v (B - A) len f u h (HBA.out len ht) HNE.out (by omega) (by omega) (fun q => (HDV.out q).2)
    go_enter Try.func46, Try.ntmps46
    go_wp2_with (first | (go_at_call 60; (with_reducible refine hTa.mono ?_); rintro r wa ⟨va, rfl, la, hda, hta, hba⟩) | (go_at_call 60; (with_reducible refine (hTb _ hba).mono ?_); rintro r wb ⟨vb, rfl, lb, hdb, htb, hbb⟩) | (go_at_call 61; (with_reducible refine (compare_any _ _ _ _ _ _ _ (hda.below hbb) hdb _ HF.out).mono ?_); rintro r w' ⟨rfl, rfl⟩) | (go_at_call 59; (with_reducible refine (minus_any _ _ _ _ _ _ _ hdb (hda.below hbb) HLE.out (HB.out _ htb)).mono ?_); rintro r w3 ⟨v3, rfl, l3, hd3, ht3, hb3⟩) | (go_at_call 45; (with_reducible refine (hNr _ _ _ hd3 ht3).mono ?_); rintro r w4 ⟨z, rfl, hz, hb4⟩) | (go_at_call 39; (with_reducible refine (signed_true _ _).mono ?_); rintro r w' ⟨rfl, rfl⟩))
    go_ret
    exact ⟨_, rfl, fun q => absurd q HC.out, fun _ => Nz_neg hz, below_then (below_then (below_then hba hbb) hb3) hb4⟩
  · have hF : cmpI A B = 0 := by unfold cmpI; rw [if_neg (by omega), if_neg (by omega)]
    have HF := Lib.hid hF
    have HC := Lib.hid c
    clear hF c
    go_enter Try.func46, Try.ntmps46
    go_wp2_with (first | (go_at_call 60; (with_reducible refine hTa.mono ?_); rintro r wa ⟨va, rfl, la, hda, hta, hba⟩) | (go_at_call 60; (with_reducible refine (hTb _ hba).mono ?_); rintro r wb ⟨vb, rfl, lb, hdb, htb, hbb⟩) | (go_at_call 61; (with_reducible refine (compare_any _ _ _ _ _ _ _ (hda.below hbb) hdb _ HF.out).mono ?_); rintro r w' ⟨rfl, rfl⟩))
    go_ret
    exact ⟨_, rfl, fun _ => rfl, fun q => absurd HC.out q, below_then hba hbb⟩
  · have hF : cmpI A B = 1 := by unfold cmpI; rw [if_neg (by omega), if_pos c]
    have HF := Lib.hid hF
    have HNE := Lib.hid (show A - B ≠ 0 by omega)
    have HLE := Lib.hid (Nat.le_of_lt c)
    have HC := Lib.hid (fun (q : A = B) => Nat.ne_of_lt c q.symm)
    clear hF c
    have hNr := fun (u : World) v len (h : Dn u v (A - B) len) (ht : Trimmed (A - B) len) => nearest_nz v (A - B) len f u h (HAB.out len ht) HNE.out (by omega) (by omega) (fun q => (HDV.out q).1)
    go_enter Try.func46, Try.ntmps46
    go_wp2_with (first | (go_at_call 60; (with_reducible refine hTa.mono ?_); rintro r wa ⟨va, rfl, la, hda, hta, hba⟩) | (go_at_call 60; (with_reducible refine (hTb _ hba).mono ?_); rintro r wb ⟨vb, rfl, lb, hdb, htb, hbb⟩) | (go_at_call 61; (with_reducible refine (compare_any _ _ _ _ _ _ _ (hda.below hbb) hdb _ HF.out).mono ?_); rintro r w' ⟨rfl, rfl⟩) | (go_at_call 59; (with_reducible refine (minus_any _ _ _ _ _ _ _ (hda.below hbb) hdb HLE.out (HA.out _ hta)).mono ?_); rintro r w3 ⟨v3, rfl, l3, hd3, ht3, hb3⟩) | (go_at_call 45; (with_reducible refine (hNr _ _ _ hd3 ht3).mono ?_); rintro r w4 ⟨z, rfl, hz, hb4⟩) | (go_at_call 39; (with_reducible refine (signed_false _ _).mono ?_); rintro r w' ⟨rfl, rfl⟩))
    go_ret
    exact ⟨_, rfl, fun q => absurd q HC.out, fun _ => hz, below_then (below_then (below_then hba hbb) hb3) hb4⟩
set_option maxRecDepth 100000 in
set_option maxHeartbeats 4000000 in
/-- The end of 'sum', in the other case. -/
theorem sum_le (ua ub : Value) (A B la : Nat) (e f : Int) (w : World) (hgt : ¬ f < e) (e1 : -9000 ≤ e) (e2 : f ≤ 9000) (hda : Dn w ua A la) (hta : Trimmed A la) (hTb : Twices ub (f - e) B w)
    (hA : A < 2 ^ (32 * 900)) (hB : B < 2 ^ (32 * 900)) (hdiv : e < -1074 → ∃ c d, A = c * 2 ^ (-1074 - e).toNat ∧ B = d * 2 ^ (-1074 - e).toNat) :
    Calls Try.prog 46 #[.bool false, ua, .int .i64 e, .bool true, ub, .int .i64 f] w fun r w' => ∃ z, r = .returned (.float .f64 z) ∧ (A = B → z = 0) ∧ (A ≠ B → Nz z) ∧ Below w.heap.size w w' := by
  have HA := Lib.hid (fun len (h : Trimmed A len) => show len ≤ 100000 from Nat.le_trans (tr_len' h hA) (by omega))
  have HB := Lib.hid (fun len (h : Trimmed B len) => show len ≤ 100000 from Nat.le_trans (tr_len' h hB) (by omega))
  have HAB := Lib.hid (fun len (h : Trimmed (A - B) len) => show len ≤ 1000 from Nat.le_trans (tr_len' h (Nat.lt_of_le_of_lt (Nat.sub_le _ _) hA)) (by omega))
  have HBA := Lib.hid (fun len (h : Trimmed (B - A) len) => show len ≤ 1000 from Nat.le_trans (tr_len' h (Nat.lt_of_le_of_lt (Nat.sub_le _ _) hB)) (by omega))
  have HDA := Lib.hid hda
  have HTA := Lib.hid hta
  obtain ⟨ga, capa, rfl, -, -, -, -, -⟩ := hda
  have HDV := Lib.hid (fun q => sub_div (hdiv q))
  clear hA hB hdiv hta
  unfold Twices at hTb
  rcases Nat.lt_trichotomy A B with c | c | c
  · have hF : cmpI A B = -1 := by unfold cmpI; rw [if_pos c]
    have HF := Lib.hid hF
    have HNE := Lib.hid (show B - A ≠ 0 by omega)
    have HLE := Lib.hid (Nat.le_of_lt c)
    have HC := Lib.hid (Nat.ne_of_lt c)
    clear hF c
    have hNr := fun (u : World) v len (h : Dn u v (B - A) len) (ht : Trimmed (B - A) len) => nearest_nz v (B - A) len e u h (HBA.out len ht) HNE.out (by omega) (by omega) (fun q => (HDV.out q).2)
    go_enter Try.func46, Try.ntmps46
    go_wp2_with (first | (go_at_call 60; (with_reducible refine hTb.mono ?_); rintro r wb ⟨vb, rfl, lb, hdb, htb, hbb⟩) | (go_at_call 61; (with_reducible refine (compare_any _ _ _ _ _ _ _ (HDA.out.below hbb) hdb _ HF.out).mono ?_); rintro r w' ⟨rfl, rfl⟩) | (go_at_call 59; (with_reducible refine (minus_any _ _ _ _ _ _ _ hdb (HDA.out.below hbb) HLE.out (HB.out _ htb)).mono ?_); rintro r w3 ⟨v3, rfl, l3, hd3, ht3, hb3⟩) | (go_at_call 45; (with_reducible refine (hNr _ _ _ hd3 ht3).mono ?_); rintro r w4 ⟨z, rfl, hz, hb4⟩) | (go_at_call 39; (with_reducible refine (signed_true _ _).mono ?_); rintro r w' ⟨rfl, rfl⟩))
    go_ret
    exact ⟨_, rfl, fun q => absurd q HC.out, fun _ => Nz_neg hz, below_then (below_then hbb hb3) hb4⟩
  · have hF : cmpI A B = 0 := by unfold cmpI; rw [if_neg (by omega), if_neg (by omega)]
    have HF := Lib.hid hF
    have HC := Lib.hid c
    clear hF c
    go_enter Try.func46, Try.ntmps46
    go_wp2_with (first | (go_at_call 60; (with_reducible refine hTb.mono ?_); rintro r wb ⟨vb, rfl, lb, hdb, htb, hbb⟩) | (go_at_call 61; (with_reducible refine (compare_any _ _ _ _ _ _ _ (HDA.out.below hbb) hdb _ HF.out).mono ?_); rintro r w' ⟨rfl, rfl⟩))
    go_ret
    exact ⟨_, rfl, fun _ => rfl, fun q => absurd HC.out q, hbb⟩
  · have hF : cmpI A B = 1 := by unfold cmpI; rw [if_neg (by omega), if_pos c]
    have HF := Lib.hid hF
    have HNE := Lib.hid (show A - B ≠ 0 by omega)
    have HLE := Lib.hid (Nat.le_of_lt c)
    have HC := Lib.hid (fun (q : A = B) => Nat.ne_of_lt c q.symm)
    clear hF c
    have hNr := fun (u : World) v len (h : Dn u v (A - B) len) (ht : Trimmed (A - B) len) => nearest_nz v (A - B) len e u h (HAB.out len ht) HNE.out (by omega) (by omega) (fun q => (HDV.out q).1)
    go_enter Try.func46, Try.ntmps46
    go_wp2_with (first | (go_at_call 60; (with_reducible refine hTb.mono ?_); rintro r wb ⟨vb, rfl, lb, hdb, htb, hbb⟩) | (go_at_call 61; (with_reducible refine (compare_any _ _ _ _ _ _ _ (HDA.out.below hbb) hdb _ HF.out).mono ?_); rintro r w' ⟨rfl, rfl⟩) | (go_at_call 59; (with_reducible refine (minus_any _ _ _ _ _ _ _ (HDA.out.below hbb) hdb HLE.out (HA.out _ HTA.out)).mono ?_); rintro r w3 ⟨v3, rfl, l3, hd3, ht3, hb3⟩) | (go_at_call 45; (with_reducible refine (hNr _ _ _ hd3 ht3).mono ?_); rintro r w4 ⟨z, rfl, hz, hb4⟩) | (go_at_call 39; (with_reducible refine (signed_false _ _).mono ?_); rintro r w' ⟨rfl, rfl⟩))
    go_ret
    exact ⟨_, rfl, fun q => absurd q HC.out, fun _ => hz, below_then (below_then hbb hb3) hb4⟩
end Go.Proofs.Ytnegjfdaijnadaa
