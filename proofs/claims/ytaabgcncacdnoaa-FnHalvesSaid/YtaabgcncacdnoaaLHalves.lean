/- FnHalves returns true for every input. No condition. -/
import Derived.Test.YtaabgcncacdnoaaRows
import Derived.Test.YtaabgcncacdnoaaRnb
import Derived.Test.YtaabgcncacdnoaaEqs
import Derived.ProofKit
import Derived.OpenShut
namespace Go.Proofs.Ytaabgcncacdnoaa.fnHalves
open Go.ChangeShapes Go.WideShapes Go.ChangeAt Go.RowKit Flt Ieee
theorem own : ownKnob Try.prog.godebug = none := by kernel_rfl
theorem lt_of_wf {b : Nat} (h : (Lit.float .f64 b).wf = true) : b < 2 ^ 64 := by simpa [Lit.wf] using h
theorem bounds_of_wf {n : Int} (h : (Lit.int .i64 n).wf = true) : -9223372036854775808 ≤ n ∧ n ≤ 9223372036854775807 := by simpa [Lit.wf, IntKind.min, IntKind.max, IntKind.signed, IntKind.bits] using h
theorem intval {r k : Nat} {s : Bool} (h : IsInt r s k) : val r = (if s then -(k : Int) else (k : Int)) * (U : Int) := by
  rw [isInt_val h]
  cases s
  · rw [if_neg Bool.false_ne_true, if_neg Bool.false_ne_true, Int.natCast_mul]
  · rw [if_pos rfl, if_pos rfl, Int.natCast_mul, Int.neg_mul]
theorem ofInt_val {n : Int} (h : n.natAbs ≤ 2 ^ 53) : val (floatOfInt .f64 n) = n * (U : Int) := by
  rw [intval (ofInt_int h)]
  congr 1
  by_cases c : n < 0
  · rw [if_pos (by simpa using c)]; omega
  · rw [if_neg (by simpa using c)]; omega
theorem pos_parts {k m : Nat} (h : m = k * U + HU) : m / U = k ∧ m % U = HU := by
  have h1 := HU_pos
  have h2 := U_two
  have hl : HU < U := by omega
  subst h
  rw [Nat.add_comm, Nat.add_mul_div_right _ _ U_pos, Nat.div_eq_of_lt hl, Nat.add_mul_mod_self_right, Nat.mod_eq_of_lt hl]
  omega
theorem Ks {k m : Nat} (s : Bool) (h : m = k * U + HU) : Kof .down s m = k + s.toNat ∧ Kof .up s m = k + (!s).toNat ∧ Kof .zero s m = k ∧ Kaway m = k + 1 ∧ Kof .even s m = k + k % 2 := by
  obtain ⟨h1, h2⟩ := pos_parts h
  have hp := HU_pos
  have ht := U_two
  rw [K_down, K_up, K_zero, K_even]
  unfold Kaway
  rw [h1, h2]
  have hne : HU ≠ 0 := by omega
  refine ⟨?_, ?_, rfl, ?_, ?_⟩
  · cases s
    · rw [if_neg (fun k => Bool.false_ne_true k.1)]; rfl
    · rw [if_pos ⟨rfl, hne⟩]; rfl
  · cases s
    · rw [if_pos ⟨rfl, hne⟩]; rfl
    · rw [if_neg (fun k => Bool.noConfusion k.1)]; rfl
  · rw [if_pos (by omega)]
  · by_cases o : k % 2 = 1
    · rw [if_pos (.inr ⟨ht, o⟩), o]
    · rw [if_neg (by rintro (c | c); omega; exact o c.2)]; omega
theorem odd_abs {k V H : Nat} (hV : V = 2 * H) : ((2 * k + 1) * H) = k * V + H := by
  rw [hV, Nat.add_mul, Nat.one_mul, Nat.mul_comm 2 k, Nat.mul_assoc]
theorem half_rung {k : Nat} (h : 2 * k + 1 < 2 ^ 53) : ∃ t, mag t = k * U + HU ∧ t < INF := by
  obtain ⟨t, ht⟩ := exists_rung (UE - 1) (2 * k + 1) h
  have e : mag t = k * U + HU := by rw [ht, ← odd_abs U_two]; rfl
  refine ⟨t, e, ?_⟩
  rw [← mag_lt_iff, e]
  have h1 := big_lt_INF
  have h2 : (k + 1) * U ≤ 2 ^ 53 * U := Nat.mul_le_mul_right _ (by omega)
  rw [succ_U] at h2
  have h3 := U_two
  have h4 := HU_pos
  omega
/-- The half behind an integer: its sign and its magnitude. -/
theorem half_word (n : Int) (h1 : -2251799813685248 ≤ n) (h2 : n ≤ 2251799813685247) :
    ∃ x k, double.add (floatOfInt .f64 n) 4602678819172646912 = some x ∧ Fnt x ∧ x < 2 ^ 64 ∧ mag (rg x) = k * U + HU ∧ (0 ≤ n → sg x = false ∧ n = (k : Int)) ∧ (n < 0 → sg x = true ∧ n = -((k : Int) + 1)) ∧ k < 2 ^ 52 := by
  obtain ⟨k, hk⟩ : ∃ k : Nat, (0 ≤ n → n = (k : Int)) ∧ (n < 0 → n = -((k : Int) + 1)) := by
    by_cases c : 0 ≤ n
    · exact ⟨n.toNat, by omega, by omega⟩
    · exact ⟨(-n - 1).toNat, by omega, by omega⟩
  have hkl : k < 2 ^ 52 := by omega
  have hn : n.natAbs ≤ 2 ^ 53 := by omega
  have hv : val (floatOfInt .f64 n) + val 4602678819172646912 = if n < 0 then -((k * U + HU : Nat) : Int) else ((k * U + HU : Nat) : Int) := by
    have ht := U_two
    rw [ofInt_val hn, val_half]
    by_cases c : n < 0
    · rw [if_pos c, hk.2 c, Int.neg_mul, Int.add_mul, Int.one_mul, ← Int.natCast_mul]
      generalize k * U = A
      omega
    · rw [if_neg c, hk.1 (by omega), ← Int.natCast_mul]
      generalize k * U = A
      omega
  obtain ⟨t, ht, hi⟩ := half_rung (k := k) (by omega)
  have hab : (val (floatOfInt .f64 n) + val 4602678819172646912).natAbs = k * U + HU := by
    rw [hv]; split
    · rw [Int.natAbs_neg, Int.natAbs_natCast]
    · rw [Int.natAbs_natCast]
  obtain ⟨x, hx, hf, hvx, hl, -⟩ := add_exact (t := t) (ofInt_int hn).2.1 fin_half (by rw [ht, hab]) hi
  have hm : mag (rg x) = k * U + HU := by rw [← natAbs_val, hvx, hab]
  have hp := HU_pos
  refine ⟨x, k, hx, hf, hl, hm, fun c => ⟨sg_of_pos ?_, hk.1 c⟩, fun c => ⟨sg_of_neg ?_, hk.2 c⟩, hkl⟩
  · rw [hvx, hv, if_neg (by omega)]; omega
  · rw [hvx, hv, if_pos c]; omega
theorem eq_word {r k : Nat} {s : Bool} {n : Int} (h : IsInt r s k) (hn : n.natAbs ≤ 2 ^ 53) (e : (if s then -(k : Int) else (k : Int)) = n) : FloatKind.f64.format.order r (floatOfInt .f64 n) = some .eq := by
  refine ord_eq h.2.1 (ofInt_int hn).2.1 ?_
  rw [intval h, ofInt_val hn, e]
theorem tmod_two_int (n : Int) : (n.tmod 2 = 0) ↔ n.natAbs % 2 = 0 := by
  rw [← Int.dvd_iff_tmod_eq_zero]; omega
theorem walk (a0 : Int) (h0 : -9223372036854775808 ≤ a0 ∧ a0 ≤ 9223372036854775807) (w : World) :
    Calls Try.prog 9 #[.int .i64 a0] w fun e w' => e = .returned (.bool true) ∧ Grown w w' := by
  by_cases c1 : a0 < -2251799813685248
  · clear h0
    go_enter Try.func9, Try.ntmps9
    go_wp2
    go_ret
    exact ⟨rfl, Grown.refl _⟩
  by_cases c2 : 2251799813685247 < a0
  · clear h0
    go_enter Try.func9, Try.ntmps9
    go_wp2
    go_ret
    exact ⟨rfl, Grown.refl _⟩
  obtain ⟨x, k, hx, hf, hl, hm, hp, hng, hkl⟩ := half_word a0 (by omega) (by omega)
  have hT := fun u => Trunc_fin x u hf
  have hF := fun u => Floor_fin x u hf
  have hC := fun u => Ceil_fin x u hf
  have hR := fun u => Round_fin x u hf hl
  have hE := fun u => RoundToEven_fin x u hf
  have iT := intW_int .zero hf hl
  have iF := intW_int .down hf hl
  have iC := intW_int .up hf hl
  have iR := awayW_int hf hl
  have iE := intW_int .even hf hl
  obtain ⟨k1, k2, k3, k4, k5⟩ := Ks (sg x) hm
  rw [k1] at iF
  rw [k2] at iC
  rw [k3] at iT
  rw [k4] at iR
  rw [k5] at iE
  have hmod := tmod_two_int a0
  generalize intW .zero x = rT at hT iT
  generalize intW .down x = rF at hF iF
  generalize intW .up x = rC at hC iC
  generalize awayW x = rR at hR iR
  generalize intW .even x = rE at hE iE
  clear k1 k2 k3 k4 k5 hm
  by_cases c : a0 < 0
  · obtain ⟨hs, hk⟩ := hng c
    rw [hs] at iT iF iC iR iE
    have eF := eq_word (n := a0) iF (by omega) (by rw [if_pos rfl, hk]; rfl)
    have eC := eq_word (n := a0 + 1) iC (by omega) (by rw [if_pos rfl, hk]; show -((k + 0 : Nat) : Int) = _; omega)
    have eT := eq_word (n := a0 + 1) iT (by omega) (by rw [if_pos rfl, hk]; omega)
    have eR := eq_word (n := a0) iR (by omega) (by rw [if_pos rfl, hk]; omega)
    by_cases o : a0.tmod 2 = 0
    · have eE := eq_word (n := a0) iE (by omega) (by rw [if_pos rfl]; have := hmod.1 o; omega)
      have o1 : (a0.tmod 2 == 0) = true := by simpa using o
      have o2 : (a0.tmod 2 != 0) = false := by simpa using o
      clear hmod iT iF iC iR iE hk hng hp hkl h0 o
      go_enter Try.func9, Try.ntmps9
      go_wp2_with (first | (go_at_call 20; refine (hT _).mono ?_; rintro e w' ⟨rfl, rfl⟩) | (go_at_call 21; refine (hR _).mono ?_; rintro e w' ⟨rfl, rfl⟩) | (go_at_call 22; refine (hE _).mono ?_; rintro e w' ⟨rfl, rfl⟩) | (go_at_call 18; refine (hF _).mono ?_; rintro e w' ⟨rfl, rfl⟩) | (go_at_call 15; refine (hC _).mono ?_; rintro e w' ⟨rfl, rfl⟩))
      go_ret
      exact ⟨rfl, Grown.refl _⟩
    · have eE := eq_word (n := a0 + 1) iE (by omega) (by rw [if_pos rfl]; have : ¬ a0.natAbs % 2 = 0 := fun q => o (hmod.2 q); omega)
      have o1 : (a0.tmod 2 == 0) = false := by simpa using o
      have o2 : (a0.tmod 2 != 0) = true := by simpa using o
      clear hmod iT iF iC iR iE hk hng hp hkl h0 o
      go_enter Try.func9, Try.ntmps9
      go_wp2_with (first | (go_at_call 20; refine (hT _).mono ?_; rintro e w' ⟨rfl, rfl⟩) | (go_at_call 21; refine (hR _).mono ?_; rintro e w' ⟨rfl, rfl⟩) | (go_at_call 22; refine (hE _).mono ?_; rintro e w' ⟨rfl, rfl⟩) | (go_at_call 18; refine (hF _).mono ?_; rintro e w' ⟨rfl, rfl⟩) | (go_at_call 15; refine (hC _).mono ?_; rintro e w' ⟨rfl, rfl⟩))
      go_ret
      exact ⟨rfl, Grown.refl _⟩
  · obtain ⟨hs, hk⟩ := hp (by omega)
    rw [hs] at iT iF iC iR iE
    have eF := eq_word (n := a0) iF (by omega) (by rw [if_neg Bool.false_ne_true, hk]; rfl)
    have eC := eq_word (n := a0 + 1) iC (by omega) (by rw [if_neg Bool.false_ne_true, hk]; rfl)
    have eT := eq_word (n := a0) iT (by omega) (by rw [if_neg Bool.false_ne_true, hk])
    have eR := eq_word (n := a0 + 1) iR (by omega) (by rw [if_neg Bool.false_ne_true, hk]; omega)
    by_cases o : a0.tmod 2 = 0
    · have eE := eq_word (n := a0) iE (by omega) (by rw [if_neg Bool.false_ne_true]; have := hmod.1 o; omega)
      have o1 : (a0.tmod 2 == 0) = true := by simpa using o
      have o2 : (a0.tmod 2 != 0) = false := by simpa using o
      rw [Int.tmod_eq_emod_of_nonneg (by omega)] at o1 o2
      clear hmod iT iF iC iR iE hk hng hp hkl h0 o
      go_enter Try.func9, Try.ntmps9
      go_wp2_with (first | (go_at_call 20; refine (hT _).mono ?_; rintro e w' ⟨rfl, rfl⟩) | (go_at_call 21; refine (hR _).mono ?_; rintro e w' ⟨rfl, rfl⟩) | (go_at_call 22; refine (hE _).mono ?_; rintro e w' ⟨rfl, rfl⟩) | (go_at_call 18; refine (hF _).mono ?_; rintro e w' ⟨rfl, rfl⟩) | (go_at_call 15; refine (hC _).mono ?_; rintro e w' ⟨rfl, rfl⟩))
      go_ret
      exact ⟨rfl, Grown.refl _⟩
    · have eE := eq_word (n := a0 + 1) iE (by omega) (by rw [if_neg Bool.false_ne_true]; have : ¬ a0.natAbs % 2 = 0 := fun q => o (hmod.2 q); omega)
      have o1 : (a0.tmod 2 == 0) = false := by simpa using o
      have o2 : (a0.tmod 2 != 0) = true := by simpa using o
      rw [Int.tmod_eq_emod_of_nonneg (by omega)] at o1 o2
      clear hmod iT iF iC iR iE hk hng hp hkl h0 o
      go_enter Try.func9, Try.ntmps9
      go_wp2_with (first | (go_at_call 20; refine (hT _).mono ?_; rintro e w' ⟨rfl, rfl⟩) | (go_at_call 21; refine (hR _).mono ?_; rintro e w' ⟨rfl, rfl⟩) | (go_at_call 22; refine (hE _).mono ?_; rintro e w' ⟨rfl, rfl⟩) | (go_at_call 18; refine (hF _).mono ?_; rintro e w' ⟨rfl, rfl⟩) | (go_at_call 15; refine (hC _).mono ?_; rintro e w' ⟨rfl, rfl⟩))
      go_ret
      exact ⟨rfl, Grown.refl _⟩

set_option maxRecDepth 100000 in
theorem lifted (os : Os) (started : os.Started) (H : Type) (enc : TypeId × Value → H) :
    ReturnsInHanded {} Try.checked os 9 .any (Rows.fnHalvesSpec.pre6 enc Try.prog Try.f9 Rows.fnHalvesRow.domain false) (Rows.fnHalvesSpec.post enc Try.prog Try.f9 false true false false) := by
  refine returnsInHanded_of_change (C := Try.checked) own started (by kernel_rfl) Try.func9
    (ChangeSpec.witness6 (enc := enc) (C := Try.checked) false ⟨#[], #[.int .i64 0], []⟩ 8 (by kernel_rfl) (by kernel_rfl) (by kernel_rfl) (by kernel_rfl)) ?_
  intro W base args ds gs before hval0 hW hcnd _
  have hval : ∀ (j : Nat) t v, Try.f9.params[j]? = some t → args[j]? = some v → Value.okWide Try.prog W .any base t v := hval0
  have hW' := hW
  obtain ⟨p, q, hA0, hV, rfl, hfz, hnd⟩ := hW
  have hA : DataW.TrodAll enc Try.prog W 0 (fun _ => true) true Try.f9.params.toList args.toList ds p := hA0
  rw [Try.params9] at hA hval
  obtain ⟨v0, vs0, d0, ds0, p0, q0, hargs, rfl, rfl, h0, r0⟩ := trodAll_cons hA
  obtain ⟨rfl, rfl, rfl⟩ := trodAll_nil r0
  obtain rfl : args = #[v0] := by cases args; simp_all
  obtain ⟨rfl, rfl⟩ := trodVars_none hV
  obtain ⟨a0, rfl, rfl, rfl, w0⟩ := open_int Try.underlying2 (hval 0 2 v0 rfl rfl) h0
  clear hA0 hval0
  simp only [List.append_nil] at hW'
  refine (walk a0 (bounds_of_wf w0) W).mono fun e W' ⟨he, hg⟩ => ?_
  subst he
  exact ⟨_, rfl, post_of_same (pa := []) (pv := []) hW' (fun _ _ _ => (trodAll_cons_mk (shut_bool Try.underlying4 _) trodAll_mk0)) (fun sp _ => (trodAll_cons_mk (shut_int Try.underlying2 w0) trodAll_mk0)) (fun _ _ => rfl) rfl
    (hg.frame _) hg.2.1 (ok_one (by kernel_rfl) rfl (okWide_bool_mk Try.underlying4 _))⟩

theorem over : Rows.fnHalvesRow.holds Try.pinned (OpenSpec.ofChange Rows.fnHalvesSpec) :=
  OpenClaim.holds_of_wide 9 Try.f9 rfl rfl rfl rfl rfl rfl rfl ⟨rfl, rfl, rfl, rfl, rfl⟩ rfl rfl rfl rfl rfl (by kernel_rfl) Try.func9 (by kernel_rfl)
    (of_decide_eq_true (by kernel_rfl)) (by unfold Func.isWrapper; first | (rw [if_pos (by decide +kernel)]; kernel_rfl) | (rw [if_neg (by decide +kernel)]; exact ⟨rfl, rfl⟩))
    (fun os started H enc _ => lifted os started H enc)

theorem proved : Rows.FnHalvesSaid := over
#print axioms proved
end Go.Proofs.Ytaabgcncacdnoaa.fnHalves
