/- Plain facts on any of the five roundings of a finite word: it is an integer of its sign, less than 1 away. Conditions: as each states. -/
import Derived.Test.YtaabgcncacdnoaaLst
namespace Go.Proofs.Ytaabgcncacdnoaa
open Flt Ieee Go.RowKit

theorem roundW_int {x : Nat} (h : Fnt x) (h0 : x < 2 ^ 64) (k : Nat) : ∃ K, IsInt (roundW x k) (sg x) K ∧ (K = mag (rg x) / U ∨ (K = mag (rg x) / U + 1 ∧ mag (rg x) % U ≠ 0)) := by
  match k with
  | 0 => exact ⟨_, intW_int .down h h0, K_form _ _ _⟩
  | 1 => exact ⟨_, intW_int .up h h0, K_form _ _ _⟩
  | 2 => exact ⟨_, intW_int .zero h h0, K_form _ _ _⟩
  | 3 => exact ⟨_, awayW_int h h0, Kaway_form _⟩
  | _ + 4 => exact ⟨_, intW_int .even h h0, K_form _ _ _⟩
theorem roundW_of_mod {x : Nat} (h : Fnt x) (h0 : x < 2 ^ 64) (k : Nat) (c : mag (rg x) % U = 0) : roundW x k = x := by
  obtain ⟨K, h1, h2⟩ := roundW_int h h0 k
  rcases h2 with h2 | h2
  · rw [h2] at h1; exact isInt_eq h1 (isInt_of_mod h h0 c)
  · exact absurd c h2.2
theorem roundW_nonzero {x : Nat} (h : Fnt x) (h0 : x < 2 ^ 64) (k : Nat) (c : U ≤ mag (rg x)) : FloatKind.f64.format.order (roundW x k) 0 = some .lt ∨ FloatKind.f64.format.order (roundW x k) 0 = some .gt := by
  obtain ⟨K, h1, h2⟩ := roundW_int h h0 k
  have hp := div_pos c
  refine int_nonzero h1 ?_
  rcases h2 with h2 | h2
  · rw [h2]; exact hp
  · rw [h2.1]; exact Nat.succ_pos _

/-! ### order from values -/
theorem ord_le {a b : Nat} (ha : Fnt a) (hb : Fnt b) (h : val a ≤ val b) : FloatKind.f64.format.order a b = some .lt ∨ FloatKind.f64.format.order a b = some .eq := by
  rcases Int.lt_or_eq_of_le h with c | c
  · exact .inl (ord_lt ha hb c)
  · exact .inr (ord_eq ha hb c)
theorem ord_ge {a b : Nat} (ha : Fnt a) (hb : Fnt b) (h : val b ≤ val a) : FloatKind.f64.format.order a b = some .gt ∨ FloatKind.f64.format.order a b = some .eq := by
  rcases Int.lt_or_eq_of_le h with c | c
  · exact .inl (ord_gt ha hb c)
  · exact .inr (ord_eq ha hb c.symm)
theorem val_mono {r t s : Nat} {b : Bool} {K M : Nat} (h1 : IsInt r b K) (h2 : IsInt t b M) (h : if b then M ≤ K else K ≤ M) (_hs : s = s) : val r ≤ val t := by
  rw [isInt_val h1, isInt_val h2]
  cases b
  · rw [if_neg Bool.false_ne_true] at h ⊢
    rw [if_neg Bool.false_ne_true]
    exact Int.ofNat_le.2 (Nat.mul_le_mul_right _ h)
  · rw [if_pos rfl] at h ⊢
    rw [if_pos rfl]
    exact Int.neg_le_neg (Int.ofNat_le.2 (Nat.mul_le_mul_right _ h))
theorem le_or_of {q K : Nat} {P : Prop} (h : K = q ∨ (K = q + 1 ∧ P)) : q ≤ K := by rcases h with h | h <;> omega
theorem roundW_between {x : Nat} (h : Fnt x) (h0 : x < 2 ^ 64) (k : Nat) : val (roundW x 0) ≤ val (roundW x k) ∧ val (roundW x k) ≤ val (roundW x 1) := by
  obtain ⟨K, h1, h2⟩ := roundW_int h h0 k
  have hd := intW_int .down h h0
  have hu := intW_int .up h h0
  rw [K_down] at hd
  rw [K_up] at hu
  have hq := le_or_of h2
  cases hs : sg x
  · rw [hs] at h1 hd hu
    rw [if_neg (fun k => Bool.false_ne_true k.1), Nat.add_zero] at hd
    refine ⟨val_mono (s := 0) hd h1 hq rfl, val_mono (s := 0) h1 hu ?_ rfl⟩
    show K ≤ _
    rcases h2 with h2 | ⟨h2, h3⟩
    · rw [h2]; exact Nat.le_add_right _ _
    · rw [h2, if_pos ⟨rfl, h3⟩]; exact Nat.le_refl _
  · rw [hs] at h1 hd hu
    rw [if_neg (fun k => Bool.noConfusion k.1), Nat.add_zero] at hu
    refine ⟨val_mono (s := 0) hd h1 ?_ rfl, val_mono (s := 0) h1 hu hq rfl⟩
    show K ≤ _
    rcases h2 with h2 | ⟨h2, h3⟩
    · rw [h2]; exact Nat.le_add_right _ _
    · rw [h2, if_pos ⟨rfl, h3⟩]; exact Nat.le_refl _
theorem roundW_fin {x : Nat} (h : Fnt x) (h0 : x < 2 ^ 64) (k : Nat) : Fnt (roundW x k) ∧ roundW x k < 2 ^ 64 := by
  obtain ⟨K, h1, -⟩ := roundW_int h h0 k
  exact ⟨h1.2.1, h1.1⟩

/-- Ceil less Floor, where there is a fraction. -/
theorem gap_one {x : Nat} (h : Fnt x) (h0 : x < 2 ^ 64) (c : mag (rg x) % U ≠ 0) : ∃ g, double.sub (roundW x 1) (roundW x 0) = some g ∧ FloatKind.f64.format.order g 4607182418800017408 = some .eq := by
  have hd := intW_int .down h h0
  have hu := intW_int .up h h0
  rw [K_down] at hd
  rw [K_up] at hu
  have hv : val (roundW x 1) - val (roundW x 0) = (U : Int) := by
    have e1 : roundW x 0 = intW .down x := rfl
    have e2 : roundW x 1 = intW .up x := rfl
    rw [e1, e2, isInt_val hd, isInt_val hu]
    generalize mag (rg x) / U = q
    have hsu := succ_U q
    cases sg x
    · rw [if_neg Bool.false_ne_true, if_neg Bool.false_ne_true, if_pos ⟨rfl, c⟩, if_neg (fun k => Bool.false_ne_true k.1), Nat.add_zero, hsu]
      generalize q * U = A
      omega
    · rw [if_pos rfl, if_pos rfl, if_neg (fun k => Bool.noConfusion k.1), if_pos ⟨rfl, c⟩, Nat.add_zero, hsu]
      generalize q * U = A
      omega
  obtain ⟨t, ht, hi⟩ := int_rung (k := 1) (by omega)
  obtain ⟨g, hg, h1, h2, -⟩ := sub_exact (t := t) (roundW_fin h h0 1).1 (roundW_fin h h0 0).1 (by rw [hv, ht, Int.natAbs_natCast, Nat.one_mul]) hi
  exact ⟨g, hg, ord_eq h1 fin_one (by rw [h2, hv, val_one])⟩

/-- How far a rounding is away. -/
theorem dist1 {m A F V : Nat} (h : m = A + F) (hm : F < V) : ((A : Int) - (m : Int)).natAbs < V ∧ (-(A : Int) - -(m : Int)).natAbs < V := by omega
theorem dist2 {m A B F V : Nat} (h : m = A + F) (c : F ≠ 0) (hm : F < V) (hB : B = A + V) : ((B : Int) - (m : Int)).natAbs < V ∧ (-(B : Int) - -(m : Int)).natAbs < V := by omega
theorem roundW_dist {x : Nat} (h : Fnt x) (h0 : x < 2 ^ 64) (k : Nat) : (val (roundW x k) - val x).natAbs < U := by
  obtain ⟨K, h1, h2⟩ := roundW_int h h0 k
  have hq := qf (mag (rg x))
  have hm := Nat.mod_lt (mag (rg x)) U_pos
  rw [isInt_val h1, val_eq (b := x) rfl]
  rcases h2 with h2 | ⟨h2, h3⟩
  · rw [h2]
    have hd := dist1 hq hm
    cases sg x
    · rw [if_neg Bool.false_ne_true, if_neg Bool.false_ne_true]; exact hd.1
    · rw [if_pos rfl, if_pos rfl]; exact hd.2
  · rw [h2]
    have hd := dist2 hq h3 hm (succ_U _)
    cases sg x
    · rw [if_neg Bool.false_ne_true, if_neg Bool.false_ne_true]; exact hd.1
    · rw [if_pos rfl, if_pos rfl]; exact hd.2
theorem near_le_one (s : Bool) {z : Int} (h : z.natAbs ≤ U) : Fnt (near s z) ∧ mag (rg (near s z)) ≤ U := by
  have h1 : rd z.natAbs ≤ rg 4607182418800017408 := rd_le (by rw [mag_one]; exact h)
  have h2 : rg 4607182418800017408 < INF := fin_one
  have e : rg (near s z) = rd z.natAbs := by rw [rg_near, Nat.min_eq_left (by omega)]
  refine ⟨by unfold Fnt; rw [e]; omega, ?_⟩
  rw [e, ← mag_one]
  exact mag_le h1
/-- The difference of a rounding and the number is at most 1. -/
theorem sub_le_one {x : Nat} (h : Fnt x) (h0 : x < 2 ^ 64) (k : Nat) : ∃ g, double.sub (roundW x k) x = some g ∧ Fnt g ∧ (FloatKind.f64.format.order (lsize g) 4607182418800017408 = some .lt ∨ FloatKind.f64.format.order (lsize g) 4607182418800017408 = some .eq) := by
  have hd := roundW_dist h h0 k
  obtain ⟨h1, h2⟩ := near_le_one (sg (roundW x k) && !sg x) (z := val (roundW x k) - val x) (Nat.le_of_lt hd)
  have hl := near_lt (sg (roundW x k) && !sg x) (val (roundW x k) - val x)
  refine ⟨_, sub_fin (roundW_fin h h0 k).1 h, h1, ?_⟩
  exact ord_le (lsize_fin hl h1) fin_one (by rw [lsize_val hl, val_one]; exact Int.ofNat_le.2 h2)
end Go.Proofs.Ytaabgcncacdnoaa
