/- The plain theory of 64-bit floating point words: what a word stands for in units of 2 to the power of -1074, and that rounding is exact where it can be, and monotone. No condition. -/
import Ieee.Arith
import Derived.Laws.FloatBits
namespace Flt
open Ieee

/-! ### cutting -/
def hEven (n d : Nat) : Nat := n / 2 ^ d + (if 2 ^ d < 2 * (n % 2 ^ d) ∨ (2 ^ d = 2 * (n % 2 ^ d) ∧ n / 2 ^ d % 2 = 1) then 1 else 0)

theorem lt_pow_log2 (n : Nat) : n < 2 ^ (n.log2 + 1) := Nat.lt_log2_self

theorem cut_big {n d : Nat} (h : n.log2 + 2 < d) : 2 * n < 2 ^ (n.log2 + 2) ∧ n < 2 ^ d ∧ 2 * n < 2 ^ d := by
  have h1 := lt_pow_log2 n
  have h2 : 2 ^ (n.log2 + 2) ≤ 2 ^ d := Nat.pow_le_pow_right (by omega) (by omega)
  have h3 : 2 ^ (n.log2 + 2) = 2 * 2 ^ (n.log2 + 1) := by rw [show n.log2 + 2 = (n.log2 + 1) + 1 from rfl, Nat.pow_succ]; omega
  omega

theorem cut_even (neg : Bool) (n d : Nat) : Toward.even.cut neg n d = hEven n d := by
  unfold Toward.cut hEven
  simp only [Nat.one_shiftLeft]
  by_cases h : d ≤ n.log2 + 2
  · rw [Nat.min_eq_left h]
    by_cases c : 2 ^ d < 2 * (n % 2 ^ d) ∨ (2 ^ d = 2 * (n % 2 ^ d) ∧ n / 2 ^ d % 2 = 1)
    · rw [if_pos c]
      have : (decide (2 ^ d < 2 * (n % 2 ^ d)) || (2 ^ d == 2 * (n % 2 ^ d) && n / 2 ^ d % 2 == 1)) = true := by simpa using c
      rw [this]; rfl
    · rw [if_neg c]
      have : (decide (2 ^ d < 2 * (n % 2 ^ d)) || (2 ^ d == 2 * (n % 2 ^ d) && n / 2 ^ d % 2 == 1)) = false := by
        rw [Bool.eq_false_iff]; simpa using c
      rw [this]; rfl
  · have hb := cut_big (n := n) (d := d) (by omega)
    rw [Nat.min_eq_right (by omega)]
    have e1 : n / 2 ^ (n.log2 + 2) = 0 := Nat.div_eq_of_lt (by omega)
    have e2 : n % 2 ^ (n.log2 + 2) = n := Nat.mod_eq_of_lt (by omega)
    have e3 : n / 2 ^ d = 0 := Nat.div_eq_of_lt (by omega)
    have e4 : n % 2 ^ d = n := Nat.mod_eq_of_lt (by omega)
    rw [e1, e2, e3, e4, if_neg (by omega)]
    simp
    omega

theorem cut_zero (neg : Bool) (n d : Nat) : Toward.zero.cut neg n d = n / 2 ^ d := by
  unfold Toward.cut
  simp only [Nat.one_shiftLeft]
  by_cases h : d ≤ n.log2 + 2
  · rw [Nat.min_eq_left h]; rfl
  · have hb := cut_big (n := n) (d := d) (by omega)
    rw [Nat.min_eq_right (by omega), Nat.div_eq_of_lt (a := n) (by omega), Nat.div_eq_of_lt (a := n) (by omega)]; rfl

theorem cut_down (neg : Bool) (n d : Nat) : Toward.down.cut neg n d = n / 2 ^ d + (if neg = true ∧ n % 2 ^ d ≠ 0 then 1 else 0) := by
  unfold Toward.cut
  simp only [Nat.one_shiftLeft]
  have key : ∀ g : Nat, n / g + (neg && n % g != 0).toNat = n / g + (if neg = true ∧ n % g ≠ 0 then 1 else 0) := by
    intro g
    by_cases c : n % g = 0 <;> cases neg <;> simp [c]
  by_cases h : d ≤ n.log2 + 2
  · rw [Nat.min_eq_left h]; exact key _
  · have hb := cut_big (n := n) (d := d) (by omega)
    rw [Nat.min_eq_right (by omega)]
    refine (key _).trans ?_
    rw [Nat.div_eq_of_lt (a := n) (by omega), Nat.div_eq_of_lt (a := n) (b := 2 ^ d) (by omega), Nat.mod_eq_of_lt (a := n) (by omega), Nat.mod_eq_of_lt (a := n) (b := 2 ^ d) (by omega)]

theorem cut_up (neg : Bool) (n d : Nat) : Toward.up.cut neg n d = n / 2 ^ d + (if neg = false ∧ n % 2 ^ d ≠ 0 then 1 else 0) := by
  unfold Toward.cut
  simp only [Nat.one_shiftLeft]
  have key : ∀ g : Nat, n / g + (!neg && n % g != 0).toNat = n / g + (if neg = false ∧ n % g ≠ 0 then 1 else 0) := by
    intro g
    by_cases c : n % g = 0 <;> cases neg <;> simp [c]
  by_cases h : d ≤ n.log2 + 2
  · rw [Nat.min_eq_left h]; exact key _
  · have hb := cut_big (n := n) (d := d) (by omega)
    rw [Nat.min_eq_right (by omega)]
    refine (key _).trans ?_
    rw [Nat.div_eq_of_lt (a := n) (by omega), Nat.div_eq_of_lt (a := n) (b := 2 ^ d) (by omega), Nat.mod_eq_of_lt (a := n) (by omega), Nat.mod_eq_of_lt (a := n) (b := 2 ^ d) (by omega)]

theorem div_scale (n d k : Nat) : n * 2 ^ k / 2 ^ (d + k) = n / 2 ^ d := by
  rw [Nat.pow_add, Nat.mul_div_mul_right _ _ (Nat.two_pow_pos k)]
theorem mod_scale (n d k : Nat) : n * 2 ^ k % 2 ^ (d + k) = n % 2 ^ d * 2 ^ k := by
  rw [Nat.pow_add, Nat.mul_mod_mul_right]

theorem hEven_scale (n d k : Nat) : hEven (n * 2 ^ k) (d + k) = hEven n d := by
  unfold hEven
  rw [div_scale, mod_scale, Nat.pow_add]
  have hk : 0 < 2 ^ k := Nat.two_pow_pos k
  have e : 2 * (n % 2 ^ d * 2 ^ k) = (2 * (n % 2 ^ d)) * 2 ^ k := by rw [Nat.mul_assoc]
  rw [e]
  have h1 : (2 ^ d * 2 ^ k < 2 * (n % 2 ^ d) * 2 ^ k) ↔ (2 ^ d < 2 * (n % 2 ^ d)) := Nat.mul_lt_mul_right hk
  have h2 : (2 ^ d * 2 ^ k = 2 * (n % 2 ^ d) * 2 ^ k) ↔ (2 ^ d = 2 * (n % 2 ^ d)) := Nat.mul_left_inj (by omega)
  simp only [h1, h2]

theorem hEven_zero (n : Nat) : hEven n 0 = n := by
  unfold hEven
  simp [Nat.mod_one]

theorem hEven_mono {m n : Nat} (d : Nat) (h : m ≤ n) : hEven m d ≤ hEven n d := by
  unfold hEven
  have hq : m / 2 ^ d ≤ n / 2 ^ d := Nat.div_le_div_right h
  by_cases e : m / 2 ^ d = n / 2 ^ d
  · have hm := Nat.div_add_mod m (2 ^ d)
    have hn := Nat.div_add_mod n (2 ^ d)
    rw [e] at hm
    have hr : m % 2 ^ d ≤ n % 2 ^ d := by omega
    rw [e]
    split <;> split <;> omega
  · split <;> split <;> omega

theorem log2_scale {m : Nat} (h : m ≠ 0) (k : Nat) : (m * 2 ^ k).log2 = m.log2 + k := by
  have hk : 0 < 2 ^ k := Nat.two_pow_pos k
  have h1 := Nat.log2_self_le h
  have h2 := lt_pow_log2 m
  have hne : m * 2 ^ k ≠ 0 := Nat.mul_ne_zero h (by omega)
  refine (Nat.log2_eq_iff hne).2 ⟨?_, ?_⟩
  · rw [Nat.pow_add]; exact Nat.mul_le_mul_right _ h1
  · rw [show m.log2 + k + 1 = (m.log2 + 1) + k by omega, Nat.pow_add]; exact (Nat.mul_lt_mul_right hk).2 h2

/-! ### rounding -/
/-- The rung nearest to a magnitude, counted in units of '2 ^ -1074'. -/
def rd (n : Nat) : Nat := if n = 0 then 0 else (n.log2 - 52) * 2 ^ 52 + hEven n (n.log2 - 52)

def INF : Nat := 9218868437227405312
theorem infRung_eq : double.infRung = INF := rfl
theorem leastPlace_eq : double.leastPlace = -1074 := rfl
theorem binade_eq : double.binade = 4503599627370496 := rfl
theorem signWeight_eq : double.signWeight = 9223372036854775808 := rfl

theorem nearest_unit (neg : Bool) (n : Nat) : double.nearest neg n (-1074) = double.word neg (min (rd n) INF) := by
  unfold Format.nearest rd
  by_cases h : n = 0
  · simp [h]
  · simp only [if_neg h, leastPlace_eq, infRung_eq, cut_even]
    rw [show double.fractionBits = 52 from rfl, show double.binade = 2 ^ 52 from rfl]
    have e1 : ((-1074 : Int) - max (-1074 + (n.log2 : Int) - ((52 : Nat) : Int)) (-1074)).toNat = 0 := by omega
    have e2 : (max (-1074 + (n.log2 : Int) - ((52 : Nat) : Int)) (-1074) - (-1074 : Int)).toNat = n.log2 - 52 := by omega
    rw [e1, e2, Nat.shiftLeft_zero]

theorem nearest_scale (neg : Bool) (m : Nat) (p : Int) (j : Nat) : double.nearest neg (m * 2 ^ j) (p - j) = double.nearest neg m p := by
  unfold Format.nearest
  have hj : 0 < 2 ^ j := Nat.two_pow_pos j
  by_cases h : m = 0
  · simp [h]
  · have hne : m * 2 ^ j ≠ 0 := Nat.mul_ne_zero h (by omega)
    simp only [if_neg h, if_neg hne, cut_even, log2_scale h]
    rw [show double.fractionBits = 52 from rfl]
    have el : p - (j : Int) + ((m.log2 + j : Nat) : Int) - ((52 : Nat) : Int) = p + (m.log2 : Int) - ((52 : Nat) : Int) := by omega
    rw [el]
    generalize max (p + (m.log2 : Int) - ((52 : Nat) : Int)) double.leastPlace = last
    have key : hEven ((m * 2 ^ j) <<< (p - (j : Int) - last).toNat) (last - (p - (j : Int))).toNat = hEven (m <<< (p - last).toNat) (last - p).toNat := by
      simp only [Nat.shiftLeft_eq]
      by_cases c1 : (j : Int) ≤ p - last
      · obtain ⟨a, ha⟩ : ∃ a : Nat, p - last = j + a := ⟨(p - last - j).toNat, by omega⟩
        rw [show (p - (j : Int) - last).toNat = a by omega, show (last - (p - (j : Int))).toNat = 0 by omega, show (p - last).toNat = j + a by omega, show (last - p).toNat = 0 by omega, Nat.pow_add, Nat.mul_assoc]
      · by_cases c2 : 0 ≤ p - last
        · obtain ⟨a, ha⟩ : ∃ a : Nat, p - last = a := ⟨(p - last).toNat, by omega⟩
          rw [show (p - (j : Int) - last).toNat = 0 by omega, show (last - (p - (j : Int))).toNat = 0 + (j - a) by omega, show (p - last).toNat = a by omega, show (last - p).toNat = 0 by omega, Nat.pow_zero, Nat.mul_one, ← hEven_scale (m * 2 ^ a) 0 (j - a), Nat.mul_assoc, ← Nat.pow_add, show a + (j - a) = j by omega]
        · obtain ⟨a, ha⟩ : ∃ a : Nat, last - p = a := ⟨(last - p).toNat, by omega⟩
          rw [show (p - (j : Int) - last).toNat = 0 by omega, show (last - (p - (j : Int))).toNat = a + j by omega, show (p - last).toNat = 0 by omega, show (last - p).toNat = a by omega, Nat.pow_zero, Nat.mul_one, Nat.mul_one, hEven_scale]
    rw [key]

/-- Rounding depends on the number alone. -/
theorem nearest_at (neg : Bool) (m j : Nat) : double.nearest neg m (-1074 + (j : Int)) = double.word neg (min (rd (m * 2 ^ j)) INF) := by
  rw [← nearest_unit, ← nearest_scale neg m (-1074 + (j : Int)) j]
  congr 1
  omega

/-! ### the rungs' magnitudes -/
def mag (r : Nat) : Nat := if r / 2 ^ 52 = 0 then r % 2 ^ 52 else (2 ^ 52 + r % 2 ^ 52) * 2 ^ (r / 2 ^ 52 - 1)

theorem mag_small {r : Nat} (h : r < 2 ^ 52) : mag r = r := by
  unfold mag
  rw [if_pos (by omega)]; omega

theorem mag_of (e f : Nat) (hf : f < 2 ^ 52) : mag ((e + 1) * 2 ^ 52 + f) = (2 ^ 52 + f) * 2 ^ e := by
  have h1 : ((e + 1) * 2 ^ 52 + f) / 2 ^ 52 = e + 1 := by omega
  have h2 : ((e + 1) * 2 ^ 52 + f) % 2 ^ 52 = f := by omega
  unfold mag
  rw [h1, h2, if_neg (by omega), Nat.add_sub_cancel]

theorem rung_cases (r : Nat) : r < 2 ^ 52 ∨ ∃ e f, f < 2 ^ 52 ∧ r = (e + 1) * 2 ^ 52 + f := by
  by_cases h : r < 2 ^ 52
  · exact .inl h
  · exact .inr ⟨r / 2 ^ 52 - 1, r % 2 ^ 52, by omega, by omega⟩

theorem mag_lt_succ (r : Nat) : mag r < mag (r + 1) := by
  rcases rung_cases r with h | ⟨e, f, hf, rfl⟩
  · rw [mag_small h]
    by_cases h' : r + 1 < 2 ^ 52
    · rw [mag_small h']; omega
    · rw [show r + 1 = (0 + 1) * 2 ^ 52 + 0 by omega, mag_of _ _ (by omega)]; omega
  · rw [mag_of _ _ hf]
    have he : 0 < 2 ^ e := Nat.two_pow_pos e
    by_cases h' : f + 1 < 2 ^ 52
    · rw [show (e + 1) * 2 ^ 52 + f + 1 = (e + 1) * 2 ^ 52 + (f + 1) by omega, mag_of _ _ h']
      exact (Nat.mul_lt_mul_right he).2 (by omega)
    · rw [show (e + 1) * 2 ^ 52 + f + 1 = (e + 1 + 1) * 2 ^ 52 + 0 by omega, mag_of _ _ (by omega), show 2 ^ (e + 1) = 2 * 2 ^ e by rw [Nat.pow_succ]; omega, ← Nat.mul_assoc]
      exact (Nat.mul_lt_mul_right he).2 (by omega)

theorem mag_lt {r s : Nat} (h : r < s) : mag r < mag s := by
  induction s with
  | zero => omega
  | succ s ih =>
    by_cases e : r = s
    · rw [e]; exact mag_lt_succ s
    · exact Nat.lt_trans (ih (by omega)) (mag_lt_succ s)
theorem mag_le {r s : Nat} (h : r ≤ s) : mag r ≤ mag s := by
  by_cases e : r = s
  · rw [e]; exact Nat.le_refl _
  · exact Nat.le_of_lt (mag_lt (by omega))
theorem mag_lt_iff {r s : Nat} : mag r < mag s ↔ r < s := by
  refine ⟨fun h => ?_, mag_lt⟩
  rcases Nat.lt_or_ge r s with h' | h'
  · exact h'
  · have := mag_le h'; omega
theorem mag_le_iff {r s : Nat} : mag r ≤ mag s ↔ r ≤ s := by
  have := @mag_lt_iff s r
  omega
theorem mag_inj {r s : Nat} (h : mag r = mag s) : r = s := by
  have h1 := (@mag_le_iff r s).1 (by omega)
  have h2 := (@mag_le_iff s r).1 (by omega)
  omega
theorem mag_zero : mag 0 = 0 := mag_small (by omega)
theorem mag_eq_zero {r : Nat} : mag r = 0 ↔ r = 0 := by
  refine ⟨fun h => mag_inj (by rw [h, mag_zero]), fun h => by rw [h, mag_zero]⟩
theorem le_mag (r : Nat) : r ≤ mag r := by
  induction r with
  | zero => omega
  | succ r ih => have := mag_lt_succ r; omega

theorem log2_between {n k : Nat} (h1 : 2 ^ k ≤ n) (h2 : n < 2 ^ (k + 1)) : n.log2 = k := by
  have hk := Nat.two_pow_pos k
  exact (Nat.log2_eq_iff (by omega)).2 ⟨h1, h2⟩

theorem rd_mag (r : Nat) : rd (mag r) = r := by
  rcases rung_cases r with h | ⟨e, f, hf, rfl⟩
  · rw [mag_small h]
    unfold rd
    by_cases h0 : r = 0
    · simp [h0]
    · rw [if_neg h0]
      have hl : r.log2 < 52 := (Nat.log2_lt h0).2 h
      rw [show r.log2 - 52 = 0 by omega, hEven_zero]; omega
  · rw [mag_of _ _ hf]
    unfold rd
    have he : 0 < 2 ^ e := Nat.two_pow_pos e
    have hne : (2 ^ 52 + f) * 2 ^ e ≠ 0 := Nat.mul_ne_zero (by omega) (by omega)
    rw [if_neg hne, log2_scale (by omega), log2_between (n := 2 ^ 52 + f) (k := 52) (by omega) (by omega), show 52 + e - 52 = 0 + e by omega, hEven_scale, hEven_zero]
    omega

theorem rd_bounds {n : Nat} (h : n ≠ 0) : (52 ≤ n.log2 → (n.log2 - 51) * 2 ^ 52 ≤ rd n ∧ rd n ≤ (n.log2 - 50) * 2 ^ 52) ∧ (n.log2 < 52 → rd n = n) := by
  have h1 := Nat.log2_self_le h
  have h2 := lt_pow_log2 n
  unfold rd
  rw [if_neg h]
  refine ⟨fun hl => ?_, fun hl => by rw [show n.log2 - 52 = 0 by omega, hEven_zero]; omega⟩
  obtain ⟨d, hd⟩ : ∃ d, n.log2 = 52 + d := ⟨n.log2 - 52, by omega⟩
  have hdp : 0 < 2 ^ d := Nat.two_pow_pos d
  rw [hd] at h1 h2 ⊢
  rw [show 52 + d - 52 = d by omega]
  have q1 : 2 ^ 52 ≤ n / 2 ^ d := by
    rw [Nat.le_div_iff_mul_le hdp, ← Nat.pow_add]; exact h1
  have q2 : n / 2 ^ d < 2 ^ 53 := by
    rw [Nat.div_lt_iff_lt_mul hdp, ← Nat.pow_add, show 53 + d = 52 + d + 1 by omega]; exact h2
  have e1 : n / 2 ^ d ≤ hEven n d := by unfold hEven; omega
  have e2 : hEven n d ≤ n / 2 ^ d + 1 := by unfold hEven; split <;> omega
  omega

theorem rd_mono {m n : Nat} (h : m ≤ n) : rd m ≤ rd n := by
  by_cases hm : m = 0
  · subst hm; unfold rd; simp
  have hn : n ≠ 0 := by omega
  have bm := rd_bounds hm
  have bn := rd_bounds hn
  have hl : m.log2 ≤ n.log2 := (Nat.le_log2 hn).2 (Nat.le_trans (Nat.log2_self_le hm) h)
  by_cases e : m.log2 = n.log2
  · unfold rd
    rw [if_neg hm, if_neg hn, e]
    have := hEven_mono (n.log2 - 52) h
    omega
  · by_cases c : 52 ≤ n.log2
    · have b1 := bn.1 c
      by_cases c' : 52 ≤ m.log2
      · have b2 := bm.1 c'
        have : (m.log2 - 50) * 2 ^ 52 ≤ (n.log2 - 51) * 2 ^ 52 := Nat.mul_le_mul_right _ (by omega)
        omega
      · have b2 := bm.2 (by omega)
        have : m < 2 ^ 52 := (Nat.log2_lt hm).1 (by omega)
        have : 1 * 2 ^ 52 ≤ (n.log2 - 51) * 2 ^ 52 := Nat.mul_le_mul_right _ (by omega)
        omega
    · rw [bm.2 (by omega), bn.2 (by omega)]; exact h

theorem rd_ge {n r : Nat} (h : mag r ≤ n) : r ≤ rd n := by have := rd_mono h; rwa [rd_mag] at this
theorem rd_le {n r : Nat} (h : n ≤ mag r) : rd n ≤ r := by have := rd_mono h; rwa [rd_mag] at this
theorem rd_zero : rd 0 = 0 := rfl
theorem rd_pos {n : Nat} (h : n ≠ 0) : 0 < rd n := by
  have : mag 1 ≤ n := by rw [mag_small (by omega)]; omega
  have := rd_ge this; omega

/-- A number of at most 53 binary digits is a rung's magnitude. -/
theorem exists_rung : ∀ (k m : Nat), m < 2 ^ 53 → ∃ r, mag r = m * 2 ^ k
  | 0, m, h => by
    by_cases c : m < 2 ^ 52
    · exact ⟨m, by rw [mag_small c]; omega⟩
    · exact ⟨(0 + 1) * 2 ^ 52 + (m - 2 ^ 52), by rw [mag_of _ _ (by omega), show 2 ^ 52 + (m - 2 ^ 52) = m by omega]⟩
  | k + 1, m, h => by
    by_cases c : m < 2 ^ 52
    · obtain ⟨r, hr⟩ := exists_rung k (m * 2) (by omega)
      exact ⟨r, by rw [hr, Nat.pow_succ, Nat.mul_assoc, Nat.mul_comm 2]⟩
    · exact ⟨(k + 1 + 1) * 2 ^ 52 + (m - 2 ^ 52), by rw [mag_of _ _ (by omega), show 2 ^ 52 + (m - 2 ^ 52) = m by omega]⟩

theorem exists_rung' (k m : Nat) (h : m ≤ 2 ^ 53) : ∃ r, mag r = m * 2 ^ k := by
  by_cases c : m < 2 ^ 53
  · exact exists_rung k m c
  · obtain ⟨r, hr⟩ := exists_rung (k + 1) (2 ^ 52) (by omega)
    exact ⟨r, by rw [hr, show 2 ^ (k + 1) = 2 * 2 ^ k by (rw [Nat.pow_succ]; omega), show m = 2 ^ 53 by omega, ← Nat.mul_assoc]⟩

/-- Every magnitude is of this make. -/
theorem mag_form (r : Nat) : ∃ m k, mag r = m * 2 ^ k ∧ m < 2 ^ 53 ∧ (k = 0 ∨ 2 ^ 52 ≤ m) ∧ (r < INF → k ≤ 2045) := by
  rcases rung_cases r with h | ⟨e, f, hf, rfl⟩
  · exact ⟨r, 0, by rw [mag_small h]; omega, by omega, .inl rfl, by omega⟩
  · refine ⟨2 ^ 52 + f, e, mag_of _ _ hf, by omega, .inr (by omega), fun h => ?_⟩
    unfold INF at h
    omega

theorem mag_of0 (e : Nat) : mag ((e + 1) * 2 ^ 52) = 2 ^ 52 * 2 ^ e := by
  have h := mag_of e 0 (by omega)
  rwa [Nat.add_zero, Nat.add_zero] at h
theorem mag_INF : mag INF = 2 ^ 52 * 2 ^ 2046 := (congrArg mag (show INF = (2046 + 1) * 2 ^ 52 by unfold INF; omega)).trans (mag_of0 2046)

attribute [irreducible] mag rd
end Flt
