/- Words of 64 bits: sign, rung and value; order, sums, products, quotients and conversions of finite words by their values. No condition. -/
import Derived.Test.YtnegjfdaijnadaaFlt
import Derived.Laws.FloatArith
namespace Flt
open Ieee Go

def sg (b : Nat) : Bool := b / 9223372036854775808 % 2 == 1
def rg (b : Nat) : Nat := b % 9223372036854775808
def wd (s : Bool) (r : Nat) : Nat := if s then 9223372036854775808 + r else r
theorem wd_eq (s : Bool) (r : Nat) : double.word s r = wd s r := rfl
theorem sg_wd (s : Bool) {r : Nat} (h : r < 9223372036854775808) : sg (wd s r) = s := by
  cases s
  · simp only [sg, wd, Bool.false_eq_true, if_false, Nat.div_eq_of_lt h]; rfl
  · simp only [sg, wd, if_true]
    rw [show (9223372036854775808 + r) / 9223372036854775808 = 1 by omega]; rfl
theorem rg_wd (s : Bool) {r : Nat} (h : r < 9223372036854775808) : rg (wd s r) = r := by
  cases s <;> simp [rg, wd] <;> omega
theorem wd_lt (s : Bool) {r : Nat} (h : r < 9223372036854775808) : wd s r < 2 ^ 64 := by
  cases s <;> simp [wd] <;> omega
theorem wd_sg_rg {b : Nat} (h : b < 2 ^ 64) : wd (sg b) (rg b) = b := by
  unfold wd sg rg
  by_cases c : b < 9223372036854775808
  · rw [Nat.div_eq_of_lt c]; simp; omega
  · rw [show b / 9223372036854775808 = 1 by omega]; simp; omega
theorem rg_lt (b : Nat) : rg b < 9223372036854775808 := Nat.mod_lt _ (by omega)

def Fnt (b : Nat) : Prop := rg b < INF
def NaN (b : Nat) : Prop := INF < rg b
def Inf (b : Nat) : Prop := rg b = INF
instance (b : Nat) : Decidable (Fnt b) := inferInstanceAs (Decidable (rg b < INF))
instance (b : Nat) : Decidable (NaN b) := inferInstanceAs (Decidable (INF < rg b))
instance (b : Nat) : Decidable (Inf b) := inferInstanceAs (Decidable (rg b = INF))
theorem kinds (b : Nat) : Fnt b ∨ Inf b ∨ NaN b := by unfold Fnt NaN Inf; omega

/-- The value of a finite word, in units of '2 ^ -1074'. -/
def val (b : Nat) : Int := if sg b then -(mag (rg b) : Int) else (mag (rg b) : Int)
theorem natAbs_val (b : Nat) : (val b).natAbs = mag (rg b) := by unfold val; split <;> omega
theorem val_wd (s : Bool) {r : Nat} (h : r < 9223372036854775808) : val (wd s r) = if s then -(mag r : Int) else (mag r : Int) := by
  unfold val; rw [sg_wd s h, rg_wd s h]
theorem val_eq_zero {b : Nat} : val b = 0 ↔ rg b = 0 := by
  have := natAbs_val b
  have h2 := @mag_eq_zero (rg b)
  omega
theorem val_neg_iff {b : Nat} : val b < 0 ↔ sg b = true ∧ rg b ≠ 0 := by
  have h2 := @mag_eq_zero (rg b)
  unfold val
  cases h : sg b <;> simp <;> omega
theorem INF_lt : INF < 9223372036854775808 := by unfold INF; omega

theorem read_eq (b : Nat) : double.read b = if rg b < 4503599627370496 then .number (sg b) (rg b) (-1074) else if rg b < INF then .number (sg b) (4503599627370496 + rg b % 4503599627370496) (-1074 + ((rg b / 4503599627370496 - 1 : Nat) : Int)) else if rg b = INF then .infinity (sg b) else .nan (sg b) (rg b - INF) := rfl
theorem read_nan {b : Nat} (h : NaN b) : double.read b = .nan (sg b) (rg b - INF) := by
  unfold NaN at h
  have : ¬ rg b < 4503599627370496 := by unfold INF at h; omega
  rw [read_eq, if_neg this, if_neg (by omega), if_neg (by omega)]
theorem read_inf {b : Nat} (h : Inf b) : double.read b = .infinity (sg b) := by
  unfold Inf at h
  have : ¬ rg b < 4503599627370496 := by rw [h]; decide
  rw [read_eq, if_neg this, if_neg (by omega), if_pos h]
theorem read_fin {b : Nat} (h : Fnt b) : ∃ m k, double.read b = .number (sg b) m (-1074 + (k : Nat)) ∧ mag (rg b) = m * 2 ^ k ∧ m < 2 ^ 53 ∧ k ≤ 2045 ∧ (k = 0 ∨ 2 ^ 52 ≤ m) := by
  unfold Fnt at h
  rw [read_eq]
  rcases rung_cases (rg b) with c | ⟨e, f, hf, c⟩
  · rw [if_pos (by omega)]
    exact ⟨rg b, 0, rfl, by rw [mag_small c]; omega, by omega, by omega, .inl rfl⟩
  · have hi : e ≤ 2045 := by unfold INF at h; omega
    rw [if_neg (by omega), if_pos h, c, mag_of _ _ hf]
    refine ⟨2 ^ 52 + f, e, ?_, rfl, by omega, hi, .inr (by omega)⟩
    rw [show ((e + 1) * 2 ^ 52 + f) % 4503599627370496 = f by omega, show ((e + 1) * 2 ^ 52 + f) / 4503599627370496 - 1 = e by omega]

theorem signed_eq (s : Bool) (m k : Nat) : signed s m k = if s then -((m * 2 ^ k : Nat) : Int) else ((m * 2 ^ k : Nat) : Int) := by
  unfold signed; rw [Nat.shiftLeft_eq]

/-- The value of a word that reads as a number. -/
theorem val_of {b m k : Nat} (h : mag (rg b) = m * 2 ^ k) : val b = signed (sg b) m k := by
  unfold val; rw [signed_eq, h]

theorem signed_scale (s : Bool) (m a k : Nat) : signed s m (a + k) = signed s m a * ((2 ^ k : Nat) : Int) := by
  rw [signed_eq, signed_eq, Nat.pow_add, ← Nat.mul_assoc]
  cases s
  · simp
  · simp [Int.neg_mul]

theorem compare_scale (x y : Int) {c : Int} (h : 0 < c) : compare (x * c) (y * c) = compare x y := by
  simp only [compare, compareOfLessAndEq]
  have h1 : x * c < y * c ↔ x < y := Int.mul_lt_mul_right h
  have h2 : x * c = y * c ↔ x = y := Int.mul_eq_mul_right_iff (by omega)
  simp only [h1, h2]

/-- ORDER: finite words stand as their values. -/
theorem order_fin {a b : Nat} (ha : Fnt a) (hb : Fnt b) : double.order a b = some (compare (val a) (val b)) := by
  obtain ⟨m, i, ra, va, -, -, -⟩ := read_fin ha
  obtain ⟨n, j, rb, vb, -, -, -⟩ := read_fin hb
  unfold Format.order
  rw [ra, rb]
  simp only [Datum.order]
  congr 1
  rw [val_of va, val_of vb]
  have p : 0 < ((2 ^ (min i j) : Nat) : Int) := by have := Nat.two_pow_pos (min i j); omega
  have ei : (-1074 + (i : Int) - min (-1074 + (i : Int)) (-1074 + (j : Int))).toNat = i - min i j := by omega
  have ej : (-1074 + (j : Int) - min (-1074 + (i : Int)) (-1074 + (j : Int))).toNat = j - min i j := by omega
  rw [ei, ej, ← compare_scale _ _ p, ← signed_scale, ← signed_scale, show i - min i j + min i j = i by omega, show j - min i j + min i j = j by omega]

theorem order_nan_left {a : Nat} (b : Nat) (h : NaN a) : double.order a b = none := by
  unfold Format.order; rw [read_nan h]; rfl
theorem order_nan_right (a : Nat) {b : Nat} (h : NaN b) : double.order a b = none := by
  unfold Format.order; rw [read_nan h]; cases double.read a <;> rfl
theorem order_inf_inf {a b : Nat} (ha : Inf a) (hb : Inf b) : double.order a b = some (compare (sg b).toNat (sg a).toNat) := by
  unfold Format.order; rw [read_inf ha, read_inf hb]; rfl
theorem order_inf_fin {a b : Nat} (ha : Inf a) (hb : Fnt b) : double.order a b = some (if sg a then .lt else .gt) := by
  obtain ⟨n, j, rb, -⟩ := read_fin hb
  unfold Format.order; rw [read_inf ha, rb]; rfl
theorem order_fin_inf {a b : Nat} (ha : Fnt a) (hb : Inf b) : double.order a b = some (if sg b then .gt else .lt) := by
  obtain ⟨n, j, ra, -⟩ := read_fin ha
  unfold Format.order; rw [read_inf hb, ra]; rfl

/-! ### sums -/
/-- The word nearest to a whole number of units; 's': the sign of a zero. -/
def near (s : Bool) (z : Int) : Nat := wd (if z = 0 then s else decide (z < 0)) (min (rd z.natAbs) INF)

theorem sum_core {s t : Bool} {m n i j : Nat} {x y : Int} (hx : x = signed s m i) (hy : y = signed t n j) :
    (Datum.sum (.number s m (-1074 + (i : Nat))) (.number t n (-1074 + (j : Nat)))).map double.write = some (near (s && t) (x + y)) := by
  have ei : (-1074 + (i : Int) - min (-1074 + (i : Int)) (-1074 + (j : Int))).toNat = i - min i j := by omega
  have ej : (-1074 + (j : Int) - min (-1074 + (i : Int)) (-1074 + (j : Int))).toNat = j - min i j := by omega
  have eb : min (-1074 + (i : Int)) (-1074 + (j : Int)) = -1074 + ((min i j : Nat) : Int) := by omega
  simp only [Datum.sum, Option.map_some, Format.write]
  rw [ei, ej, eb, nearest_at]
  have p : 0 < 2 ^ (min i j) := Nat.two_pow_pos _
  have e1 : (signed s m (i - min i j) + signed t n (j - min i j)) * ((2 ^ (min i j) : Nat) : Int) = x + y := by
    rw [Int.add_mul, ← signed_scale, ← signed_scale, show i - min i j + min i j = i by omega, show j - min i j + min i j = j by omega, hx, hy]
  generalize signed s m (i - min i j) + signed t n (j - min i j) = T at e1 ⊢
  unfold near
  rw [wd_eq, ← e1, Int.natAbs_mul, Int.natAbs_natCast]
  have z0 : T * ((2 ^ (min i j) : Nat) : Int) = 0 ↔ T = 0 := by
    rw [Int.mul_eq_zero]; omega
  have z1 : T * ((2 ^ (min i j) : Nat) : Int) < 0 ↔ T < 0 := by
    have : (0 : Int) < ((2 ^ (min i j) : Nat) : Int) := by omega
    have h : T * ((2 ^ (min i j) : Nat) : Int) < 0 * ((2 ^ (min i j) : Nat) : Int) ↔ T < 0 := Int.mul_lt_mul_right this
    rw [Int.zero_mul] at h; exact h
  simp only [z0, z1]

theorem add_fin {a b : Nat} (ha : Fnt a) (hb : Fnt b) : double.add a b = some (near (sg a && sg b) (val a + val b)) := by
  obtain ⟨m, i, ra, va, -⟩ := read_fin ha
  obtain ⟨n, j, rb, vb, -⟩ := read_fin hb
  unfold Format.add
  rw [ra, rb]
  exact sum_core (val_of va) (val_of vb)

theorem sub_fin {a b : Nat} (ha : Fnt a) (hb : Fnt b) : double.sub a b = some (near (sg a && !sg b) (val a - val b)) := by
  obtain ⟨m, i, ra, va, -⟩ := read_fin ha
  obtain ⟨n, j, rb, vb, -⟩ := read_fin hb
  unfold Format.sub
  rw [ra, rb]
  simp only [Datum.opposite]
  rw [Int.sub_eq_add_neg]
  refine sum_core (val_of va) ?_
  rw [val_of vb, signed_eq, signed_eq]
  cases sg b <;> simp

theorem sub_nan_left {a : Nat} (b : Nat) (h : NaN a) : double.sub a b = none := by
  unfold Format.sub; rw [read_nan h]; cases (double.read b) <;> rfl
theorem sub_inf_self {a : Nat} (h : Inf a) : double.sub a a = none := by
  unfold Format.sub; rw [read_inf h]; cases sg a <;> rfl

/-- Where a rung has just this magnitude, 'near' is exact. -/
theorem near_exact (s : Bool) {z : Int} {r : Nat} (hr : mag r = z.natAbs) (hi : r < INF) : near s z = wd (if z = 0 then s else decide (z < 0)) r := by
  unfold near
  rw [← hr, rd_mag, Nat.min_eq_left (by omega)]
theorem near_val (s : Bool) {z : Int} {r : Nat} (hr : mag r = z.natAbs) (hi : r < INF) : Fnt (near s z) ∧ val (near s z) = z ∧ sg (near s z) = (if z = 0 then s else decide (z < 0)) ∧ rg (near s z) = r := by
  have := INF_lt
  have hr' : r < 9223372036854775808 := by omega
  rw [near_exact s hr hi]
  refine ⟨?_, ?_, sg_wd _ hr', rg_wd _ hr'⟩
  · unfold Fnt; rw [rg_wd _ hr']; exact hi
  · rw [val_wd _ hr']
    by_cases h0 : z = 0
    · subst h0
      rw [hr]; simp
    · rw [if_neg h0]
      by_cases h1 : z < 0
      · rw [if_pos (by simpa using h1)]; omega
      · rw [if_neg (by simpa using h1)]; omega

theorem sg_near (s : Bool) (z : Int) : sg (near s z) = if z = 0 then s else decide (z < 0) := by
  have := INF_lt
  exact sg_wd _ (by omega)
theorem rg_near (s : Bool) (z : Int) : rg (near s z) = min (rd z.natAbs) INF := by
  have := INF_lt
  exact rg_wd _ (by omega)
theorem near_lt (s : Bool) (z : Int) : near s z < 2 ^ 64 := by
  have := INF_lt
  exact wd_lt _ (by omega)

attribute [irreducible] val
end Flt
