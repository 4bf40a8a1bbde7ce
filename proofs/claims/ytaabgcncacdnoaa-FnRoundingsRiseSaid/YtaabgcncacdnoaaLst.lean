/- The laws' list of all five roundings of a number: where it lies and what it holds. Condition: a word of 64 bits. -/
import Derived.Test.YtaabgcncacdnoaaRnb
import Derived.Test.YtaabgcncacdnoaaEqs
import Derived.Below
import Derived.BigQuiet
import Derived.Deep.QuietTactic
import Derived.Lib.Hide
import Derived.LoopTactic
namespace Go.Proofs.Ytaabgcncacdnoaa
open Flt Ieee Go.RowKit

/-- Nothing that was there has turned; the world has at most new blocks and draws. -/
def Kept (w w' : World) : Prop := Grown w w' ∧ Below w.heap.size w w'
theorem Kept.refl (w : World) : Kept w w := ⟨Grown.refl _, Below.refl _ _⟩
theorem Kept.trans {a b c : World} (h : Kept a b) (k : Kept b c) : Kept a c := ⟨grown_trans h.1 k.1, h.2.trans (k.2.mono h.2.size)⟩
theorem Kept.drewN {a b : World} (h : Kept a b) (n : Nat) : Kept a (b.drewN n) := ⟨h.1, below_drewN h.2 n⟩
theorem Kept.alloc {a b : World} (h : Kept a b) (c : Array Value) (t : TypeId) : Kept a (b.alloc (.cells c t)) := ⟨h.1.alloc c t, h.2.alloc h.2.size _⟩

/-- At block a lie five words. -/
def Lists (w : World) (a : Nat) (L : Nat → Nat) : Prop := a < w.heap.size ∧ ∀ k, k < 5 → w.cell? ⟨a, k, none⟩ = some (.float .f64 (L k))
theorem Lists.kept {w w' : World} {a : Nat} {L : Nat → Nat} (h : Lists w a L) (k : Kept w w') : Lists w' a L :=
  ⟨Nat.lt_of_lt_of_le h.1 k.2.size, fun i hi => (k.2.cell (p := ⟨a, i, none⟩) h.1).trans (h.2 i hi)⟩

/-- The k-th rounding of a finite word. -/
def roundW (x : Nat) : Nat → Nat
  | 0 => intW .down x
  | 1 => intW .up x
  | 2 => intW .zero x
  | 3 => awayW x
  | _ => intW .even x
/-- What the k-th rounding of a word is. -/
def Rnd (x k r : Nat) : Prop := r < 2 ^ 64 ∧ (Fnt x → r = roundW x k) ∧ (Inf x → r = x) ∧ (NaN x → NaN r)

def five (a b c d e : Nat) : Nat → Nat
  | 0 => a
  | 1 => b
  | 2 => c
  | 3 => d
  | _ => e
theorem lists_new (w : World) (a b c d e : Nat) (t : TypeId) : Lists (w.alloc (.cells #[.float .f64 a, .float .f64 b, .float .f64 c, .float .f64 d, .float .f64 e] t)) w.heap.size (five a b c d e) := by
  refine ⟨by simp, fun k hk => ?_⟩
  have hk' : k = 0 ∨ k = 1 ∨ k = 2 ∨ k = 3 ∨ k = 4 := by omega
  rcases hk' with rfl | rfl | rfl | rfl | rfl <;> simp [five]

/-- The list of the roundings of x is returned. -/
def RndList (x : Nat) (w : World) (e : Ending) (w' : World) : Prop := ∃ a L, e = .returned (.slice (some ⟨a, 0, none⟩) 5 5) ∧ Lists w' a L ∧ (∀ k, k < 5 → Rnd x k (L k)) ∧ Kept w w'

theorem rounded_any (x : Nat) (w : World) (h0 : x < 2 ^ 64) : Calls Try.prog 24 #[.float .f64 x] w (RndList x w) := by
  rcases kinds x with h | h | h
  · go_enter Try.func24, Try.ntmps24
    go_wp2_with (first | (go_at_call 20; refine (Trunc_fin _ _ h).mono ?_; rintro e w' ⟨rfl, rfl⟩) | (go_at_call 21; refine (Round_fin _ _ h h0).mono ?_; rintro e w' ⟨rfl, rfl⟩) | (go_at_call 22; refine (RoundToEven_fin _ _ h).mono ?_; rintro e w' ⟨rfl, rfl⟩) | (go_at_call 18; refine (Floor_fin _ _ h).mono ?_; rintro e w' ⟨rfl, rfl⟩) | (go_at_call 15; refine (Ceil_fin _ _ h).mono ?_; rintro e w' ⟨rfl, rfl⟩))
    go_ret
    refine ⟨_, _, rfl, lists_new _ _ _ _ _ _ _, fun k hk => ?_, (Kept.refl _).alloc _ _⟩
    have hk' : k = 0 ∨ k = 1 ∨ k = 2 ∨ k = 3 ∨ k = 4 := by omega
    refine ⟨?_, fun _ => ?_, fun i => absurd h (inf_fin i), fun i => absurd h (nan_fin i)⟩
    · rcases hk' with rfl | rfl | rfl | rfl | rfl
      · exact (intW_int .down h h0).1
      · exact (intW_int .up h h0).1
      · exact (intW_int .zero h h0).1
      · exact (awayW_int h h0).1
      · exact (intW_int .even h h0).1
    · rcases hk' with rfl | rfl | rfl | rfl | rfl <;> rfl
  · go_enter Try.func24, Try.ntmps24
    go_wp2_with (first | (go_at_call 20; refine (Trunc_inf _ _ h h0).mono ?_; rintro e w' ⟨rfl, rfl⟩) | (go_at_call 21; refine (Round_not _ _ (inf_fin h) h0).mono ?_; rintro e w' ⟨rfl, rfl⟩) | (go_at_call 22; refine (RoundToEven_inf _ _ h h0).mono ?_; rintro e w' ⟨rfl, rfl⟩) | (go_at_call 18; refine (Floor_inf _ _ h h0).mono ?_; rintro e w' ⟨rfl, rfl⟩) | (go_at_call 15; refine (Ceil_inf _ _ h h0).mono ?_; rintro e w' ⟨rfl, rfl⟩))
    go_ret
    refine ⟨_, _, rfl, lists_new _ _ _ _ _ _ _, fun k hk => ?_, (Kept.refl _).alloc _ _⟩
    have hk' : k = 0 ∨ k = 1 ∨ k = 2 ∨ k = 3 ∨ k = 4 := by omega
    have e : five x x x x x k = x := by rcases hk' with rfl | rfl | rfl | rfl | rfl <;> rfl
    rw [e]
    exact ⟨h0, fun i => absurd i (inf_fin h), fun _ => rfl, fun i => absurd i (inf_nan h)⟩
  · go_enter Try.func24, Try.ntmps24
    go_wp2_with (first | (go_at_call 20; refine (Trunc_nan _ _ h h0).mono ?_; rintro e w' ⟨rt, nt, ht1, ht2, rfl, rfl⟩) | (go_at_call 21; refine (Round_not _ _ (nan_fin h) h0).mono ?_; rintro e w' ⟨rfl, rfl⟩) | (go_at_call 22; refine (RoundToEven_nan _ _ h h0).mono ?_; rintro e w' ⟨re, ne, he1, he2, rfl, rfl⟩) | (go_at_call 18; refine (Floor_nan _ _ h h0).mono ?_; rintro e w' ⟨rf, nf, hf1, hf2, rfl, rfl⟩) | (go_at_call 15; refine (Ceil_nan _ _ h h0).mono ?_; rintro e w' ⟨rc, nc, hc1, hc2, rfl, rfl⟩))
    go_ret
    refine ⟨_, _, rfl, lists_new _ _ _ _ _ _ _, fun k hk => ?_, ?_⟩
    · have hk' : k = 0 ∨ k = 1 ∨ k = 2 ∨ k = 3 ∨ k = 4 := by omega
      rcases hk' with rfl | rfl | rfl | rfl | rfl
      · exact ⟨hf2, fun i => absurd i (nan_fin h), fun i => absurd h (inf_nan i), fun _ => hf1⟩
      · exact ⟨hc2, fun i => absurd i (nan_fin h), fun i => absurd h (inf_nan i), fun _ => hc1⟩
      · exact ⟨ht2, fun i => absurd i (nan_fin h), fun i => absurd h (inf_nan i), fun _ => ht1⟩
      · exact ⟨h0, fun i => absurd i (nan_fin h), fun i => absurd h (inf_nan i), fun _ => h⟩
      · exact ⟨he2, fun i => absurd i (nan_fin h), fun i => absurd h (inf_nan i), fun _ => he1⟩
    · refine Kept.alloc ?_ _ _
      repeat (first | exact Kept.refl _ | apply Kept.drewN)

/-- A call that leaves the world alone, inside a region that draws its order. -/
theorem quiet_eq {P : Program} {f : FuncId} {args : Array Value} {w : World} {n : Nat} {v : Value}
    (h : Calls P f args (w.drewN n) fun e w' => e = .returned v ∧ w.drewN n = w') : Calls P f args (w.drewN n) fun e w'' => e = .returned v ∧ ∃ m, w'' = w.drewN m :=
  h.mono fun _ _ ⟨he, hm⟩ => ⟨he, n, hm.symm⟩
end Go.Proofs.Ytaabgcncacdnoaa
