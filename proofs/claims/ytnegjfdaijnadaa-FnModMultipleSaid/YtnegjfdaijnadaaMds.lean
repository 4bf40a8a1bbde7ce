/- math.Mod in its special cases, and through impl. Conditions: as each states. -/
import Derived.Test.YtnegjfdaijnadaaMod
namespace Go.Proofs.Ytnegjfdaijnadaa
open Flt Ieee Go.RowKit

set_option maxRecDepth 100000 in
theorem mFrexp_inf (b : Nat) (w : World) (h : Inf b) (h64 : b < 2 ^ 64) :
    Calls Try.prog 67 #[.float .f64 b] w fun e' w' => e' = .returned (.tuple #[.float .f64 b, .int .i64 0]) ∧ w = w' := by
  have hF : ∀ w, Calls Try.prog 74 #[.float .f64 b] w fun e' w' => e' = .returned (.tuple #[.float .f64 b, .int .i64 0]) ∧ w = w' := by
    intro w
    have hz : rg b ≠ 0 := by have h' : rg b = INF := h; unfold INF at h'; omega
    have ho := ord_nonzero (inf_nan h) hz
    clear hz
    rcases ho with ho | ho
    all_goals
      go_enter Try.func74, Try.ntmps74
      go_wp2_with (go_at_call 64; refine (mIsInf_inf _ _ h h64).mono ?_; rintro e w' ⟨rfl, rfl⟩)
      go_ret2
      exact ⟨rfl, rfl⟩
  go_enter Try.func67, Try.ntmps67
  go_wp2_with (go_at_call 74; refine (hF _).mono ?_; rintro e w' ⟨rfl, rfl⟩)
  go_ret2
  exact ⟨rfl, rfl⟩
theorem ord_fin_posinf {x y : Nat} (hx : Fnt x) (hy : Inf y) : FloatKind.f64.format.order x (absW y) = some .lt := by
  rw [ord_fin_inf hx (inf_absW hy), sg_absW, if_neg Bool.false_ne_true]
set_option maxRecDepth 100000 in
set_option maxHeartbeats 2000000 in
theorem mmod_inf (x y : Nat) (w : World) (hx : Fnt x) (hy : Inf y) (hx0 : x < 2 ^ 64) (hy0 : y < 2 ^ 64) :
    Calls Try.prog 50 #[.float .f64 x, .float .f64 y] w fun e w' => e = .returned (.float .f64 x) ∧ w = w' := by
  have hnx := fin_nan hx
  have hny := inf_nan hy
  have hyz : rg y ≠ 0 := by have h' : rg y = INF := hy; unfold INF at h'; omega
  have hyo := ord_nonzero hny hyz
  have hFy := fun u => mFrexp_inf (absW y) u (inf_absW hy) (absW_lt y)
  have ho1 := ord_fin_posinf hx hy
  have ho2 := ord_fin_posinf ((fin_negW hx0).2 hx) hy
  have hnn := negW_negW x
  have hox : FloatKind.f64.format.order x 0 = some .lt ∨ FloatKind.f64.format.order x 0 = some .eq ∨ FloatKind.f64.format.order x 0 = some .gt := by
    rcases Int.lt_trichotomy (val x) (val 0) with c | c | c
    · exact .inl (ord_lt hx fin_zero c)
    · exact .inr (.inl (ord_eq hx fin_zero c))
    · exact .inr (.inr (ord_gt hx fin_zero c))
  clear hyz
  rcases hyo with hyo | hyo <;> rcases hox with hox | hox | hox
  all_goals
    go_enter Try.func50, Try.ntmps50
    go_wp2_with (first | (go_at_call 64; refine (mIsInf_fin _ _ hx hx0).mono ?_; rintro e w' ⟨rfl, rfl⟩) | (go_at_call 63; (with_reducible refine (mIsNaN_no _ _ (by assumption)).mono ?_); rintro e w' ⟨rfl, rfl⟩) | (go_at_call 66; refine (mAbs_any _ _ hy0).mono ?_; rintro e w' ⟨rfl, rfl⟩) | (go_at_call 67; (with_reducible refine (hFy _).mono ?_); rintro e w' ⟨rfl, rfl⟩))
    go_loop [7] (fun t => t = .float .f64 (if FloatKind.f64.format.order x 0 = some .lt then negW x else x)) (fun t => rungOf t)
    case atStart => simp [hox]
    case round =>
      obtain rfl := hrel
      simp only [hox]
      go_wp2_with fail
      go_ret
      exact ⟨rfl, rfl⟩
set_option maxRecDepth 100000 in
theorem mmod_none (x y : Nat) (w : World) (hx0 : x < 2 ^ 64) (h : rg y = 0 ∨ ¬ Fnt x ∨ NaN y) :
    Calls Try.prog 50 #[.float .f64 x, .float .f64 y] w fun e w' => e = .returned (.float .f64 9221120237041090561) ∧ w = w' := by
  by_cases hz : rg y = 0
  · have ho := ord_zero hz
    clear h hz
    go_enter Try.func50, Try.ntmps50
    go_wp2_with (go_at_call 65; refine (mNaN_any _).mono ?_; rintro e w' ⟨rfl, rfl⟩)
    go_ret
    exact ⟨rfl, rfl⟩
  · have hyo : FloatKind.f64.format.order y 0 = some .lt ∨ FloatKind.f64.format.order y 0 = some .gt ∨ FloatKind.f64.format.order y 0 = none := by
      by_cases hy : NaN y
      · exact .inr (.inr (ord_nan_left 0 hy))
      · rcases ord_nonzero hy hz with q | q
        · exact .inl q
        · exact .inr (.inl q)
    rcases kinds x with k | k | k
    · have hny : NaN y := by
        rcases h with h | h | h
        · exact absurd h hz
        · exact absurd k h
        · exact h
      have hnx := fin_nan k
      clear h hz
      rcases hyo with hyo | hyo | hyo
      all_goals
        go_enter Try.func50, Try.ntmps50
        go_wp2_with (first | (go_at_call 64; refine (mIsInf_fin _ _ k hx0).mono ?_; rintro e w' ⟨rfl, rfl⟩) | (go_at_call 63; (with_reducible refine (mIsNaN_no _ _ hnx).mono ?_); rintro e w' ⟨rfl, rfl⟩) | (go_at_call 63; (with_reducible refine (mIsNaN_yes _ _ hny).mono ?_); rintro e w' ⟨rfl, rfl⟩) | (go_at_call 65; refine (mNaN_any _).mono ?_; rintro e w' ⟨rfl, rfl⟩))
        go_ret
        exact ⟨rfl, rfl⟩
    · clear h hz
      rcases hyo with hyo | hyo | hyo
      all_goals
        go_enter Try.func50, Try.ntmps50
        go_wp2_with (first | (go_at_call 64; refine (mIsInf_inf _ _ k hx0).mono ?_; rintro e w' ⟨rfl, rfl⟩) | (go_at_call 65; refine (mNaN_any _).mono ?_; rintro e w' ⟨rfl, rfl⟩))
        go_ret
        exact ⟨rfl, rfl⟩
    · clear h hz
      rcases hyo with hyo | hyo | hyo
      all_goals
        go_enter Try.func50, Try.ntmps50
        go_wp2_with (first | (go_at_call 64; refine (mIsInf_nan _ _ k hx0).mono ?_; rintro e w' ⟨rfl, rfl⟩) | (go_at_call 63; (with_reducible refine (mIsNaN_yes _ _ k).mono ?_); rintro e w' ⟨rfl, rfl⟩) | (go_at_call 65; refine (mNaN_any _).mono ?_; rintro e w' ⟨rfl, rfl⟩))
        go_ret
        exact ⟨rfl, rfl⟩

theorem mMod_of (x y r : Nat) (hm : ∀ w, Calls Try.prog 50 #[.float .f64 x, .float .f64 y] w fun e w' => e = .returned (.float .f64 r) ∧ w = w') (w : World) :
    Calls Try.prog 30 #[.float .f64 x, .float .f64 y] w fun e w' => e = .returned (.float .f64 r) ∧ w = w' := by
  go_enter Try.func30, Try.ntmps30
  go_wp2_with (go_at_call 50; refine (hm _).mono ?_; rintro e w' ⟨rfl, rfl⟩)
  go_ret
  exact ⟨rfl, rfl⟩
theorem mMod_fin (x y : Nat) (w : World) (hx : Fnt x) (hy : Fnt y) (hx0 : x < 2 ^ 64) (hy0 : y < 2 ^ 64) (hz : rg y ≠ 0) :
    Calls Try.prog 30 #[.float .f64 x, .float .f64 y] w fun e w' => e = .returned (.float .f64 (modW x y)) ∧ w = w' := mMod_of x y _ (fun u => mmod_fin x y u hx hy hx0 hy0 hz) w
theorem Mod_of (x y r : Nat) (hm : ∀ w, Calls Try.prog 30 #[.float .f64 x, .float .f64 y] w fun e w' => e = .returned (.float .f64 r) ∧ w = w') (w : World) :
    Calls Try.prog 18 #[.float .f64 x, .float .f64 y] w fun e w' => e = .returned (.float .f64 r) ∧ w = w' := by
  go_enter Try.func18, Try.ntmps18
  go_wp2_with (go_at_call 30; refine (hm _).mono ?_; rintro e w' ⟨rfl, rfl⟩)
  go_ret
  exact ⟨rfl, rfl⟩
theorem Mod_fin (x y : Nat) (w : World) (hx : Fnt x) (hy : Fnt y) (hx0 : x < 2 ^ 64) (hy0 : y < 2 ^ 64) (hz : rg y ≠ 0) :
    Calls Try.prog 18 #[.float .f64 x, .float .f64 y] w fun e w' => e = .returned (.float .f64 (modW x y)) ∧ w = w' := Mod_of x y _ (fun u => mMod_fin x y u hx hy hx0 hy0 hz) w
theorem Mod_inf (x y : Nat) (w : World) (hx : Fnt x) (hy : Inf y) (hx0 : x < 2 ^ 64) (hy0 : y < 2 ^ 64) :
    Calls Try.prog 18 #[.float .f64 x, .float .f64 y] w fun e w' => e = .returned (.float .f64 x) ∧ w = w' := Mod_of x y _ (fun u => mMod_of x y _ (fun u => mmod_inf x y u hx hy hx0 hy0) u) w
theorem Mod_none (x y : Nat) (w : World) (hx0 : x < 2 ^ 64) (h : rg y = 0 ∨ ¬ Fnt x ∨ NaN y) :
    Calls Try.prog 18 #[.float .f64 x, .float .f64 y] w fun e w' => e = .returned (.float .f64 9221120237041090561) ∧ w = w' := Mod_of x y _ (fun u => mMod_of x y _ (fun u => mmod_none x y u hx0 h) u) w
end Go.Proofs.Ytnegjfdaijnadaa
