/- math.Mod of finite numbers: the remainder of the magnitudes, with the sign of the first number; and its special cases. Conditions: as each states. -/
import Derived.Test.YtnegjfdaijnadaaMdp
import Derived.Test.YtnegjfdaijnadaaEqs
import Derived.Lib.Hide
import Derived.LoopTactic
namespace Go.Proofs.Ytnegjfdaijnadaa
open Flt Ieee Go.RowKit

/-- What one round does. -/
theorem round_data (y r N f : Nat) (hy : Fnt y) (hz : rg y ≠ 0) (hr : r < INF) (h : mag (rg y) ≤ mag r) (n1 : 2 ^ 52 ≤ N) (n2 : N < 2 ^ 53) (n3 : mag (rg y) * 2 ^ 52 = N * 2 ^ f) :
    ∃ M e t u : Nat, e ≤ 2097 ∧ u < r ∧ u < INF ∧ mag u % mag (rg y) = mag r % mag (rg y) ∧
      (∀ w, Calls Try.prog 67 #[.float .f64 (wd false r)] w fun e' w' => e' = .returned (.tuple #[.float .f64 (frW false M), .int .i64 ((e : Int) - 1073)]) ∧ w = w') ∧
      double.sub (wd false r) (wd false t) = some (wd false u) ∧
      ((FloatKind.f64.format.order (frW false M) (frW false N) = some .lt ∧ (∀ w, Calls Try.prog 32 #[.float .f64 (absW y), .int .i64 ((e : Int) - 1073 - 1 - ((f : Int) - 1073))] w fun e' w' => e' = .returned (.float .f64 (wd false t)) ∧ w = w')) ∨
       ((FloatKind.f64.format.order (frW false M) (frW false N) = some .eq ∨ FloatKind.f64.format.order (frW false M) (frW false N) = some .gt) ∧ (∀ w, Calls Try.prog 32 #[.float .f64 (absW y), .int .i64 ((e : Int) - 1073 - ((f : Int) - 1073))] w fun e' w' => e' = .returned (.float .f64 (wd false t)) ∧ w = w'))) := by
  obtain ⟨M, e, j, t, u, hr0, m1, m2, m3, hj, he, ht, hti, hu, htr, hur, hmod⟩ := mod_step hz hr h n1 n2 n3
  have hl := INF_lt
  have hrl : r < 9223372036854775808 := Nat.lt_trans hr hl
  have hrg := rg_wd false hrl
  have hui : u < INF := Nat.lt_trans hur hr
  have hF : ∀ w, Calls Try.prog 67 #[.float .f64 (wd false r)] w fun e' w' => e' = .returned (.tuple #[.float .f64 (frW false M), .int .i64 ((e : Int) - 1073)]) ∧ w = w' := by
    intro w
    have := mFrexp_any (wd false r) M e w (by unfold Fnt; rw [hrg]; exact hr) (wd_lt _ hrl) (by rw [hrg]; exact hr0) m1 m2 (by rw [hrg]; exact m3)
    rw [sg_wd false hrl] at this
    exact this
  have hLd : ∀ (k : Int), k = (j : Int) → ∀ w, Calls Try.prog 32 #[.float .f64 (absW y), .int .i64 k] w fun e' w' => e' = .returned (.float .f64 (wd false t)) ∧ w = w' := by
    intro k hk w
    have := mLdexp_exact (absW y) t 0 j k w (fin_absW.2 hy) (absW_lt y) (by rw [rg_absW]; exact hz) hti (by rw [hk]; exact (Int.sub_zero _).symm) (by rw [rg_absW, ht, Nat.pow_zero, Nat.mul_one])
    rw [sg_absW] at this
    exact this
  refine ⟨M, e, t, u, he, hur, hui, hmod, hF, sub_words hr hti hu htr hui, ?_⟩
  by_cases c : M < N
  · rw [if_pos c] at hj
    exact .inl ⟨ord_fr_lt m1 m2 n1 n2 c, hLd _ (by omega)⟩
  · rw [if_neg c] at hj
    exact .inr ⟨ord_fr_ge m1 m2 n1 n2 c, hLd _ (by omega)⟩

def rungOf : Value → Nat
  | .float _ b => rg b
  | _ => 0
/-- What holds at the head of the loop. -/
def ModRel (s0 : Bool) (X Y : Nat) (t : Value) : Prop := ∃ r, t = .float .f64 (wd s0 r) ∧ r < INF ∧ (s0 = true → r = 0) ∧ mag r % mag Y = mag X % mag Y

theorem ord_word {r y : Nat} (s : Bool) (hr : r < INF) (hy : Fnt y) (hs : s = true → r = 0) (h : mag r < mag (rg y)) : FloatKind.f64.format.order (wd s r) (absW y) = some .lt := by
  have hl := INF_lt
  have hrl : r < 9223372036854775808 := Nat.lt_trans hr hl
  refine ord_lt (by unfold Fnt; rw [rg_wd _ hrl]; exact hr) (fin_absW.2 hy) ?_
  rw [val_wd _ hrl, val_absW]
  cases s
  · rw [if_neg Bool.false_ne_true]; exact Int.ofNat_lt.2 h
  · rw [if_pos rfl, hs rfl, mag_zero]
    rw [hs rfl, mag_zero] at h
    omega
theorem ord_word_ge {r y : Nat} (hr : r < INF) (hy : Fnt y) (h : ¬ mag r < mag (rg y)) : FloatKind.f64.format.order (wd false r) (absW y) = some .eq ∨ FloatKind.f64.format.order (wd false r) (absW y) = some .gt := by
  have hl := INF_lt
  have hrl : r < 9223372036854775808 := Nat.lt_trans hr hl
  have hf : Fnt (wd false r) := by unfold Fnt; rw [rg_wd _ hrl]; exact hr
  by_cases e : mag r = mag (rg y)
  · exact .inl (ord_eq hf (fin_absW.2 hy) (by rw [val_wd _ hrl, val_absW, if_neg Bool.false_ne_true, e]))
  · exact .inr (ord_gt hf (fin_absW.2 hy) (by rw [val_wd _ hrl, val_absW, if_neg Bool.false_ne_true]; exact Int.ofNat_lt.2 (by omega)))
set_option maxRecDepth 100000 in
set_option maxHeartbeats 2000000 in
theorem mmod_neg (x y : Nat) (w : World) (hx : Fnt x) (hy : Fnt y) (hx0 : x < 2 ^ 64) (hy0 : y < 2 ^ 64) (hz : rg y ≠ 0) (hn : FloatKind.f64.format.order x 0 = some .lt) :
    Calls Try.prog 50 #[.float .f64 x, .float .f64 y] w fun e w' => e = .returned (.float .f64 (modW x y)) ∧ w = w' := by
  have hnx := fin_nan hx
  have hny := fin_nan hy
  have hyo := ord_nonzero hny hz
  obtain ⟨N, f, n1, n2, n3, n4⟩ := norm_form hz
  have hf := n4 hy
  have hFy := fun u => mFrexp_any (absW y) N f u (fin_absW.2 hy) (absW_lt y) (by rw [rg_absW]; exact hz) n1 n2 (by rw [rg_absW]; exact n3)
  rw [sg_absW] at hFy
  have HN := Lib.hid n3
  clear n3 n4
  have hsx : sg x = true := by
    rcases Int.lt_trichotomy (val x) (val 0) with c | c | c
    · exact sg_of_neg (by rwa [val_zero] at c)
    · rw [ord_eq hx fin_zero c] at hn; cases hn
    · rw [ord_gt hx fin_zero c] at hn; cases hn
  have hneg : negW x = wd false (rg x) := by rw [negW_eq hx0, hsx]; rfl
  have HS := Lib.hid (show ModRel false (rg x) (rg y) (.float .f64 (negW x)) from ⟨rg x, by rw [hneg], hx, fun q => Bool.noConfusion q, rfl⟩)
  have Hsx := Lib.hid hsx
  clear hsx hneg
  generalize hfn : frW false N = fn at *
  have Hfn := Lib.hid hfn
  clear hfn
  rcases hyo with hyo | hyo
  all_goals
    go_enter Try.func50, Try.ntmps50
    go_wp2_with (first | (go_at_call 64; refine (mIsInf_fin _ _ hx hx0).mono ?_; rintro e w' ⟨rfl, rfl⟩) | (go_at_call 63; (with_reducible refine (mIsNaN_no _ _ (by assumption)).mono ?_); rintro e w' ⟨rfl, rfl⟩) | (go_at_call 66; refine (mAbs_any _ _ hy0).mono ?_; rintro e w' ⟨rfl, rfl⟩) | (go_at_call 67; (with_reducible refine (hFy _).mono ?_); rintro e w' ⟨rfl, rfl⟩))
    go_loop [7] (fun t => ModRel false (rg x) (rg y) t) (fun t => rungOf t)
    case atStart => exact HS.out
    case round =>
      obtain ⟨r, rfl, hr, hs, hmod⟩ := hrel
      by_cases c : mag r < mag (rg y)
      · have ho := ord_word false hr hy hs c
        have hres : negW (wd false r) = modW x y := by
          rw [modW_eq (r := r) (by rw [← hmod, Nat.mod_eq_of_lt c])]
          exact by rw [negW_eq (wd_lt _ (Nat.lt_trans hr INF_lt)), sg_wd _ (Nat.lt_trans hr INF_lt), rg_wd _ (Nat.lt_trans hr INF_lt), Hsx.out]; rfl
        have Hres := Lib.hid hres
        clear hmod c hres hs hr
        go_wp2_with fail
        go_ret
        rw [← Hres.out]
        exact ⟨rfl, rfl⟩
      · skip
        have ho := ord_word_ge hr hy c
        obtain ⟨M, e, t, u, he, hur, hui, hum, hFr, hsub, hbr⟩ := round_data y r N f hy hz hr (Nat.le_of_not_lt c) n1 n2 HN.out
        rw [Hfn.out] at hbr
        have hnew : ModRel false (rg x) (rg y) (.float .f64 (wd false u)) := ⟨u, rfl, hui, fun q => Bool.noConfusion q, by rw [hum, hmod]⟩
        have hmeas : rg (wd false u) < rg (wd false r) := by
          have hl := INF_lt
          rw [rg_wd _ (Nat.lt_trans hui hl), rg_wd _ (Nat.lt_trans hr hl)]; exact hur
        have Hnew := Lib.hid hnew
        have Hmeas := Lib.hid hmeas
        clear hnew hmeas hum hmod c hs hr hui hur HS
        generalize frW false M = fm at hFr hbr
        generalize wd false u = wu at hsub Hnew Hmeas
        generalize wd false r = wr' at *
        rcases hbr with ⟨hb, hL⟩ | ⟨hb | hb, hL⟩
        all_goals
          rcases ho with ho | ho
          all_goals
            go_wp2_with (first | (go_at_call 67; (with_reducible refine (hFr _).mono ?_); rintro e w' ⟨rfl, rfl⟩) | (go_at_call 32; (with_reducible refine (hL _).mono ?_); rintro e w' ⟨rfl, rfl⟩))
            go_round
            case rel => exact Hnew.out
            case measure => exact Hmeas.out
set_option maxRecDepth 100000 in
set_option maxHeartbeats 2000000 in
theorem mmod_pos (x y : Nat) (w : World) (hx : Fnt x) (hy : Fnt y) (hx0 : x < 2 ^ 64) (hy0 : y < 2 ^ 64) (hz : rg y ≠ 0) (hn : FloatKind.f64.format.order x 0 = some .eq ∨ FloatKind.f64.format.order x 0 = some .gt) (hsx : sg x = false) :
    Calls Try.prog 50 #[.float .f64 x, .float .f64 y] w fun e w' => e = .returned (.float .f64 (modW x y)) ∧ w = w' := by
  have hnx := fin_nan hx
  have hny := fin_nan hy
  have hyo := ord_nonzero hny hz
  obtain ⟨N, f, n1, n2, n3, n4⟩ := norm_form hz
  have hf := n4 hy
  have hFy := fun u => mFrexp_any (absW y) N f u (fin_absW.2 hy) (absW_lt y) (by rw [rg_absW]; exact hz) n1 n2 (by rw [rg_absW]; exact n3)
  rw [sg_absW] at hFy
  have HN := Lib.hid n3
  clear n3 n4
  have hself : x = wd false (rg x) := by rw [← hsx, wd_sg_rg hx0]
  have HS := Lib.hid (show ModRel false (rg x) (rg y) (.float .f64 x) from ⟨rg x, by rw [← hself], hx, fun q => Bool.noConfusion q, rfl⟩)
  have Hsx := Lib.hid hsx
  clear hsx hself
  generalize hfn : frW false N = fn at *
  have Hfn := Lib.hid hfn
  clear hfn
  rcases hyo with hyo | hyo <;> rcases hn with hn | hn
  all_goals
    go_enter Try.func50, Try.ntmps50
    go_wp2_with (first | (go_at_call 64; refine (mIsInf_fin _ _ hx hx0).mono ?_; rintro e w' ⟨rfl, rfl⟩) | (go_at_call 63; (with_reducible refine (mIsNaN_no _ _ (by assumption)).mono ?_); rintro e w' ⟨rfl, rfl⟩) | (go_at_call 66; refine (mAbs_any _ _ hy0).mono ?_; rintro e w' ⟨rfl, rfl⟩) | (go_at_call 67; (with_reducible refine (hFy _).mono ?_); rintro e w' ⟨rfl, rfl⟩))
    go_loop [7] (fun t => ModRel false (rg x) (rg y) t) (fun t => rungOf t)
    case atStart => exact HS.out
    case round =>
      obtain ⟨r, rfl, hr, hs, hmod⟩ := hrel
      by_cases c : mag r < mag (rg y)
      · have ho := ord_word false hr hy hs c
        have hres : wd false r = modW x y := by
          rw [modW_eq (r := r) (by rw [← hmod, Nat.mod_eq_of_lt c]), Hsx.out]
        have Hres := Lib.hid hres
        clear hmod c hres hs hr
        go_wp2_with fail
        go_ret
        rw [← Hres.out]
        exact ⟨rfl, rfl⟩
      · skip
        have ho := ord_word_ge hr hy c
        obtain ⟨M, e, t, u, he, hur, hui, hum, hFr, hsub, hbr⟩ := round_data y r N f hy hz hr (Nat.le_of_not_lt c) n1 n2 HN.out
        rw [Hfn.out] at hbr
        have hnew : ModRel false (rg x) (rg y) (.float .f64 (wd false u)) := ⟨u, rfl, hui, fun q => Bool.noConfusion q, by rw [hum, hmod]⟩
        have hmeas : rg (wd false u) < rg (wd false r) := by
          have hl := INF_lt
          rw [rg_wd _ (Nat.lt_trans hui hl), rg_wd _ (Nat.lt_trans hr hl)]; exact hur
        have Hnew := Lib.hid hnew
        have Hmeas := Lib.hid hmeas
        clear hnew hmeas hum hmod c hs hr hui hur HS
        generalize frW false M = fm at hFr hbr
        generalize wd false u = wu at hsub Hnew Hmeas
        generalize wd false r = wr' at *
        rcases hbr with ⟨hb, hL⟩ | ⟨hb | hb, hL⟩
        all_goals
          rcases ho with ho | ho
          all_goals
            go_wp2_with (first | (go_at_call 67; (with_reducible refine (hFr _).mono ?_); rintro e w' ⟨rfl, rfl⟩) | (go_at_call 32; (with_reducible refine (hL _).mono ?_); rintro e w' ⟨rfl, rfl⟩))
            go_round
            case rel => exact Hnew.out
            case measure => exact Hmeas.out
set_option maxRecDepth 100000 in
set_option maxHeartbeats 2000000 in
theorem mmod_zero (x y : Nat) (w : World) (hx : Fnt x) (hy : Fnt y) (hx0 : x < 2 ^ 64) (hy0 : y < 2 ^ 64) (hz : rg y ≠ 0) (hxz : rg x = 0) :
    Calls Try.prog 50 #[.float .f64 x, .float .f64 y] w fun e w' => e = .returned (.float .f64 (modW x y)) ∧ w = w' := by
  have hnx := fin_nan hx
  have hny := fin_nan hy
  have hyo := ord_nonzero hny hz
  have hn := ord_zero hxz
  obtain ⟨N, f, n1, n2, n3, n4⟩ := norm_form hz
  have hFy := fun u => mFrexp_any (absW y) N f u (fin_absW.2 hy) (absW_lt y) (by rw [rg_absW]; exact hz) n1 n2 (by rw [rg_absW]; exact n3)
  rw [sg_absW] at hFy
  have hres : x = modW x y := by
    rw [modW_eq (r := rg x) (by rw [hxz, mag_zero, Nat.zero_mod]), wd_sg_rg hx0]
  have Hres := Lib.hid hres
  have ho : FloatKind.f64.format.order x (absW y) = some .lt := by
    refine ord_lt hx (fin_absW.2 hy) ?_
    rw [val_eq_zero.2 hxz, val_absW]
    have h1 : mag (rg y) ≠ 0 := fun q => hz (mag_eq_zero.1 q)
    exact Int.ofNat_lt.2 (Nat.pos_of_ne_zero h1)
  clear hres n1 n2 n3 n4 hxz hz
  generalize frW false N = fn at *
  rcases hyo with hyo | hyo
  all_goals
    go_enter Try.func50, Try.ntmps50
    go_wp2_with (first | (go_at_call 64; refine (mIsInf_fin _ _ hx hx0).mono ?_; rintro e w' ⟨rfl, rfl⟩) | (go_at_call 63; (with_reducible refine (mIsNaN_no _ _ (by assumption)).mono ?_); rintro e w' ⟨rfl, rfl⟩) | (go_at_call 66; refine (mAbs_any _ _ hy0).mono ?_; rintro e w' ⟨rfl, rfl⟩) | (go_at_call 67; (with_reducible refine (hFy _).mono ?_); rintro e w' ⟨rfl, rfl⟩))
    go_loop [7] (fun t => t = .float .f64 x) (fun t => rungOf t)
    case atStart => rfl
    case round =>
      obtain rfl := hrel
      go_wp2_with fail
      go_ret
      rw [← Hres.out]
      exact ⟨rfl, rfl⟩
theorem mmod_fin (x y : Nat) (w : World) (hx : Fnt x) (hy : Fnt y) (hx0 : x < 2 ^ 64) (hy0 : y < 2 ^ 64) (hz : rg y ≠ 0) :
    Calls Try.prog 50 #[.float .f64 x, .float .f64 y] w fun e w' => e = .returned (.float .f64 (modW x y)) ∧ w = w' := by
  rcases Int.lt_trichotomy (val x) (val 0) with c | c | c
  · exact mmod_neg x y w hx hy hx0 hy0 hz (ord_lt hx fin_zero c)
  · exact mmod_zero x y w hx hy hx0 hy0 hz (val_eq_zero.1 (by rwa [val_zero] at c))
  · exact mmod_pos x y w hx hy hx0 hy0 hz (.inr (ord_gt hx fin_zero c)) (sg_of_pos (by rwa [val_zero] at c))
end Go.Proofs.Ytnegjfdaijnadaa
