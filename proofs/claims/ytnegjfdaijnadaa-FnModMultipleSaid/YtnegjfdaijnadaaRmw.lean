/- math.Remainder of finite numbers: the nearest remainder of the magnitudes, halves to the even quotient, with the sign of the first number; and its special cases; and through impl. Conditions: as each states. -/
import Derived.Test.YtnegjfdaijnadaaRmp
namespace Go.Proofs.Ytnegjfdaijnadaa
open Flt Ieee Go.RowKit

set_option maxRecDepth 100000 in
set_option maxHeartbeats 4000000 in
theorem mrem_walk (x y ax ay r yy z c d h r1 : Nat) (sx sy b tb b1 b2 : Bool) (w : World) (hx : Fnt x) (hy : Fnt y) (hx0 : x < 2 ^ 64) (hy0 : y < 2 ^ 64)
    (hyz : (FloatKind.f64.format.order y 0 == some .eq) = false) (hsx : (FloatKind.f64.format.order x 0 == some .lt) = sx) (hsy : (FloatKind.f64.format.order y 0 == some .lt) = sy)
    (hax : ax = if sx then negW x else x) (hay : ay = if sy then negW y else y)
    (hne : (FloatKind.f64.format.order ax ay == some .eq) = false)
    (hb : (FloatKind.f64.format.order ay 9214364837600034815 == some .lt || FloatKind.f64.format.order ay 9214364837600034815 == some .eq) = b)
    (hb1 : b = true → double.add ay ay = some yy ∧ ∀ w, Calls Try.prog 30 #[.float .f64 ax, .float .f64 yy] w fun e w' => e = .returned (.float .f64 r) ∧ w = w') (hb2 : b = false → r = ax)
    (htb : (FloatKind.f64.format.order ay 9007199254740992 == some .lt) = tb)
    (ht1 : tb = true → double.add r r = some c ∧ (FloatKind.f64.format.order c ay == some .gt) = b1 ∧ (b1 = true → double.add r1 r1 = some d ∧ (FloatKind.f64.format.order d ay == some .gt || FloatKind.f64.format.order d ay == some .eq) = b2))
    (ht2 : tb = false → double.mul 4602678819172646912 ay = some h ∧ (FloatKind.f64.format.order r h == some .gt) = b1 ∧ (b1 = true → (FloatKind.f64.format.order r1 h == some .gt || FloatKind.f64.format.order r1 h == some .eq) = b2))
    (hz1 : b1 = false → z = r) (hz2 : b1 = true → double.sub r ay = some r1) (hz3 : b1 = true → b2 = false → z = r1) (hz4 : b1 = true → b2 = true → double.sub r1 ay = some z) :
    Calls Try.prog 48 #[.float .f64 x, .float .f64 y] w fun e w' => e = .returned (.float .f64 (if sx then negW z else z)) ∧ w = w' := by
  have hnx := fin_nan hx
  have hny := fin_nan hy
  have hIx := fun u => mIsInf_fin x u hx hx0
  have hIy := fun u => mIsInf_fin y u hy hy0
  have hNx := fun u => mIsNaN_no x u hnx
  have hNy := fun u => mIsNaN_no y u hny
  have hayg : (ay = negW y ∧ sy = true) ∨ (ay = y ∧ sy = false) := by
    cases sy
    · exact .inr ⟨hay, rfl⟩
    · exact .inl ⟨hay, rfl⟩
  clear hay hnx hny hx hy hx0 hy0
  cases b
  all_goals
    cases tb
    all_goals
      cases b1
      all_goals
        cases b2
        all_goals
          cases sx
          all_goals
            simp only [forall_const, Bool.false_eq_true, Bool.true_eq_false, if_true, if_false, false_implies] at hb1 hb2 ht1 ht2 hz1 hz2 hz3 hz4 hax ⊢
            try obtain ⟨p1, p2⟩ := hb1
            try obtain ⟨q1, q2⟩ := ht1
            try obtain ⟨q1, q2⟩ := ht2
            try obtain ⟨q3, q4⟩ := q2
            try obtain ⟨q5, q6⟩ := q4
            subst hax
            try subst hb2
            try subst hz1
            try subst hz3
            rcases hayg with ⟨rfl, rfl⟩ | ⟨rfl, rfl⟩
            all_goals
              go_enter Try.func48, Try.ntmps48
              go_wp2_with (first | (go_at_call 64; (with_reducible refine (hIx _).mono ?_); rintro e w' ⟨rfl, rfl⟩) | (go_at_call 64; (with_reducible refine (hIy _).mono ?_); rintro e w' ⟨rfl, rfl⟩) | (go_at_call 63; (with_reducible refine (hNx _).mono ?_); rintro e w' ⟨rfl, rfl⟩) | (go_at_call 63; (with_reducible refine (hNy _).mono ?_); rintro e w' ⟨rfl, rfl⟩) | (go_at_call 30; (with_reducible refine (p2 _).mono ?_); rintro e w' ⟨rfl, rfl⟩))
              go_ret
              exact ⟨rfl, rfl⟩
set_option maxRecDepth 100000 in
set_option maxHeartbeats 4000000 in
theorem mrem_same (x y ax ay : Nat) (sx sy : Bool) (w : World) (hx : Fnt x) (hy : Fnt y) (hx0 : x < 2 ^ 64) (hy0 : y < 2 ^ 64)
    (hyz : (FloatKind.f64.format.order y 0 == some .eq) = false) (hsx : (FloatKind.f64.format.order x 0 == some .lt) = sx) (hsy : (FloatKind.f64.format.order y 0 == some .lt) = sy)
    (hax : ax = if sx then negW x else x) (hay : ay = if sy then negW y else y)
    (hne : (FloatKind.f64.format.order ax ay == some .eq) = true) :
    Calls Try.prog 48 #[.float .f64 x, .float .f64 y] w fun e w' => e = .returned (.float .f64 (if sx then negW 0 else 0)) ∧ w = w' := by
  have hnx := fin_nan hx
  have hny := fin_nan hy
  have hIx := fun u => mIsInf_fin x u hx hx0
  have hIy := fun u => mIsInf_fin y u hy hy0
  have hNx := fun u => mIsNaN_no x u hnx
  have hNy := fun u => mIsNaN_no y u hny
  clear hnx hny hx hy hx0 hy0
  cases sx
  all_goals
    cases sy
    all_goals
      simp only [Bool.false_eq_true, if_true, if_false] at hax hay ⊢
      subst hax
      subst hay
      go_enter Try.func48, Try.ntmps48
      go_wp2_with (first | (go_at_call 64; (with_reducible refine (hIx _).mono ?_); rintro e w' ⟨rfl, rfl⟩) | (go_at_call 64; (with_reducible refine (hIy _).mono ?_); rintro e w' ⟨rfl, rfl⟩) | (go_at_call 63; (with_reducible refine (hNx _).mono ?_); rintro e w' ⟨rfl, rfl⟩) | (go_at_call 63; (with_reducible refine (hNy _).mono ?_); rintro e w' ⟨rfl, rfl⟩))
      go_ret
      exact ⟨rfl, rfl⟩
theorem sg_of_val {x : Nat} (hz : rg x ≠ 0) : sg x = decide (val x < 0) := by
  have h := @val_neg_iff x
  cases hs : sg x
  · exact (decide_eq_false (fun q => by have := (h.1 q).1; rw [hs] at this; exact Bool.false_ne_true this)).symm
  · exact (decide_eq_true (h.2 ⟨hs, hz⟩)).symm
theorem remW_same {x y : Nat} (hz : rg y ≠ 0) (h : mag (rg x) = mag (rg y)) : remW x y = if decide (val x < 0) then negW 0 else 0 := by
  have hp : 0 < mag (rg y) := Nat.pos_of_ne_zero (fun q => hz (mag_eq_zero.1 q))
  have e0 : remZ (mag (rg x)) (mag (rg y)) = 0 := by
    unfold remZ
    rw [h, Nat.mod_self, if_pos (.inl (by omega))]; rfl
  have hxz : rg x ≠ 0 := by rw [mag_inj h]; exact hz
  rw [← sg_of_val hxz]
  unfold remW
  rw [e0]
  cases sg x
  · exact (word_near (g := 0) (by omega) fin_zero val_zero (fun _ => rfl)).symm
  · exact (word_near (g := negW 0) (negW_lt (by omega)) ((fin_negW (by omega)).2 fin_zero) (by rw [val_negW (by omega), val_zero]; rfl) (fun _ => by rw [sg_negW (by omega)]; rfl)).symm
theorem mremainder_fin (x y : Nat) (w : World) (hx : Fnt x) (hy : Fnt y) (hx0 : x < 2 ^ 64) (hy0 : y < 2 ^ 64) (hz : rg y ≠ 0) :
    Calls Try.prog 48 #[.float .f64 x, .float .f64 y] w fun e w' => e = .returned (.float .f64 (remW x y)) ∧ w = w' := by
  have hp : 0 < mag (rg y) := Nat.pos_of_ne_zero (fun q => hz (mag_eq_zero.1 q))
  have hvy : val y ≠ 0 := fun e => hz (val_eq_zero.1 e)
  have hyz := b_eq hy fin_zero
  rw [val_zero, decide_eq_false hvy] at hyz
  have hsx := b_lt hx fin_zero
  rw [val_zero] at hsx
  have hsy := b_lt hy fin_zero
  rw [val_zero] at hsy
  have hay : absW y = if decide (val y < 0) then negW y else y := by
    rw [← sg_of_val hz]
    cases hs : sg y
    · rw [absW_of_pos hy0 hs]; rfl
    · rw [absW_of_neg hy0 hs]; rfl
  obtain ⟨ax, hax, f1, f2, f3, f4, f5⟩ : ∃ ax, ax = (if decide (val x < 0) then negW x else x) ∧ Fnt ax ∧ ax < 2 ^ 64 ∧ mag (rg ax) = mag (rg x) ∧ (sg ax = true → mag (rg x) = 0) ∧ sg ax = (if decide (val x < 0) then false else sg x) := by
    by_cases c : val x < 0
    · rw [decide_eq_true c]
      refine ⟨_, rfl, (fin_negW hx0).2 hx, negW_lt hx0, by rw [if_pos rfl, rg_negW hx0], ?_, ?_⟩
      · rw [if_pos rfl, sg_negW hx0, sg_of_neg c]; exact fun e => Bool.noConfusion e
      · rw [if_pos rfl, sg_negW hx0, sg_of_neg c]; rfl
    · rw [decide_eq_false c]
      refine ⟨_, rfl, hx, hx0, rfl, ?_, rfl⟩
      rw [if_neg Bool.false_ne_true]
      intro e
      apply Classical.byContradiction
      intro k
      exact c (val_neg_iff.2 ⟨e, fun q => k (mag_eq_zero.2 q)⟩)
  have hvax : val ax = (mag (rg x) : Int) := val_of_sg rfl f3 f4
  have hne := b_eq f1 (fin_absW.2 hy)
  rw [hvax, val_absW] at hne
  by_cases c : mag (rg x) = mag (rg y)
  · rw [c, decide_eq_true rfl] at hne
    rw [remW_same hz c]
    exact mrem_same x y ax (absW y) _ _ w hx hy hx0 hy0 hyz hsx hsy hax hay hne
  · rw [decide_eq_false (fun e => c (Int.ofNat_inj.1 e))] at hne
    obtain ⟨r, yy, b, g1, g2, g3, g4, g5, g6, g7⟩ := rem_data f1 f2 f3 f4 hy hz
    obtain ⟨zt, z1, z2, z3⟩ := remZ_two (mag (rg x)) (mag (rg y)) hp
    obtain ⟨z, c', d, h, r1, tb, b1, b2, t1, t2, t3, t4, t5, t6, t7, t8, t9, t10, t11⟩ := tail_data g1 g2 g3 hy rfl zt z1 z2 z3
    have hres : (if decide (val x < 0) then negW z else z) = remW x y := by
      unfold remW
      rw [g4, f5] at t4
      by_cases k : val x < 0
      · rw [decide_eq_true k, if_pos rfl] at *
        rw [sg_of_neg k, if_pos rfl]
        exact word_near (negW_lt t2) ((fin_negW t2).2 t1) (by rw [val_negW t2, t3]) (fun e => by rw [sg_negW t2, t4 (by omega)]; rfl)
      · rw [decide_eq_false k, if_neg Bool.false_ne_true] at *
        refine word_near t2 t1 ?_ ?_
        · rw [t3]
          cases hs : sg x
          · rfl
          · have hx00 : mag (rg x) = 0 := f4 (by rw [f5]; exact hs)
            have e0 : remZ (mag (rg x)) (mag (rg y)) = 0 := by
              unfold remZ
              rw [hx00, Nat.zero_mod, if_pos (.inl (by omega))]; rfl
            rw [e0]; rfl
        · intro e
          refine t4 ?_
          cases hs : sg x
          · rw [hs] at e; exact e
          · rw [hs, if_pos rfl] at e; omega
    rw [← hres]
    exact mrem_walk x y ax (absW y) r yy z c' d h r1 _ _ b tb b1 b2 w hx hy hx0 hy0 hyz hsx hsy hax hay hne g5 g6 g7 t5 t6 t7 t8 t9 t10 t11
set_option maxRecDepth 100000 in
theorem mremainder_inf (x y : Nat) (w : World) (hx : Fnt x) (hy : Inf y) (hx0 : x < 2 ^ 64) (hy0 : y < 2 ^ 64) :
    Calls Try.prog 48 #[.float .f64 x, .float .f64 y] w fun e w' => e = .returned (.float .f64 x) ∧ w = w' := by
  have hyz : rg y ≠ 0 := by have h' : rg y = INF := hy; unfold INF at h'; omega
  have hyo := ord_nonzero (inf_nan hy) hyz
  have hIx := fun u => mIsInf_fin x u hx hx0
  have hIy := fun u => mIsInf_inf y u hy hy0
  have hNx := fun u => mIsNaN_no x u (fin_nan hx)
  have hNy := fun u => mIsNaN_no y u (inf_nan hy)
  clear hyz
  rcases hyo with hyo | hyo
  all_goals
    go_enter Try.func48, Try.ntmps48
    go_wp2_with (first | (go_at_call 64; (with_reducible refine (hIx _).mono ?_); rintro e w' ⟨rfl, rfl⟩) | (go_at_call 64; (with_reducible refine (hIy _).mono ?_); rintro e w' ⟨rfl, rfl⟩) | (go_at_call 63; (with_reducible refine (hNx _).mono ?_); rintro e w' ⟨rfl, rfl⟩) | (go_at_call 63; (with_reducible refine (hNy _).mono ?_); rintro e w' ⟨rfl, rfl⟩))
    go_ret
    exact ⟨rfl, rfl⟩
theorem mIsNaN_is (b : Nat) (w : World) :
    Calls Try.prog 63 #[.float .f64 b] w fun e w' => e = .returned (.bool (decide (NaN b))) ∧ w = w' := by
  by_cases h : NaN b
  · rw [decide_eq_true h]; exact mIsNaN_yes b w h
  · rw [decide_eq_false h]; exact mIsNaN_no b w h
theorem mIsInf_is (b : Nat) (w : World) (h64 : b < 2 ^ 64) :
    Calls Try.prog 64 #[.float .f64 b, .int .i64 0] w fun e w' => e = .returned (.bool (decide (Inf b))) ∧ w = w' := by
  rcases kinds b with k | k | k
  · rw [decide_eq_false (fun q => inf_fin q k)]; exact mIsInf_fin b w k h64
  · rw [decide_eq_true k]; exact mIsInf_inf b w k h64
  · rw [decide_eq_false (fun q => inf_nan q k)]; exact mIsInf_nan b w k h64
set_option maxRecDepth 100000 in
theorem mremainder_none (x y : Nat) (w : World) (hx0 : x < 2 ^ 64) (h : rg y = 0 ∨ ¬ Fnt x ∨ NaN y) :
    Calls Try.prog 48 #[.float .f64 x, .float .f64 y] w fun e w' => e = .returned (.float .f64 9221120237041090561) ∧ w = w' := by
  have hNx := fun u => mIsNaN_is x u
  have hNy := fun u => mIsNaN_is y u
  have hIx := fun u => mIsInf_is x u hx0
  by_cases c1 : NaN x
  · rw [decide_eq_true c1] at hNx
    clear hIx hNy h
    go_enter Try.func48, Try.ntmps48
    go_wp2_with (first | (go_at_call 63; (with_reducible refine (hNx _).mono ?_); rintro e w' ⟨rfl, rfl⟩) | (go_at_call 65; refine (mNaN_any _).mono ?_; rintro e w' ⟨rfl, rfl⟩))
    go_ret
    exact ⟨rfl, rfl⟩
  rw [decide_eq_false c1] at hNx
  by_cases c2 : NaN y
  · rw [decide_eq_true c2] at hNy
    clear hIx h
    go_enter Try.func48, Try.ntmps48
    go_wp2_with (first | (go_at_call 63; (with_reducible refine (hNx _).mono ?_); rintro e w' ⟨rfl, rfl⟩) | (go_at_call 63; (with_reducible refine (hNy _).mono ?_); rintro e w' ⟨rfl, rfl⟩) | (go_at_call 65; refine (mNaN_any _).mono ?_; rintro e w' ⟨rfl, rfl⟩))
    go_ret
    exact ⟨rfl, rfl⟩
  rw [decide_eq_false c2] at hNy
  by_cases c3 : Inf x
  · rw [decide_eq_true c3] at hIx
    clear h
    go_enter Try.func48, Try.ntmps48
    go_wp2_with (first | (go_at_call 64; (with_reducible refine (hIx _).mono ?_); rintro e w' ⟨rfl, rfl⟩) | (go_at_call 63; (with_reducible refine (hNx _).mono ?_); rintro e w' ⟨rfl, rfl⟩) | (go_at_call 63; (with_reducible refine (hNy _).mono ?_); rintro e w' ⟨rfl, rfl⟩) | (go_at_call 65; refine (mNaN_any _).mono ?_; rintro e w' ⟨rfl, rfl⟩))
    go_ret
    exact ⟨rfl, rfl⟩
  rw [decide_eq_false c3] at hIx
  have hz : rg y = 0 := by
    rcases h with h | h | h
    · exact h
    · rcases kinds x with k | k | k
      · exact absurd k h
      · exact absurd k c3
      · exact absurd k c1
    · exact absurd h c2
  have ho := ord_zero hz
  clear h hz
  go_enter Try.func48, Try.ntmps48
  go_wp2_with (first | (go_at_call 64; (with_reducible refine (hIx _).mono ?_); rintro e w' ⟨rfl, rfl⟩) | (go_at_call 63; (with_reducible refine (hNx _).mono ?_); rintro e w' ⟨rfl, rfl⟩) | (go_at_call 63; (with_reducible refine (hNy _).mono ?_); rintro e w' ⟨rfl, rfl⟩) | (go_at_call 65; refine (mNaN_any _).mono ?_; rintro e w' ⟨rfl, rfl⟩))
  go_ret
  exact ⟨rfl, rfl⟩
theorem Remainder_of (x y r : Nat) (hm : ∀ w, Calls Try.prog 48 #[.float .f64 x, .float .f64 y] w fun e w' => e = .returned (.float .f64 r) ∧ w = w') (w : World) :
    Calls Try.prog 15 #[.float .f64 x, .float .f64 y] w fun e w' => e = .returned (.float .f64 r) ∧ w = w' := by
  have hM : ∀ w, Calls Try.prog 27 #[.float .f64 x, .float .f64 y] w fun e w' => e = .returned (.float .f64 r) ∧ w = w' := by
    intro w
    go_enter Try.func27, Try.ntmps27
    go_wp2_with (go_at_call 48; refine (hm _).mono ?_; rintro e w' ⟨rfl, rfl⟩)
    go_ret
    exact ⟨rfl, rfl⟩
  go_enter Try.func15, Try.ntmps15
  go_wp2_with (go_at_call 27; refine (hM _).mono ?_; rintro e w' ⟨rfl, rfl⟩)
  go_ret
  exact ⟨rfl, rfl⟩
theorem Remainder_fin (x y : Nat) (w : World) (hx : Fnt x) (hy : Fnt y) (hx0 : x < 2 ^ 64) (hy0 : y < 2 ^ 64) (hz : rg y ≠ 0) :
    Calls Try.prog 15 #[.float .f64 x, .float .f64 y] w fun e w' => e = .returned (.float .f64 (remW x y)) ∧ w = w' := Remainder_of x y _ (fun u => mremainder_fin x y u hx hy hx0 hy0 hz) w
theorem Remainder_inf (x y : Nat) (w : World) (hx : Fnt x) (hy : Inf y) (hx0 : x < 2 ^ 64) (hy0 : y < 2 ^ 64) :
    Calls Try.prog 15 #[.float .f64 x, .float .f64 y] w fun e w' => e = .returned (.float .f64 x) ∧ w = w' := Remainder_of x y _ (fun u => mremainder_inf x y u hx hy hx0 hy0) w
theorem Remainder_none (x y : Nat) (w : World) (hx0 : x < 2 ^ 64) (h : rg y = 0 ∨ ¬ Fnt x ∨ NaN y) :
    Calls Try.prog 15 #[.float .f64 x, .float .f64 y] w fun e w' => e = .returned (.float .f64 9221120237041090561) ∧ w = w' := Remainder_of x y _ (fun u => mremainder_none x y u hx0 h) w
end Go.Proofs.Ytnegjfdaijnadaa
