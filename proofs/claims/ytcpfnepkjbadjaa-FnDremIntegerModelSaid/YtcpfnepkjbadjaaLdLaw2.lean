/- The walks of FnLdexpRoundTrip, FnLdexpTruncatesExponent and FnInfiniteIsLdexpOverflowAndFixed. -/
import Derived.Test.YtcpfnepkjbadjaaLdLaw
namespace Go.Proofs.Ytcpfnepkjbadjaa
open Ieee
open Go.ChangeShapes Go.WideShapes Go.ChangeAt Go.RowKit
set_option linter.unusedVariables false
/-- the law's test for an infinity -/
def ordMax (x : Nat) : Bool := FloatKind.f64.format.order x 9218868437227405311 == some .gt
def ordMin (x : Nat) : Bool := FloatKind.f64.format.order x 18442240474082181119 == some .lt
theorem ordMax_inf : (FloatKind.f64.format.order 9218868437227405312 9218868437227405311 == some .gt) = true := by kernel_rfl
theorem ordMax_ninf : (FloatKind.f64.format.order 18442240474082181120 9218868437227405311 == some .gt) = false := by kernel_rfl
theorem ordMin_ninf : (FloatKind.f64.format.order 18442240474082181120 18442240474082181119 == some .lt) = true := by kernel_rfl
theorem isInf_yes (s : Bool) (w : World) : Calls Try.prog 15 #[.float .f64 (wd s double.infRung)] w fun e' w' => e' = .returned (.bool true) ∧ w = w' := by
  have i1 := ordMax_inf
  have i2 := ordMax_ninf
  have i3 := ordMin_ninf
  cases s
  · show Calls Try.prog _ #[.float .f64 9218868437227405312] w _
    go_enter Try.func15, Try.ntmps15
    go_wp2
    go_ret
    exact ⟨rfl, rfl⟩
  · show Calls Try.prog _ #[.float .f64 18442240474082181120] w _
    go_enter Try.func15, Try.ntmps15
    go_wp2
    go_ret
    exact ⟨rfl, rfl⟩
/-- whatever it answers -/
theorem isInf_some (x : Nat) (w : World) : Calls Try.prog 15 #[.float .f64 x] w fun e' w' => ∃ b, e' = .returned (.bool b) ∧ w = w' := by
  go_enter Try.func15, Try.ntmps15
  go_wp2
  all_goals
    go_ret
    exact ⟨_, rfl, rfl⟩
theorem law_round (x : Nat) (e : Int) (w : World) (hx : x < 2 ^ 64) :
    Calls Try.prog 4 #[.float .f64 x, .int .i64 e] w fun e' w' => e' = .returned (.bool true) ∧ Below w.heap.size w w' := by
  by_cases h1 : e < 0
  · go_enter Try.func4, Try.ntmps4
    go_wp2_with fail
    go_ret
    exact ⟨rfl, Below.refl _ _⟩
  · by_cases h2 : 65536 < e
    · go_enter Try.func4, Try.ntmps4
      go_wp2_with fail
      go_ret
      exact ⟨rfl, Below.refl _ _⟩
    · have hz := Lib.hid (zz_any x (floatOfInt .f64 e) e w hx (ofInt_toInt e (by omega)) (by omega) (by omega))
      have hu := ldW_lt hx e
      cases hn : nanB x
      · have ax : x % 2 ^ 63 ≤ double.infRung := by unfold nanB at hn; simpa using hn
        rw [wd_parts x hx] at hz hu ⊢
        generalize decide (2 ^ 63 ≤ x) = s at hz hu ⊢
        generalize x % 2 ^ 63 = r at hz ax hu ⊢
        have hinf : ∀ u, Hid (ldW (wd s r) e = u) → u = wd s double.infRung → Calls Try.prog 4 #[.float .f64 (wd s r), .int .i64 e] w fun e' w' => e' = .returned (.bool true) ∧ Below w.heap.size w w' := by
          intro u hu1 hu2
          have hi := Lib.hid (isInf_yes s w)
          rw [← hu2] at hi
          rw [hu1.out] at hz
          have hso : (FloatKind.f64.format.order u u != some .eq) = false := by
            rw [hu2]
            cases s <;> kernel_rfl
          clear hu1 hu2 hu hn ax
          generalize wd s r = x0 at hz ⊢
          go_enter Try.func4, Try.ntmps4
          go_wp2_with fail
          with_reducible refine (hz.out).mono ?_
          rintro e1 w1 ⟨rfl, rfl⟩
          go_wp2_with fail
          with_reducible refine (hi.out).mono ?_
          rintro e1 w1 ⟨rfl, rfl⟩
          go_wp2_with fail
          go_ret
          exact ⟨rfl, Below.refl _ _⟩
        rcases Nat.lt_or_ge r double.infRung with h | h
        · have hl := ldW_fin (s := s) h e
          rcases Nat.lt_or_ge (rnE (U r) e) double.infRung with h3 | h3
          · have hb : ldW (ldW (wd s r) e) (-e) = wd s r := by rw [hl, ldW_fin h3, up_down r e h (by omega) h3]
            have hx0 : wd s r < 2 ^ 64 := wd_lt s r (by rw [infRung_eq] at h; omega)
            have hy := zz_any (ldW (wd s r) e) (floatOfInt .f64 (-e)) (-e) w hu (ofInt_toInt (-e) (by omega)) (by omega) (by omega)
            rw [hb] at hy
            have HY := Lib.hid hy
            have hs := Lib.hid (sameF_eq (wd s r) w hx0)
            have hso := self_ord hu
            have hnu : nanB (ldW (wd s r) e) = false := by
              rw [hl]; unfold nanB; rw [(wd_mod s _ (by rw [infRung_eq] at h3; omega)).1]; simp; omega
            rw [hnu] at hso
            clear hinf hl hb hy hx0 hu hn ax hnu
            generalize ldW (wd s r) e = u at hz HY hso
            generalize wd s r = x0 at hz HY hs ⊢
            have hi := Lib.hid (isInf_some u w)
            go_enter Try.func4, Try.ntmps4
            go_wp2_with fail
            with_reducible refine (hz.out).mono ?_
            rintro e1 w1 ⟨rfl, rfl⟩
            go_wp2_with fail
            with_reducible refine (hi.out).mono ?_
            rintro e1 w1 ⟨b, rfl, rfl⟩
            cases b
            · go_wp2_with fail
              with_reducible refine (HY.out).mono ?_
              rintro e1 w1 ⟨rfl, rfl⟩
              go_wp2_with fail
              with_reducible refine (hs.out).mono ?_
              rintro e1 w1 ⟨rfl, rfl⟩
              go_wp2_with fail
              go_ret
              exact ⟨rfl, Below.refl _ _⟩
            · go_wp2_with fail
              go_ret
              exact ⟨rfl, Below.refl _ _⟩
          · have e3 : rnE (U r) e = double.infRung := by have := rnE_le (U r) e; omega
            exact hinf _ (Lib.hid rfl) (by rw [hl, e3])
        · obtain rfl : r = double.infRung := by omega
          exact hinf _ (Lib.hid rfl) (ldW_inf s e)
      · have hso := self_ord hx
        rw [hn] at hso
        rw [ldW_nan hn] at hz
        clear hn hu
        go_enter Try.func4, Try.ntmps4
        go_wp2_with fail
        with_reducible refine (hz.out).mono ?_
        rintro e1 w1 ⟨rfl, rfl⟩
        go_wp2_with fail
        go_ret
        exact ⟨rfl, Below.refl _ _⟩
theorem U_pw (k : Nat) (h : 1 ≤ k) : U (k * 2 ^ 52) = p2 (52 + (k - 1)) := by
  unfold U
  rw [if_neg (by omega), Nat.mul_mod_left, Nat.mul_div_cancel _ (Nat.two_pow_pos 52), Nat.add_zero, p2_add]
  rfl
/-- a fraction of at most a half -/
theorem half_parts {c : Nat} (hc : c < 2 ^ 64) (g1 : (FloatKind.f64.format.order c 0 == some .gt || FloatKind.f64.format.order c 0 == some .eq) = true) (g2 : (FloatKind.f64.format.order c 4602678819172646912 == some .lt || FloatKind.f64.format.order c 4602678819172646912 == some .eq) = true) :
    ∃ t b, c = wd t b ∧ b < double.infRung ∧ U b ≤ p2 1073 ∧ (t = true → b = 0) := by
  rw [fmt_eq] at g1 g2
  cases hn : nanB c
  · have ax : c % 2 ^ 63 ≤ double.infRung := by unfold nanB at hn; simpa using hn
    have nm : nanB 4602678819172646912 = false := by unfold nanB; rw [infRung_eq]; rfl
    have vm : V 4602678819172646912 = 4602678819172646912 := rfl
    have v0 : 0 ≤ V c := by
      rcases Int.lt_or_le (V c) 0 with h | h
      · rw [ord_lt hc (by omega) hn nan_zero (by rw [V_zero]; exact h)] at g1
        cases g1
      · exact h
    have v1 : V c ≤ 4602678819172646912 := by
      rcases Int.lt_or_le 4602678819172646912 (V c) with h | h
      · rw [ord_gt hc (by omega) hn nm (by rw [vm]; exact h)] at g2
        cases g2
      · exact h
    have hp := wd_parts c hc
    unfold V sn at v0 v1
    have hb : c % 2 ^ 63 ≤ 1022 * 2 ^ 52 ∧ (decide (2 ^ 63 ≤ c) = true → c % 2 ^ 63 = 0) := by
      cases hd : decide (2 ^ 63 ≤ c)
      · rw [hd] at v1
        simp only [Bool.false_eq_true, if_false] at v1
        exact ⟨by omega, fun e => by cases e⟩
      · rw [hd] at v0
        simp only [if_true] at v0
        exact ⟨by omega, fun _ => by omega⟩
    have hlt : (1022 * 2 ^ 52 : Nat) < double.infRung := by rw [infRung_eq]; omega
    refine ⟨_, _, hp, by omega, ?_, hb.2⟩
    have hU := U_pw 1022 (by omega)
    rw [show 52 + (1022 - 1) = 1073 by rfl] at hU
    rcases Nat.lt_or_ge (c % 2 ^ 63) (1022 * 2 ^ 52) with h | h
    · have := U_mono h hlt; omega
    · have e : c % 2 ^ 63 = 1022 * 2 ^ 52 := by omega
      rw [e, hU]; omega
  · rw [ord_nan_left hc hn] at g1
    cases g1
/-- n and a fraction -/
theorem add_cut (n : Nat) (t : Bool) (b : Nat) (hn : n < 2 ^ 51) (hb : b < double.infRung) (hu : U b ≤ p2 1073) (ht : t = true → b = 0) :
    ∃ z, double.add (wd false (rE n)) (wd t b) = some z ∧ floatToIntVal .f64 z .i64 = some (n : Int) := by
  obtain ⟨a1, a2⟩ := rE_ok n (by omega)
  rw [add_fin false t (rE n) b a2 hb]
  refine ⟨_, rfl, ?_⟩
  rw [a1]
  have hs : sn false (n * p2 1074) + sn t (U b) = ((n * p2 1074 + U b : Nat) : Int) := by
    cases t
    · unfold sn; simp
    · rw [ht rfl, U_zero]; unfold sn; simp
  rw [hs, Int.natAbs_natCast]
  obtain ⟨h1, h2⟩ := add_half n (U b) hn hu
  refine toInt_ok h2 ?_ (by omega) (by omega)
  rw [h1]
  generalize n * p2 1074 + U b = T
  have hd : (if (T : Int) = 0 then false && t else decide ((T : Int) < 0)) = false := by
    split
    · rfl
    · simp
  rw [hd]
  rfl
theorem sub_cut (n : Nat) (t : Bool) (b : Nat) (h0 : 0 < n) (hn : n < 2 ^ 51) (hb : b < double.infRung) (hu : U b ≤ p2 1073) (ht : t = true → b = 0) :
    (∃ z, double.add (wd true (rE n)) (wd t b) = some z) ∧ ∃ z, double.sub (wd true (rE n)) (wd t b) = some z ∧ floatToIntVal .f64 z .i64 = some (-(n : Int)) := by
  obtain ⟨a1, a2⟩ := rE_ok n (by omega)
  refine ⟨⟨_, add_fin true t (rE n) b a2 hb⟩, ?_⟩
  rw [sub_fin true t (rE n) b a2 hb]
  refine ⟨_, rfl, ?_⟩
  rw [a1]
  have hs : sn true (n * p2 1074) + sn (!t) (U b) = -((n * p2 1074 + U b : Nat) : Int) := by
    cases t
    · unfold sn; simp; omega
    · rw [ht rfl, U_zero]; unfold sn; simp
  rw [hs, Int.natAbs_neg, Int.natAbs_natCast]
  obtain ⟨h1, h2⟩ := add_half n (U b) hn hu
  refine toInt_ok h2 ?_ (by omega) (by omega)
  rw [h1]
  have hpos : 0 < n * p2 1074 + U b := by
    have := Nat.mul_pos h0 (p2_pos 1074)
    omega
  generalize n * p2 1074 + U b = T at hpos
  have hd : (if -(T : Int) = 0 then true && !t else decide (-(T : Int) < 0)) = true := by
    rw [if_neg (by omega), decide_eq_true_eq]
    omega
  rw [hd]
  rfl
theorem same_both (x : Nat) (w : World) (hx : x < 2 ^ 64) : Calls Try.prog 12 #[.float .f64 x, .float .f64 x] w fun e' w' => e' = .returned (.bool true) ∧ w = w' := sameF_eq x w hx
theorem law_trunc (x : Nat) (e : Int) (c : Nat) (w : World) (hx : x < 2 ^ 64) (hc : c < 2 ^ 64) :
    Calls Try.prog 6 #[.float .f64 x, .int .i64 e, .float .f64 c] w fun e' w' => e' = .returned (.bool true) ∧ Below w.heap.size w w' := by
  by_cases h1 : e < -65536
  · go_enter Try.func6, Try.ntmps6
    go_wp2_with fail
    go_ret
    exact ⟨rfl, Below.refl _ _⟩
  · by_cases h2 : 65536 < e
    · go_enter Try.func6, Try.ntmps6
      go_wp2_with fail
      go_ret
      exact ⟨rfl, Below.refl _ _⟩
    · cases g1 : (FloatKind.f64.format.order c 0 == some .gt || FloatKind.f64.format.order c 0 == some .eq)
      · go_enter Try.func6, Try.ntmps6
        go_wp2_with fail
        all_goals
          go_ret
          exact ⟨rfl, Below.refl _ _⟩
      · cases g2 : (FloatKind.f64.format.order c 4602678819172646912 == some .lt || FloatKind.f64.format.order c 4602678819172646912 == some .eq)
        · go_enter Try.func6, Try.ntmps6
          go_wp2_with fail
          all_goals
            go_ret
            exact ⟨rfl, Below.refl _ _⟩
        · obtain ⟨t, b, hcw, hb, hub, htb⟩ := half_parts hc g1 g2
          have hz := Lib.hid (zz_any x (floatOfInt .f64 e) e w hx (ofInt_toInt e (by omega)) (by omega) (by omega))
          have hs := Lib.hid (same_both (ldW x e) w (ldW_lt hx e))
          by_cases he : 0 ≤ e
          · obtain ⟨n, rfl⟩ : ∃ n : Nat, e = n := ⟨e.toNat, by omega⟩
            obtain ⟨z, hz1, hz2⟩ := add_cut n t b (by omega) hb hub htb
            have hfe : floatOfInt .f64 (n : Int) = wd false (rE n) := by
              rw [ofInt_eq, Int.natAbs_natCast, decide_eq_false (by omega)]
            have hadd : (binOp .add 22 (.float .f64 (floatOfInt .f64 (n : Int))) (.float .f64 c)).run Try.prog w = .ok (.float .f64 z) w := run_float_arith w .add _ .f64 _ _ _ (by rw [hfe, hcw]; exact hz1)
            have hy := Lib.hid (zz_any x z n w hx hz2 (by omega) (by omega))
            generalize ldW x n = u at hz hs hy
            clear hz1 hz2 hfe hcw hb hub htb
            go_enter Try.func6, Try.ntmps6
            go_wp2_with (first | (go_at_call 13; first | ((with_reducible refine (hy.out).mono ?_); rintro e1 w1 ⟨rfl, rfl⟩) | ((with_reducible refine (hz.out).mono ?_); rintro e1 w1 ⟨rfl, rfl⟩)) | (go_at_call 12; ((with_reducible refine (hs.out).mono ?_); rintro e1 w1 ⟨rfl, rfl⟩)))
            all_goals
              go_ret
              exact ⟨rfl, Below.refl _ _⟩
          · obtain ⟨n, rfl⟩ : ∃ n : Nat, e = -(n : Int) := ⟨(-e).toNat, by omega⟩
            obtain ⟨⟨z0, hz0⟩, z, hz1, hz2⟩ := sub_cut n t b (by omega) (by omega) hb hub htb
            have hfe : floatOfInt .f64 (-(n : Int)) = wd true (rE n) := by
              rw [ofInt_eq, Int.natAbs_neg, Int.natAbs_natCast, decide_eq_true (by omega)]
            have hadd : (binOp .add 22 (.float .f64 (floatOfInt .f64 (-(n : Int)))) (.float .f64 c)).run Try.prog w = .ok (.float .f64 z0) w := run_float_arith w .add _ .f64 _ _ _ (by rw [hfe, hcw]; exact hz0)
            have hsub : (binOp .sub 22 (.float .f64 (floatOfInt .f64 (-(n : Int)))) (.float .f64 c)).run Try.prog w = .ok (.float .f64 z) w := run_float_arith w .sub _ .f64 _ _ _ (by rw [hfe, hcw]; exact hz1)
            have hy := Lib.hid (zz_any x z (-(n : Int)) w hx hz2 (by omega) (by omega))
            generalize ldW x (-(n : Int)) = u at hz hs hy
            clear hz0 hz1 hz2 hfe hcw hb hub htb
            go_enter Try.func6, Try.ntmps6
            go_wp2_with (first | (go_at_call 13; first | ((with_reducible refine (hy.out).mono ?_); rintro e1 w1 ⟨rfl, rfl⟩) | ((with_reducible refine (hz.out).mono ?_); rintro e1 w1 ⟨rfl, rfl⟩)) | (go_at_call 12; ((with_reducible refine (hs.out).mono ?_); rintro e1 w1 ⟨rfl, rfl⟩)))
            all_goals
              go_ret
              exact ⟨rfl, Below.refl _ _⟩
end Go.Proofs.Ytcpfnepkjbadjaa
