/- The walk of FnInfiniteIsLdexpOverflowAndFixed. -/
import Derived.Test.YtcpfnepkjbadjaaLdLaw2
namespace Go.Proofs.Ytcpfnepkjbadjaa
open Ieee
open Go.ChangeShapes Go.WideShapes Go.ChangeAt Go.RowKit
set_option linter.unusedVariables false
theorem infinite_any (x : Nat) (w : World) : Calls Try.prog 17 #[.float .f64 x] w fun e' w' => e' = .returned (.float .f64 9218868437227405312) ∧ w = w' := by
  have fb := from_bits
  have hta : ∀ z W, (Instr.typeAssert (.iface 22 (.float .f64 z)) 20 22 false).run Try.prog W = .ok (.float .f64 z) W := fun z W => by kernel_rfl
  go_enter Try.func17, Try.ntmps17
  go_wp2
  go_ret
  exact ⟨rfl, rfl⟩
theorem pos_parts {x : Nat} (hx : x < 2 ^ 64) (g1 : (FloatKind.f64.format.order x 0 == some .gt) = true) (g2 : (FloatKind.f64.format.order x 9218868437227405311 == some .lt || FloatKind.f64.format.order x 9218868437227405311 == some .eq) = true) :
    x = wd false x ∧ x ≠ 0 ∧ x < double.infRung := by
  rw [fmt_eq] at g1 g2
  cases hn : nanB x
  · have ax : x % 2 ^ 63 ≤ double.infRung := by unfold nanB at hn; simpa using hn
    have nm : nanB 9218868437227405311 = false := by unfold nanB; rw [infRung_eq]; rfl
    have vm : V 9218868437227405311 = 9218868437227405311 := rfl
    have v0 : 0 < V x := by
      rcases Int.lt_trichotomy (V x) 0 with h | h | h
      · rw [ord_lt hx (by omega) hn nan_zero (by rw [V_zero]; exact h)] at g1
        cases g1
      · rw [ord_eq hx (by omega) hn nan_zero (by rw [V_zero]; exact h)] at g1
        cases g1
      · exact h
    have v1 : V x ≤ 9218868437227405311 := by
      rcases Int.lt_or_le 9218868437227405311 (V x) with h | h
      · rw [ord_gt hx (by omega) hn nm (by rw [vm]; exact h)] at g2
        cases g2
      · exact h
    have hs := V_pos v0
    unfold V sn at v0 v1
    rw [decide_eq_false hs] at v0 v1
    simp only [Bool.false_eq_true, if_false] at v0 v1
    exact ⟨rfl, by omega, by rw [infRung_eq]; omega⟩
  · rw [ord_nan_left hx hn] at g1
    cases g1
theorem law_inf (x : Nat) (e : Int) (c : Nat) (w : World) (hx : x < 2 ^ 64) (hc : c < 2 ^ 64) :
    Calls Try.prog 7 #[.float .f64 x, .int .i64 e, .float .f64 c] w fun e' w' => e' = .returned (.bool true) ∧ Below w.heap.size w w' := by
  by_cases h1 : e < -65536
  · go_enter Try.func7, Try.ntmps7
    go_wp2_with fail
    go_ret
    exact ⟨rfl, Below.refl _ _⟩
  · by_cases h2 : 65536 < e
    · go_enter Try.func7, Try.ntmps7
      go_wp2_with fail
      go_ret
      exact ⟨rfl, Below.refl _ _⟩
    · have hi := Lib.hid (infinite_any c w)
      have e1 : ldW 9218868437227405312 e = 9218868437227405312 := ldW_inf false e
      have e2 : ldW 18442240474082181120 e = 18442240474082181120 := ldW_inf true e
      have hp := zz_any 9218868437227405312 (floatOfInt .f64 e) e w (by omega) (ofInt_toInt e (by omega)) (by omega) (by omega)
      have hm := zz_any 18442240474082181120 (floatOfInt .f64 e) e w (by omega) (ofInt_toInt e (by omega)) (by omega) (by omega)
      rw [e1] at hp
      rw [e2] at hm
      have HP := Lib.hid hp
      have HM := Lib.hid hm
      have HX := Lib.hid (zz_any x (floatOfInt .f64 e) e w hx (ofInt_toInt e (by omega)) (by omega) (by omega))
      have HN := Lib.hid (zz_any (negW x) (floatOfInt .f64 e) e w (negW_lt hx) (ofInt_toInt e (by omega)) (by omega) (by omega))
      have n1 : ∀ W : World, (Op.unary .neg (.float .f64 9218868437227405312)).run Try.prog W = .ok (.float .f64 18442240474082181120) W := fun W => by
        have := neg_run (x := 9218868437227405312) (by omega) W
        rw [show negW 9218868437227405312 = 18442240474082181120 by unfold negW; rw [if_neg (by omega)]] at this
        exact this
      have n2 : ∀ W : World, (Op.unary .neg (.float .f64 x)).run Try.prog W = .ok (.float .f64 (negW x)) W := fun W => neg_run hx W
      have o1 : (FloatKind.f64.format.order 9218868437227405312 9218868437227405312 != some .eq) = false := by kernel_rfl
      have o2 : (FloatKind.f64.format.order 18442240474082181120 18442240474082181120 != some .eq) = false := by kernel_rfl
      clear e1 e2 hp hm
      by_cases hb : (FloatKind.f64.format.order x 0 == some .gt) = true ∧ (FloatKind.f64.format.order x 9218868437227405311 == some .lt || FloatKind.f64.format.order x 9218868437227405311 == some .eq) = true ∧ 2100 ≤ e
      · obtain ⟨g1, g2, g3⟩ := hb
        obtain ⟨p1, p2, p3⟩ := pos_parts hx g1 g2
        have q1 : ldW x e = 9218868437227405312 := by
          have := ldW_fin (s := false) p3 e
          rw [up_far x e p2 p3 g3] at this
          exact this
        have q2 : ldW (negW x) e = 18442240474082181120 := by
          have hw : negW x = wd true x := by
            unfold negW
            rw [infRung_eq] at p3
            rw [if_neg (by omega)]
            show x + 2 ^ 63 = 2 ^ 63 + x
            omega
          have := ldW_fin (s := true) p3 e
          rw [up_far x e p2 p3 g3, ← hw] at this
          exact this
        have HX' := HX.out
        have HN' := HN.out
        rw [q1] at HX'
        rw [q2] at HN'
        have HX2 := Lib.hid HX'
        have HN2 := Lib.hid HN'
        clear HX HN HX' HN' p1 p2 p3 q1 q2
        generalize negW x = y at HN2 n2
        go_enter Try.func7, Try.ntmps7
        go_wp2_with fail
        with_reducible refine (hi.out).mono ?_
        rintro e1 w1 ⟨rfl, rfl⟩
        go_wp2_with fail
        with_reducible refine (HP.out).mono ?_
        rintro e1 w1 ⟨rfl, rfl⟩
        go_wp2_with fail
        with_reducible refine (HM.out).mono ?_
        rintro e1 w1 ⟨rfl, rfl⟩
        go_wp2_with fail
        with_reducible refine (HX2.out).mono ?_
        rintro e1 w1 ⟨rfl, rfl⟩
        go_wp2_with fail
        with_reducible refine (HN2.out).mono ?_
        rintro e1 w1 ⟨rfl, rfl⟩
        go_wp2_with fail
        go_ret
        exact ⟨rfl, Below.refl _ _⟩
      · clear HX HN n2
        cases g1 : (FloatKind.f64.format.order x 0 == some .gt)
        · clear hb
          go_enter Try.func7, Try.ntmps7
          go_wp2_with fail
          with_reducible refine (hi.out).mono ?_
          rintro e1 w1 ⟨rfl, rfl⟩
          go_wp2_with fail
          with_reducible refine (HP.out).mono ?_
          rintro e1 w1 ⟨rfl, rfl⟩
          go_wp2_with fail
          with_reducible refine (HM.out).mono ?_
          rintro e1 w1 ⟨rfl, rfl⟩
          go_wp2_with fail
          go_ret
          exact ⟨rfl, Below.refl _ _⟩
        · cases g2 : (FloatKind.f64.format.order x 9218868437227405311 == some .lt || FloatKind.f64.format.order x 9218868437227405311 == some .eq)
          · clear hb
            go_enter Try.func7, Try.ntmps7
            go_wp2_with fail
            with_reducible refine (hi.out).mono ?_
            rintro e1 w1 ⟨rfl, rfl⟩
            go_wp2_with fail
            with_reducible refine (HP.out).mono ?_
            rintro e1 w1 ⟨rfl, rfl⟩
            go_wp2_with fail
            with_reducible refine (HM.out).mono ?_
            rintro e1 w1 ⟨rfl, rfl⟩
            go_wp2_with fail
            all_goals
              go_ret
              exact ⟨rfl, Below.refl _ _⟩
          · have g3 : ¬ 2100 ≤ e := fun h => hb ⟨g1, g2, h⟩
            clear hb
            go_enter Try.func7, Try.ntmps7
            go_wp2_with fail
            with_reducible refine (hi.out).mono ?_
            rintro e1 w1 ⟨rfl, rfl⟩
            go_wp2_with fail
            with_reducible refine (HP.out).mono ?_
            rintro e1 w1 ⟨rfl, rfl⟩
            go_wp2_with fail
            with_reducible refine (HM.out).mono ?_
            rintro e1 w1 ⟨rfl, rfl⟩
            go_wp2_with fail
            all_goals
              go_ret
              exact ⟨rfl, Below.refl _ _⟩
end Go.Proofs.Ytcpfnepkjbadjaa
