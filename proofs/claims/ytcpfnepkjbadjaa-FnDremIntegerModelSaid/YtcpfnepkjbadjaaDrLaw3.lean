/- The walk of FnDremIntegerModel: true at every two 32-bit integers. -/
import Derived.Test.YtcpfnepkjbadjaaDrInt
namespace Go.Proofs.Ytcpfnepkjbadjaa
open Ieee
open Go.ChangeShapes Go.WideShapes Go.ChangeAt Go.RowKit
set_option linter.unusedVariables false
theorem ans_val (a b q m r : Int) (hb : b ≠ 0) (hq : a.tdiv b = q) (hr : a - q * b = r) (hm : q.tmod 2 = m) :
    ansI a b = (if (b.natAbs : Int) < 2 * (r.natAbs : Int) ∨ (2 * (r.natAbs : Int) = (b.natAbs : Int) ∧ m ≠ 0) then (if 0 < r then r - b.natAbs else r + b.natAbs) else r) ∧ (0 < r → 0 < a) ∧ (r < 0 → a < 0) ∧ r.natAbs < b.natAbs ∧ q.natAbs ≤ a.natAbs ∧ m.natAbs < 2 := by
  have e1 : r = a.tmod b := by
    have := Int.tmod_add_tdiv_mul a b
    rw [hq] at this
    omega
  have e2 : r.natAbs = a.natAbs % b.natAbs := by rw [e1, Int.natAbs_tmod]
  have e3 : q.natAbs = a.natAbs / b.natAbs := by rw [← hq, Int.natAbs_tdiv]; rfl
  have e4 : m.natAbs = a.natAbs / b.natAbs % 2 := by rw [← hm, Int.natAbs_tmod, e3]; rfl
  have hB : 0 < b.natAbs := by omega
  have hlt := Nat.mod_lt a.natAbs hB
  have s1 : 0 ≤ a → 0 ≤ r := fun h => by rw [e1]; exact Int.tmod_nonneg b h
  have s2 : a < 0 → r ≤ 0 := fun h => by
    rw [e1]
    have h2 := Int.neg_tmod a b
    have h3 : 0 ≤ (-a).tmod b := Int.tmod_nonneg b (by omega)
    omega
  have q1 : q.natAbs ≤ a.natAbs := by rw [e3]; exact Nat.div_le_self _ _
  have m1 : m.natAbs < 2 := by rw [e4]; exact Nat.mod_lt _ (by omega)
  have r1 : r.natAbs ≤ a.natAbs := by rw [e2]; exact Nat.mod_le _ _
  refine ⟨?_, by omega, by omega, by omega, q1, m1⟩
  unfold ansI near sgn
  rw [← e2, ← e4]
  have ho : (m ≠ 0) ↔ (m.natAbs = 1) := by omega
  simp only [ho]
  generalize m.natAbs = M at *
  by_cases h0 : a < 0
  · have := s2 h0
    simp only [h0, decide_true, if_true]
    have hp : ¬ 0 < r := by omega
    simp only [hp, if_false]
    split
    · rename_i hc
      rw [if_pos (by omega)]; omega
    · rename_i hc
      rw [if_neg (by omega)]; omega
  · have := s1 (by omega)
    simp only [h0, decide_false, Bool.false_eq_true, if_false]
    split
    · rename_i hc
      rw [if_pos (by omega), if_pos (by omega)]; omega
    · rename_i hc
      rw [if_neg (by omega)]; omega
theorem self_eq (x : Int) (h : x.natAbs < 2 ^ 53) : (FloatKind.f64.format.order (floatOfInt .f64 x) (floatOfInt .f64 x) == some .eq) = true := by
  obtain ⟨h1, h2⟩ := rE_ok x.natAbs h
  rw [ofInt_eq]
  have m := (wd_mod (decide (x < 0)) (rE x.natAbs) (lt63 h2)).1
  have hn : nanB (wd (decide (x < 0)) (rE x.natAbs)) = false := by unfold nanB; rw [m]; simp; omega
  rw [fmt_eq, ord_eq (wd_lt _ _ (lt63 h2)) (wd_lt _ _ (lt63 h2)) hn hn rfl]
  rfl
set_option maxHeartbeats 4000000 in
theorem law_di (a b : Int) (w : World) (a1 : -2147483648 ≤ a) (a2 : a ≤ 2147483647) (b1 : -2147483648 ≤ b) (b2 : b ≤ 2147483647) :
    Calls Try.prog 11 #[.int .i32 a, .int .i32 b] w fun e w' => e = .returned (.bool true) ∧ Below w.heap.size w w' := by
  by_cases hb : b = 0
  · have g0 : (b == 0) = true := by simp [hb]
    clear hb
    go_enter Try.func11, Try.ntmps11
    go_wp2_with fail
    go_ret
    exact ⟨rfl, Below.refl _ _⟩
  · have g0 : (b == 0) = false := by simp [hb]
    obtain ⟨q, hq⟩ : ∃ q, a.tdiv b = q := ⟨_, rfl⟩
    obtain ⟨p, hp⟩ : ∃ p, q * b = p := ⟨_, rfl⟩
    obtain ⟨r, hr⟩ : ∃ r, a - p = r := ⟨_, rfl⟩
    obtain ⟨m, hm⟩ : ∃ m, q.tmod 2 = m := ⟨_, rfl⟩
    obtain ⟨hS, r1, r2, r3, q3, m3⟩ := ans_val a b q m r hb hq (by rw [hp]; exact hr) hm
    have hc0 := drem_int a b w (by omega) (by omega) hb
    have HS := Lib.hid hS
    have HC := Lib.hid hc0
    have q1 : -2147483648 ≤ q := by omega
    have q2 : q ≤ 2147483648 := by omega
    have p1 : -4294967296 ≤ p := by omega
    have p2 : p ≤ 4294967296 := by omega
    have hb' : b ≠ 0 := hb
    clear hS hc0 hb q3
    have neg0 : ∀ W, Calls Try.prog 24 #[.float .f64 (wd (decide (a < 0)) 0)] W fun e w' => e = .returned (.bool (decide (a < 0))) ∧ W = w' := fun W => by
      have := zzNeg_any (wd (decide (a < 0)) 0) W (zero_facts _).1
      rw [negB_wd _ 0 (by rw [infRung_eq]; omega)] at this
      exact this
    have NEG := Lib.hid neg0
    clear neg0
    have bR : -2147483648 ≤ r ∧ r ≤ 2147483648 := by omega
    obtain ⟨bR1, bR2⟩ := bR
    by_cases bn : b < 0
    · obtain ⟨B, hB⟩ : ∃ B, -b = B := ⟨_, rfl⟩
      by_cases rn : r < 0
      · obtain ⟨R, hR⟩ : ∃ R, -r = R := ⟨_, rfl⟩
        by_cases c1 : B < 2 * R
        · have hE : ansI a b = r + B := by rw [HS.out]; rw [if_pos (by omega), if_neg (by omega)]; omega
          rw [hE] at HC
          have bE : (r + B).natAbs < 2 ^ 53 := by omega
          by_cases z0 : r + B = 0
          · have gz : (r + B == 0) = true := by simp; omega
            rw [if_pos z0] at HC
            have ozz := zero_self (decide (a < 0))
            have oz : (FloatKind.f64.format.order (wd (decide (a < 0)) 0) 0 == some .eq) = true := by rw [ozz]; rfl
            clear z0 hE bE ozz
            generalize wd (decide (a < 0)) 0 = z at HC oz NEG
            go_enter Try.func11, Try.ntmps11
            go_wp2_with (first | (go_at_call 19; ((with_reducible refine (HC.out).mono ?_); rintro e1 w1 ⟨rfl, rfl⟩)) | (go_at_call 24; ((with_reducible refine (NEG.out _).mono ?_); rintro e1 w1 ⟨rfl, rfl⟩)))
            all_goals
              go_ret
              exact ⟨by simp_all, Below.refl _ _⟩
          · have gz : (r + B == 0) = false := by simp; omega
            rw [if_neg z0] at HC
            have oz := self_eq (r + B) bE
            clear z0 hE bE
            go_enter Try.func11, Try.ntmps11
            go_wp2_with (first | (go_at_call 19; ((with_reducible refine (HC.out).mono ?_); rintro e1 w1 ⟨rfl, rfl⟩)) | (go_at_call 24; ((with_reducible refine (NEG.out _).mono ?_); rintro e1 w1 ⟨rfl, rfl⟩)))
            all_goals
              go_ret
              exact ⟨by simp_all, Below.refl _ _⟩
        · by_cases c2 : 2 * R = B
          · have gc : (2 * R == B) = true := by simp; omega
            by_cases c3 : m = 0
            · have gm : (m != 0) = false := by simp [c3]
              have hE : ansI a b = r := by rw [HS.out]; rw [if_neg (by omega)]
              rw [hE] at HC
              have bE : (r).natAbs < 2 ^ 53 := by omega
              by_cases z0 : r = 0
              · have gz : (r == 0) = true := by simp; omega
                rw [if_pos z0] at HC
                have ozz := zero_self (decide (a < 0))
                have oz : (FloatKind.f64.format.order (wd (decide (a < 0)) 0) 0 == some .eq) = true := by rw [ozz]; rfl
                clear z0 hE bE ozz
                generalize wd (decide (a < 0)) 0 = z at HC oz NEG
                go_enter Try.func11, Try.ntmps11
                go_wp2_with (first | (go_at_call 19; ((with_reducible refine (HC.out).mono ?_); rintro e1 w1 ⟨rfl, rfl⟩)) | (go_at_call 24; ((with_reducible refine (NEG.out _).mono ?_); rintro e1 w1 ⟨rfl, rfl⟩)))
                all_goals
                  go_ret
                  exact ⟨by simp_all, Below.refl _ _⟩
              · have gz : (r == 0) = false := by simp; omega
                rw [if_neg z0] at HC
                have oz := self_eq (r) bE
                clear z0 hE bE
                go_enter Try.func11, Try.ntmps11
                go_wp2_with (first | (go_at_call 19; ((with_reducible refine (HC.out).mono ?_); rintro e1 w1 ⟨rfl, rfl⟩)) | (go_at_call 24; ((with_reducible refine (NEG.out _).mono ?_); rintro e1 w1 ⟨rfl, rfl⟩)))
                all_goals
                  go_ret
                  exact ⟨by simp_all, Below.refl _ _⟩
            · have gm : (m != 0) = true := by simp [c3]
              have hE : ansI a b = r + B := by rw [HS.out]; rw [if_pos (by omega), if_neg (by omega)]; omega
              rw [hE] at HC
              have bE : (r + B).natAbs < 2 ^ 53 := by omega
              by_cases z0 : r + B = 0
              · have gz : (r + B == 0) = true := by simp; omega
                rw [if_pos z0] at HC
                have ozz := zero_self (decide (a < 0))
                have oz : (FloatKind.f64.format.order (wd (decide (a < 0)) 0) 0 == some .eq) = true := by rw [ozz]; rfl
                clear z0 hE bE ozz
                generalize wd (decide (a < 0)) 0 = z at HC oz NEG
                go_enter Try.func11, Try.ntmps11
                go_wp2_with (first | (go_at_call 19; ((with_reducible refine (HC.out).mono ?_); rintro e1 w1 ⟨rfl, rfl⟩)) | (go_at_call 24; ((with_reducible refine (NEG.out _).mono ?_); rintro e1 w1 ⟨rfl, rfl⟩)))
                all_goals
                  go_ret
                  exact ⟨by simp_all, Below.refl _ _⟩
              · have gz : (r + B == 0) = false := by simp; omega
                rw [if_neg z0] at HC
                have oz := self_eq (r + B) bE
                clear z0 hE bE
                go_enter Try.func11, Try.ntmps11
                go_wp2_with (first | (go_at_call 19; ((with_reducible refine (HC.out).mono ?_); rintro e1 w1 ⟨rfl, rfl⟩)) | (go_at_call 24; ((with_reducible refine (NEG.out _).mono ?_); rintro e1 w1 ⟨rfl, rfl⟩)))
                all_goals
                  go_ret
                  exact ⟨by simp_all, Below.refl _ _⟩
          · have gc : (2 * R == B) = false := by simp; omega
            have hE : ansI a b = r := by rw [HS.out]; rw [if_neg (by omega)]
            rw [hE] at HC
            have bE : (r).natAbs < 2 ^ 53 := by omega
            by_cases z0 : r = 0
            · have gz : (r == 0) = true := by simp; omega
              rw [if_pos z0] at HC
              have ozz := zero_self (decide (a < 0))
              have oz : (FloatKind.f64.format.order (wd (decide (a < 0)) 0) 0 == some .eq) = true := by rw [ozz]; rfl
              clear z0 hE bE ozz
              generalize wd (decide (a < 0)) 0 = z at HC oz NEG
              go_enter Try.func11, Try.ntmps11
              go_wp2_with (first | (go_at_call 19; ((with_reducible refine (HC.out).mono ?_); rintro e1 w1 ⟨rfl, rfl⟩)) | (go_at_call 24; ((with_reducible refine (NEG.out _).mono ?_); rintro e1 w1 ⟨rfl, rfl⟩)))
              all_goals
                go_ret
                exact ⟨by simp_all, Below.refl _ _⟩
            · have gz : (r == 0) = false := by simp; omega
              rw [if_neg z0] at HC
              have oz := self_eq (r) bE
              clear z0 hE bE
              go_enter Try.func11, Try.ntmps11
              go_wp2_with (first | (go_at_call 19; ((with_reducible refine (HC.out).mono ?_); rintro e1 w1 ⟨rfl, rfl⟩)) | (go_at_call 24; ((with_reducible refine (NEG.out _).mono ?_); rintro e1 w1 ⟨rfl, rfl⟩)))
              all_goals
                go_ret
                exact ⟨by simp_all, Below.refl _ _⟩
      · by_cases c1 : B < 2 * r
        · have hE : ansI a b = r - B := by rw [HS.out]; rw [if_pos (by omega), if_pos (by omega)]; omega
          rw [hE] at HC
          have bE : (r - B).natAbs < 2 ^ 53 := by omega
          by_cases z0 : r - B = 0
          · have gz : (r - B == 0) = true := by simp; omega
            rw [if_pos z0] at HC
            have ozz := zero_self (decide (a < 0))
            have oz : (FloatKind.f64.format.order (wd (decide (a < 0)) 0) 0 == some .eq) = true := by rw [ozz]; rfl
            clear z0 hE bE ozz
            generalize wd (decide (a < 0)) 0 = z at HC oz NEG
            go_enter Try.func11, Try.ntmps11
            go_wp2_with (first | (go_at_call 19; ((with_reducible refine (HC.out).mono ?_); rintro e1 w1 ⟨rfl, rfl⟩)) | (go_at_call 24; ((with_reducible refine (NEG.out _).mono ?_); rintro e1 w1 ⟨rfl, rfl⟩)))
            all_goals
              go_ret
              exact ⟨by simp_all, Below.refl _ _⟩
          · have gz : (r - B == 0) = false := by simp; omega
            rw [if_neg z0] at HC
            have oz := self_eq (r - B) bE
            clear z0 hE bE
            go_enter Try.func11, Try.ntmps11
            go_wp2_with (first | (go_at_call 19; ((with_reducible refine (HC.out).mono ?_); rintro e1 w1 ⟨rfl, rfl⟩)) | (go_at_call 24; ((with_reducible refine (NEG.out _).mono ?_); rintro e1 w1 ⟨rfl, rfl⟩)))
            all_goals
              go_ret
              exact ⟨by simp_all, Below.refl _ _⟩
        · by_cases c2 : 2 * r = B
          · have gc : (2 * r == B) = true := by simp; omega
            by_cases c3 : m = 0
            · have gm : (m != 0) = false := by simp [c3]
              have hE : ansI a b = r := by rw [HS.out]; rw [if_neg (by omega)]
              rw [hE] at HC
              have bE : (r).natAbs < 2 ^ 53 := by omega
              by_cases z0 : r = 0
              · have gz : (r == 0) = true := by simp; omega
                rw [if_pos z0] at HC
                have ozz := zero_self (decide (a < 0))
                have oz : (FloatKind.f64.format.order (wd (decide (a < 0)) 0) 0 == some .eq) = true := by rw [ozz]; rfl
                clear z0 hE bE ozz
                generalize wd (decide (a < 0)) 0 = z at HC oz NEG
                go_enter Try.func11, Try.ntmps11
                go_wp2_with (first | (go_at_call 19; ((with_reducible refine (HC.out).mono ?_); rintro e1 w1 ⟨rfl, rfl⟩)) | (go_at_call 24; ((with_reducible refine (NEG.out _).mono ?_); rintro e1 w1 ⟨rfl, rfl⟩)))
                all_goals
                  go_ret
                  exact ⟨by simp_all, Below.refl _ _⟩
              · have gz : (r == 0) = false := by simp; omega
                rw [if_neg z0] at HC
                have oz := self_eq (r) bE
                clear z0 hE bE
                go_enter Try.func11, Try.ntmps11
                go_wp2_with (first | (go_at_call 19; ((with_reducible refine (HC.out).mono ?_); rintro e1 w1 ⟨rfl, rfl⟩)) | (go_at_call 24; ((with_reducible refine (NEG.out _).mono ?_); rintro e1 w1 ⟨rfl, rfl⟩)))
                all_goals
                  go_ret
                  exact ⟨by simp_all, Below.refl _ _⟩
            · have gm : (m != 0) = true := by simp [c3]
              have hE : ansI a b = r - B := by rw [HS.out]; rw [if_pos (by omega), if_pos (by omega)]; omega
              rw [hE] at HC
              have bE : (r - B).natAbs < 2 ^ 53 := by omega
              by_cases z0 : r - B = 0
              · have gz : (r - B == 0) = true := by simp; omega
                rw [if_pos z0] at HC
                have ozz := zero_self (decide (a < 0))
                have oz : (FloatKind.f64.format.order (wd (decide (a < 0)) 0) 0 == some .eq) = true := by rw [ozz]; rfl
                clear z0 hE bE ozz
                generalize wd (decide (a < 0)) 0 = z at HC oz NEG
                go_enter Try.func11, Try.ntmps11
                go_wp2_with (first | (go_at_call 19; ((with_reducible refine (HC.out).mono ?_); rintro e1 w1 ⟨rfl, rfl⟩)) | (go_at_call 24; ((with_reducible refine (NEG.out _).mono ?_); rintro e1 w1 ⟨rfl, rfl⟩)))
                all_goals
                  go_ret
                  exact ⟨by simp_all, Below.refl _ _⟩
              · have gz : (r - B == 0) = false := by simp; omega
                rw [if_neg z0] at HC
                have oz := self_eq (r - B) bE
                clear z0 hE bE
                go_enter Try.func11, Try.ntmps11
                go_wp2_with (first | (go_at_call 19; ((with_reducible refine (HC.out).mono ?_); rintro e1 w1 ⟨rfl, rfl⟩)) | (go_at_call 24; ((with_reducible refine (NEG.out _).mono ?_); rintro e1 w1 ⟨rfl, rfl⟩)))
                all_goals
                  go_ret
                  exact ⟨by simp_all, Below.refl _ _⟩
          · have gc : (2 * r == B) = false := by simp; omega
            have hE : ansI a b = r := by rw [HS.out]; rw [if_neg (by omega)]
            rw [hE] at HC
            have bE : (r).natAbs < 2 ^ 53 := by omega
            by_cases z0 : r = 0
            · have gz : (r == 0) = true := by simp; omega
              rw [if_pos z0] at HC
              have ozz := zero_self (decide (a < 0))
              have oz : (FloatKind.f64.format.order (wd (decide (a < 0)) 0) 0 == some .eq) = true := by rw [ozz]; rfl
              clear z0 hE bE ozz
              generalize wd (decide (a < 0)) 0 = z at HC oz NEG
              go_enter Try.func11, Try.ntmps11
              go_wp2_with (first | (go_at_call 19; ((with_reducible refine (HC.out).mono ?_); rintro e1 w1 ⟨rfl, rfl⟩)) | (go_at_call 24; ((with_reducible refine (NEG.out _).mono ?_); rintro e1 w1 ⟨rfl, rfl⟩)))
              all_goals
                go_ret
                exact ⟨by simp_all, Below.refl _ _⟩
            · have gz : (r == 0) = false := by simp; omega
              rw [if_neg z0] at HC
              have oz := self_eq (r) bE
              clear z0 hE bE
              go_enter Try.func11, Try.ntmps11
              go_wp2_with (first | (go_at_call 19; ((with_reducible refine (HC.out).mono ?_); rintro e1 w1 ⟨rfl, rfl⟩)) | (go_at_call 24; ((with_reducible refine (NEG.out _).mono ?_); rintro e1 w1 ⟨rfl, rfl⟩)))
              all_goals
                go_ret
                exact ⟨by simp_all, Below.refl _ _⟩
    · by_cases rn : r < 0
      · obtain ⟨R, hR⟩ : ∃ R, -r = R := ⟨_, rfl⟩
        by_cases c1 : b < 2 * R
        · have hE : ansI a b = r + b := by rw [HS.out]; rw [if_pos (by omega), if_neg (by omega)]; omega
          rw [hE] at HC
          have bE : (r + b).natAbs < 2 ^ 53 := by omega
          by_cases z0 : r + b = 0
          · have gz : (r + b == 0) = true := by simp; omega
            rw [if_pos z0] at HC
            have ozz := zero_self (decide (a < 0))
            have oz : (FloatKind.f64.format.order (wd (decide (a < 0)) 0) 0 == some .eq) = true := by rw [ozz]; rfl
            clear z0 hE bE ozz
            generalize wd (decide (a < 0)) 0 = z at HC oz NEG
            go_enter Try.func11, Try.ntmps11
            go_wp2_with (first | (go_at_call 19; ((with_reducible refine (HC.out).mono ?_); rintro e1 w1 ⟨rfl, rfl⟩)) | (go_at_call 24; ((with_reducible refine (NEG.out _).mono ?_); rintro e1 w1 ⟨rfl, rfl⟩)))
            all_goals
              go_ret
              exact ⟨by simp_all, Below.refl _ _⟩
          · have gz : (r + b == 0) = false := by simp; omega
            rw [if_neg z0] at HC
            have oz := self_eq (r + b) bE
            clear z0 hE bE
            go_enter Try.func11, Try.ntmps11
            go_wp2_with (first | (go_at_call 19; ((with_reducible refine (HC.out).mono ?_); rintro e1 w1 ⟨rfl, rfl⟩)) | (go_at_call 24; ((with_reducible refine (NEG.out _).mono ?_); rintro e1 w1 ⟨rfl, rfl⟩)))
            all_goals
              go_ret
              exact ⟨by simp_all, Below.refl _ _⟩
        · by_cases c2 : 2 * R = b
          · have gc : (2 * R == b) = true := by simp; omega
            by_cases c3 : m = 0
            · have gm : (m != 0) = false := by simp [c3]
              have hE : ansI a b = r := by rw [HS.out]; rw [if_neg (by omega)]
              rw [hE] at HC
              have bE : (r).natAbs < 2 ^ 53 := by omega
              by_cases z0 : r = 0
              · have gz : (r == 0) = true := by simp; omega
                rw [if_pos z0] at HC
                have ozz := zero_self (decide (a < 0))
                have oz : (FloatKind.f64.format.order (wd (decide (a < 0)) 0) 0 == some .eq) = true := by rw [ozz]; rfl
                clear z0 hE bE ozz
                generalize wd (decide (a < 0)) 0 = z at HC oz NEG
                go_enter Try.func11, Try.ntmps11
                go_wp2_with (first | (go_at_call 19; ((with_reducible refine (HC.out).mono ?_); rintro e1 w1 ⟨rfl, rfl⟩)) | (go_at_call 24; ((with_reducible refine (NEG.out _).mono ?_); rintro e1 w1 ⟨rfl, rfl⟩)))
                all_goals
                  go_ret
                  exact ⟨by simp_all, Below.refl _ _⟩
              · have gz : (r == 0) = false := by simp; omega
                rw [if_neg z0] at HC
                have oz := self_eq (r) bE
                clear z0 hE bE
                go_enter Try.func11, Try.ntmps11
                go_wp2_with (first | (go_at_call 19; ((with_reducible refine (HC.out).mono ?_); rintro e1 w1 ⟨rfl, rfl⟩)) | (go_at_call 24; ((with_reducible refine (NEG.out _).mono ?_); rintro e1 w1 ⟨rfl, rfl⟩)))
                all_goals
                  go_ret
                  exact ⟨by simp_all, Below.refl _ _⟩
            · have gm : (m != 0) = true := by simp [c3]
              have hE : ansI a b = r + b := by rw [HS.out]; rw [if_pos (by omega), if_neg (by omega)]; omega
              rw [hE] at HC
              have bE : (r + b).natAbs < 2 ^ 53 := by omega
              by_cases z0 : r + b = 0
              · have gz : (r + b == 0) = true := by simp; omega
                rw [if_pos z0] at HC
                have ozz := zero_self (decide (a < 0))
                have oz : (FloatKind.f64.format.order (wd (decide (a < 0)) 0) 0 == some .eq) = true := by rw [ozz]; rfl
                clear z0 hE bE ozz
                generalize wd (decide (a < 0)) 0 = z at HC oz NEG
                go_enter Try.func11, Try.ntmps11
                go_wp2_with (first | (go_at_call 19; ((with_reducible refine (HC.out).mono ?_); rintro e1 w1 ⟨rfl, rfl⟩)) | (go_at_call 24; ((with_reducible refine (NEG.out _).mono ?_); rintro e1 w1 ⟨rfl, rfl⟩)))
                all_goals
                  go_ret
                  exact ⟨by simp_all, Below.refl _ _⟩
              · have gz : (r + b == 0) = false := by simp; omega
                rw [if_neg z0] at HC
                have oz := self_eq (r + b) bE
                clear z0 hE bE
                go_enter Try.func11, Try.ntmps11
                go_wp2_with (first | (go_at_call 19; ((with_reducible refine (HC.out).mono ?_); rintro e1 w1 ⟨rfl, rfl⟩)) | (go_at_call 24; ((with_reducible refine (NEG.out _).mono ?_); rintro e1 w1 ⟨rfl, rfl⟩)))
                all_goals
                  go_ret
                  exact ⟨by simp_all, Below.refl _ _⟩
          · have gc : (2 * R == b) = false := by simp; omega
            have hE : ansI a b = r := by rw [HS.out]; rw [if_neg (by omega)]
            rw [hE] at HC
            have bE : (r).natAbs < 2 ^ 53 := by omega
            by_cases z0 : r = 0
            · have gz : (r == 0) = true := by simp; omega
              rw [if_pos z0] at HC
              have ozz := zero_self (decide (a < 0))
              have oz : (FloatKind.f64.format.order (wd (decide (a < 0)) 0) 0 == some .eq) = true := by rw [ozz]; rfl
              clear z0 hE bE ozz
              generalize wd (decide (a < 0)) 0 = z at HC oz NEG
              go_enter Try.func11, Try.ntmps11
              go_wp2_with (first | (go_at_call 19; ((with_reducible refine (HC.out).mono ?_); rintro e1 w1 ⟨rfl, rfl⟩)) | (go_at_call 24; ((with_reducible refine (NEG.out _).mono ?_); rintro e1 w1 ⟨rfl, rfl⟩)))
              all_goals
                go_ret
                exact ⟨by simp_all, Below.refl _ _⟩
            · have gz : (r == 0) = false := by simp; omega
              rw [if_neg z0] at HC
              have oz := self_eq (r) bE
              clear z0 hE bE
              go_enter Try.func11, Try.ntmps11
              go_wp2_with (first | (go_at_call 19; ((with_reducible refine (HC.out).mono ?_); rintro e1 w1 ⟨rfl, rfl⟩)) | (go_at_call 24; ((with_reducible refine (NEG.out _).mono ?_); rintro e1 w1 ⟨rfl, rfl⟩)))
              all_goals
                go_ret
                exact ⟨by simp_all, Below.refl _ _⟩
      · by_cases c1 : b < 2 * r
        · have hE : ansI a b = r - b := by rw [HS.out]; rw [if_pos (by omega), if_pos (by omega)]; omega
          rw [hE] at HC
          have bE : (r - b).natAbs < 2 ^ 53 := by omega
          by_cases z0 : r - b = 0
          · have gz : (r - b == 0) = true := by simp; omega
            rw [if_pos z0] at HC
            have ozz := zero_self (decide (a < 0))
            have oz : (FloatKind.f64.format.order (wd (decide (a < 0)) 0) 0 == some .eq) = true := by rw [ozz]; rfl
            clear z0 hE bE ozz
            generalize wd (decide (a < 0)) 0 = z at HC oz NEG
            go_enter Try.func11, Try.ntmps11
            go_wp2_with (first | (go_at_call 19; ((with_reducible refine (HC.out).mono ?_); rintro e1 w1 ⟨rfl, rfl⟩)) | (go_at_call 24; ((with_reducible refine (NEG.out _).mono ?_); rintro e1 w1 ⟨rfl, rfl⟩)))
            all_goals
              go_ret
              exact ⟨by simp_all, Below.refl _ _⟩
          · have gz : (r - b == 0) = false := by simp; omega
            rw [if_neg z0] at HC
            have oz := self_eq (r - b) bE
            clear z0 hE bE
            go_enter Try.func11, Try.ntmps11
            go_wp2_with (first | (go_at_call 19; ((with_reducible refine (HC.out).mono ?_); rintro e1 w1 ⟨rfl, rfl⟩)) | (go_at_call 24; ((with_reducible refine (NEG.out _).mono ?_); rintro e1 w1 ⟨rfl, rfl⟩)))
            all_goals
              go_ret
              exact ⟨by simp_all, Below.refl _ _⟩
        · by_cases c2 : 2 * r = b
          · have gc : (2 * r == b) = true := by simp; omega
            by_cases c3 : m = 0
            · have gm : (m != 0) = false := by simp [c3]
              have hE : ansI a b = r := by rw [HS.out]; rw [if_neg (by omega)]
              rw [hE] at HC
              have bE : (r).natAbs < 2 ^ 53 := by omega
              by_cases z0 : r = 0
              · have gz : (r == 0) = true := by simp; omega
                rw [if_pos z0] at HC
                have ozz := zero_self (decide (a < 0))
                have oz : (FloatKind.f64.format.order (wd (decide (a < 0)) 0) 0 == some .eq) = true := by rw [ozz]; rfl
                clear z0 hE bE ozz
                generalize wd (decide (a < 0)) 0 = z at HC oz NEG
                go_enter Try.func11, Try.ntmps11
                go_wp2_with (first | (go_at_call 19; ((with_reducible refine (HC.out).mono ?_); rintro e1 w1 ⟨rfl, rfl⟩)) | (go_at_call 24; ((with_reducible refine (NEG.out _).mono ?_); rintro e1 w1 ⟨rfl, rfl⟩)))
                all_goals
                  go_ret
                  exact ⟨by simp_all, Below.refl _ _⟩
              · have gz : (r == 0) = false := by simp; omega
                rw [if_neg z0] at HC
                have oz := self_eq (r) bE
                clear z0 hE bE
                go_enter Try.func11, Try.ntmps11
                go_wp2_with (first | (go_at_call 19; ((with_reducible refine (HC.out).mono ?_); rintro e1 w1 ⟨rfl, rfl⟩)) | (go_at_call 24; ((with_reducible refine (NEG.out _).mono ?_); rintro e1 w1 ⟨rfl, rfl⟩)))
                all_goals
                  go_ret
                  exact ⟨by simp_all, Below.refl _ _⟩
            · have gm : (m != 0) = true := by simp [c3]
              have hE : ansI a b = r - b := by rw [HS.out]; rw [if_pos (by omega), if_pos (by omega)]; omega
              rw [hE] at HC
              have bE : (r - b).natAbs < 2 ^ 53 := by omega
              by_cases z0 : r - b = 0
              · have gz : (r - b == 0) = true := by simp; omega
                rw [if_pos z0] at HC
                have ozz := zero_self (decide (a < 0))
                have oz : (FloatKind.f64.format.order (wd (decide (a < 0)) 0) 0 == some .eq) = true := by rw [ozz]; rfl
                clear z0 hE bE ozz
                generalize wd (decide (a < 0)) 0 = z at HC oz NEG
                go_enter Try.func11, Try.ntmps11
                go_wp2_with (first | (go_at_call 19; ((with_reducible refine (HC.out).mono ?_); rintro e1 w1 ⟨rfl, rfl⟩)) | (go_at_call 24; ((with_reducible refine (NEG.out _).mono ?_); rintro e1 w1 ⟨rfl, rfl⟩)))
                all_goals
                  go_ret
                  exact ⟨by simp_all, Below.refl _ _⟩
              · have gz : (r - b == 0) = false := by simp; omega
                rw [if_neg z0] at HC
                have oz := self_eq (r - b) bE
                clear z0 hE bE
                go_enter Try.func11, Try.ntmps11
                go_wp2_with (first | (go_at_call 19; ((with_reducible refine (HC.out).mono ?_); rintro e1 w1 ⟨rfl, rfl⟩)) | (go_at_call 24; ((with_reducible refine (NEG.out _).mono ?_); rintro e1 w1 ⟨rfl, rfl⟩)))
                all_goals
                  go_ret
                  exact ⟨by simp_all, Below.refl _ _⟩
          · have gc : (2 * r == b) = false := by simp; omega
            have hE : ansI a b = r := by rw [HS.out]; rw [if_neg (by omega)]
            rw [hE] at HC
            have bE : (r).natAbs < 2 ^ 53 := by omega
            by_cases z0 : r = 0
            · have gz : (r == 0) = true := by simp; omega
              rw [if_pos z0] at HC
              have ozz := zero_self (decide (a < 0))
              have oz : (FloatKind.f64.format.order (wd (decide (a < 0)) 0) 0 == some .eq) = true := by rw [ozz]; rfl
              clear z0 hE bE ozz
              generalize wd (decide (a < 0)) 0 = z at HC oz NEG
              go_enter Try.func11, Try.ntmps11
              go_wp2_with (first | (go_at_call 19; ((with_reducible refine (HC.out).mono ?_); rintro e1 w1 ⟨rfl, rfl⟩)) | (go_at_call 24; ((with_reducible refine (NEG.out _).mono ?_); rintro e1 w1 ⟨rfl, rfl⟩)))
              all_goals
                go_ret
                exact ⟨by simp_all, Below.refl _ _⟩
            · have gz : (r == 0) = false := by simp; omega
              rw [if_neg z0] at HC
              have oz := self_eq (r) bE
              clear z0 hE bE
              go_enter Try.func11, Try.ntmps11
              go_wp2_with (first | (go_at_call 19; ((with_reducible refine (HC.out).mono ?_); rintro e1 w1 ⟨rfl, rfl⟩)) | (go_at_call 24; ((with_reducible refine (NEG.out _).mono ?_); rintro e1 w1 ⟨rfl, rfl⟩)))
              all_goals
                go_ret
                exact ⟨by simp_all, Below.refl _ _⟩
end Go.Proofs.Ytcpfnepkjbadjaa
