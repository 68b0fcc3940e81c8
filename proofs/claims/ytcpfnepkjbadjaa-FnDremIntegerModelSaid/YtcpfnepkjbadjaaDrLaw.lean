/- The walk of FnDremSpecialCasesAndBound: true at every pair of words. -/
import Derived.Test.YtcpfnepkjbadjaaDrCon
namespace Go.Proofs.Ytcpfnepkjbadjaa
open Ieee
open Go.ChangeShapes Go.WideShapes Go.ChangeAt Go.RowKit
set_option linter.unusedVariables false
/-- the law's test for an infinity -/
theorem zzInf_c (x : Nat) (b : Bool) (w : World) (hx : x < 2 ^ 64) (hb : infB x = b) : Calls Try.prog 21 #[.float .f64 x] w fun e w' => e = .returned (.bool b) ∧ w = w' := by
  have nm : nanB 9218868437227405311 = false := by unfold nanB; rw [infRung_eq]; rfl
  have vm : V 9218868437227405311 = 9218868437227405311 := rfl
  have nn : nanB 18442240474082181119 = false := by unfold nanB; rw [infRung_eq]; rfl
  have vn : V 18442240474082181119 = -9218868437227405311 := rfl
  have key : (FloatKind.f64.format.order x 9218868437227405311 == some .gt || FloatKind.f64.format.order x 18442240474082181119 == some .lt) = b := by
    rw [← hb, fmt_eq]
    cases hn : nanB x
    · have ax : x % 2 ^ 63 ≤ double.infRung := by unfold nanB at hn; simpa using hn
      have hV : V x = sn (decide (2 ^ 63 ≤ x)) (x % 2 ^ 63) := rfl
      have c1 : (double.order x 9218868437227405311 == some .gt) = decide (9218868437227405311 < V x) := by
        rcases Int.lt_trichotomy (V x) 9218868437227405311 with h | h | h
        · rw [ord_lt hx (by omega) hn nm (by rw [vm]; exact h), decide_eq_false (by omega)]; rfl
        · rw [ord_eq hx (by omega) hn nm (by rw [vm]; exact h), decide_eq_false (by omega)]; rfl
        · rw [ord_gt hx (by omega) hn nm (by rw [vm]; exact h), decide_eq_true h]; rfl
      have c2 : (double.order x 18442240474082181119 == some .lt) = decide (V x < -9218868437227405311) := by
        rcases Int.lt_trichotomy (V x) (-9218868437227405311) with h | h | h
        · rw [ord_lt hx (by omega) hn nn (by rw [vn]; exact h), decide_eq_true h]; rfl
        · rw [ord_eq hx (by omega) hn nn (by rw [vn]; exact h), decide_eq_false (by omega)]; rfl
        · rw [ord_gt hx (by omega) hn nn (by rw [vn]; exact h), decide_eq_false (by omega)]; rfl
      rw [c1, c2, hV]
      unfold infB
      rw [infRung_eq] at ax ⊢
      unfold sn
      by_cases h1 : 2 ^ 63 ≤ x
      · simp only [h1, decide_true, if_true]
        rw [Bool.eq_iff_iff]; simp; omega
      · simp only [h1, decide_false, Bool.false_eq_true, if_false]
        rw [Bool.eq_iff_iff]; simp; omega
    · rw [ord_nan_left hx hn, ord_nan_left hx hn]
      unfold infB
      unfold nanB at hn
      simp at hn
      simp
      omega
  cases g1 : (FloatKind.f64.format.order x 9218868437227405311 == some .gt)
  · rw [g1, Bool.false_or] at key
    clear hb nm vm nn vn
    go_enter Try.func21, Try.ntmps21
    go_wp2
    all_goals
      go_ret
      exact ⟨by simp_all, rfl⟩
  · rw [g1, Bool.true_or] at key
    subst key
    clear hb nm vm nn vn
    go_enter Try.func21, Try.ntmps21
    go_wp2
    all_goals
      go_ret
      exact ⟨by simp_all, rfl⟩
theorem abs_word (s : Bool) (r : Nat) (w : World) (hr : r < double.infRung) : Calls Try.prog 23 #[.float .f64 (wd s r)] w fun e w' => e = .returned (.float .f64 (if r = 0 then wd s 0 else r)) ∧ w = w' := by
  by_cases h0 : r = 0
  · subst h0
    have h := zero_self s
    rw [if_pos rfl]
    generalize wd s 0 = x at h ⊢
    go_enter Try.func23, Try.ntmps23
    go_wp2
    go_ret
    exact ⟨rfl, rfl⟩
  · have h := order_neg s r hr h0
    have hn := fun W => neg_run (wd_lt s r (lt63 hr)) W
    rw [wd_neg s r (lt63 hr)] at hn
    rw [if_neg h0]
    cases s
    · rw [wd_f] at h ⊢
      clear hn h0
      go_enter Try.func23, Try.ntmps23
      go_wp2
      go_ret
      exact ⟨rfl, rfl⟩
    · rw [show (!true) = false by rfl, wd_f] at hn
      generalize wd true r = x at h hn ⊢
      clear h0
      go_enter Try.func23, Try.ntmps23
      go_wp2
      go_ret
      exact ⟨rfl, rfl⟩
/-- not a number in, or nothing to divide by: NaN -/
theorem rem_nan (x y : Nat) (w : World) (hx : x < 2 ^ 64) (hy : y < 2 ^ 64) (h : nanB x = true ∨ nanB y = true ∨ infB x = true ∨ y % 2 ^ 63 = 0) :
    Calls Try.prog 41 #[.float .f64 x, .float .f64 y] w fun e w' => e = .returned (.float .f64 9221120237041090561) ∧ w = w' := by
  have fb := from_bits
  have i1 := isNaN_any x w hx
  have i2 := isNaN_any y w hy
  have i3 := isInf_any x w hx
  cases h1 : nanB x
  · cases h2 : nanB y
    · cases h3 : infB x
      · have h4 : y % 2 ^ 63 = 0 := by rcases h with h | h | h | h <;> simp_all
        have hz := zero_yes hy h4
        rw [h1] at i1
        rw [h2] at i2
        rw [h3] at i3
        have a1 := Lib.hid i1
        have a2 := Lib.hid i2
        have a3 := Lib.hid i3
        clear i1 i2 i3 h h1 h2 h3 h4
        go_enter Try.func41, Try.ntmps41
        go_wp2_with (first | (go_at_call 36; (first | ((with_reducible refine (a1.out).mono ?_); rintro e w' ⟨rfl, rfl⟩) | ((with_reducible refine (a2.out).mono ?_); rintro e w' ⟨rfl, rfl⟩))) | (go_at_call 43; ((with_reducible refine (a3.out).mono ?_); rintro e w' ⟨rfl, rfl⟩)) | go_in)
        go_ret
        exact ⟨rfl, rfl⟩
      · rw [h1] at i1
        rw [h2] at i2
        rw [h3] at i3
        have a1 := Lib.hid i1
        have a2 := Lib.hid i2
        have a3 := Lib.hid i3
        clear i1 i2 i3 h h1 h2 h3
        go_enter Try.func41, Try.ntmps41
        go_wp2_with (first | (go_at_call 36; (first | ((with_reducible refine (a1.out).mono ?_); rintro e w' ⟨rfl, rfl⟩) | ((with_reducible refine (a2.out).mono ?_); rintro e w' ⟨rfl, rfl⟩))) | (go_at_call 43; ((with_reducible refine (a3.out).mono ?_); rintro e w' ⟨rfl, rfl⟩)) | go_in)
        go_ret
        exact ⟨rfl, rfl⟩
    · rw [h1] at i1
      rw [h2] at i2
      have a1 := Lib.hid i1
      have a2 := Lib.hid i2
      clear i1 i2 i3 h h1 h2
      go_enter Try.func41, Try.ntmps41
      go_wp2_with (first | (go_at_call 36; (first | ((with_reducible refine (a1.out).mono ?_); rintro e w' ⟨rfl, rfl⟩) | ((with_reducible refine (a2.out).mono ?_); rintro e w' ⟨rfl, rfl⟩))) | go_in)
      go_ret
      exact ⟨rfl, rfl⟩
  · rw [h1] at i1
    have a1 := Lib.hid i1
    clear i1 i2 i3 h h1
    go_enter Try.func41, Try.ntmps41
    go_wp2_with (first | (go_at_call 36; ((with_reducible refine (a1.out).mono ?_); rintro e w' ⟨rfl, rfl⟩)) | go_in)
    go_ret
    exact ⟨rfl, rfl⟩
theorem drem_nan (x y : Nat) (w : World) (hx : x < 2 ^ 64) (hy : y < 2 ^ 64) (h : nanB x = true ∨ nanB y = true ∨ infB x = true ∨ y % 2 ^ 63 = 0) :
    Calls Try.prog 19 #[.float .f64 x, .float .f64 y] w fun e w' => e = .returned (.float .f64 9221120237041090561) ∧ w = w' := by
  have hs : x / 2 ^ 63 * 2 ^ 63 = wd (decide (2 ^ 63 ≤ x)) 0 := by
    show _ = (if decide (2 ^ 63 ≤ x) then 2 ^ 63 + 0 else 0)
    by_cases hd : 2 ^ 63 ≤ x
    · simp only [hd, decide_true, if_true]; omega
    · simp only [hd, decide_false, Bool.false_eq_true, if_false]; omega
  have h1 := drem_of x y 9221120237041090561 (decide (2 ^ 63 ≤ x)) w hx (by omega) hs (rem_nan x y w hx hy h)
  rw [if_neg (by omega)] at h1
  exact h1
theorem rem_inf (x y : Nat) (w : World) (hx : x < 2 ^ 64) (hy : y < 2 ^ 64) (n1 : nanB x = false) (n2 : nanB y = false) (f1 : infB x = false) (f2 : infB y = true) (z : y % 2 ^ 63 ≠ 0) :
    Calls Try.prog 41 #[.float .f64 x, .float .f64 y] w fun e w' => e = .returned (.float .f64 x) ∧ w = w' := by
  have i1 := isNaN_any x w hx
  have i2 := isNaN_any y w hy
  have i3 := isInf_any x w hx
  have i4 := isInf_any y w hy
  have hz := zero_test hy z
  rw [n1] at i1
  rw [n2] at i2
  rw [f1] at i3
  rw [f2] at i4
  have a1 := Lib.hid i1
  have a2 := Lib.hid i2
  have a3 := Lib.hid i3
  have a4 := Lib.hid i4
  clear i1 i2 i3 i4 n1 n2 f1 f2 z
  go_enter Try.func41, Try.ntmps41
  go_wp2_with (first | (go_at_call 36; (first | ((with_reducible refine (a1.out).mono ?_); rintro e w' ⟨rfl, rfl⟩) | ((with_reducible refine (a2.out).mono ?_); rintro e w' ⟨rfl, rfl⟩))) | (go_at_call 43; (first | ((with_reducible refine (a3.out).mono ?_); rintro e w' ⟨rfl, rfl⟩) | ((with_reducible refine (a4.out).mono ?_); rintro e w' ⟨rfl, rfl⟩))))
  go_ret
  exact ⟨rfl, rfl⟩
theorem drem_inf (s : Bool) (r y : Nat) (w : World) (hr : r < double.infRung) (hy : y < 2 ^ 64) (n2 : nanB y = false) (f2 : infB y = true) (z : y % 2 ^ 63 ≠ 0) :
    Calls Try.prog 19 #[.float .f64 (wd s r), .float .f64 y] w fun e w' => e = .returned (.float .f64 (wd s r)) ∧ w = w' := by
  have hx := wd_lt s r (lt63 hr)
  have m := (wd_mod s r (lt63 hr)).1
  have h := drem_of (wd s r) y (wd s r) s w hx hx (sgn_div s r hr) (rem_inf (wd s r) y w hx hy (by unfold nanB; rw [m]; simp; omega) n2 (by unfold infB; rw [m]; simp; omega) f2 z)
  rw [m] at h
  by_cases h0 : r = 0
  · subst h0; rw [if_pos rfl] at h; exact h
  · rw [if_neg h0] at h; exact h
end Go.Proofs.Ytcpfnepkjbadjaa
