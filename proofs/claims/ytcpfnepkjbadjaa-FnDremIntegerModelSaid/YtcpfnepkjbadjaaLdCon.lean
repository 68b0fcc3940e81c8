/- math.Ldexp, funcLdexp, and the laws' own tests: contracts. -/
import Derived.Test.YtcpfnepkjbadjaaLdFin
import Derived.Test.YtcpfnepkjbadjaaLdCv
namespace Go.Proofs.Ytcpfnepkjbadjaa
open Ieee
open Go.ChangeShapes Go.WideShapes Go.ChangeAt Go.RowKit
set_option linter.unusedVariables false
/-- what ldexp gives -/
def ldW (x : Nat) (e : Int) : Nat := if x % 2 ^ 63 = 0 ∨ double.infRung ≤ x % 2 ^ 63 then x else wd (decide (2 ^ 63 ≤ x)) (rnE (U (x % 2 ^ 63)) e)
theorem ldW_lt {x : Nat} (hx : x < 2 ^ 64) (e : Int) : ldW x e < 2 ^ 64 := by
  unfold ldW
  split
  · exact hx
  · refine wd_lt _ _ ?_
    have := rnE_le (U (x % 2 ^ 63)) e
    rw [infRung_eq] at this
    omega
theorem zero_yes {x : Nat} (hx : x < 2 ^ 64) (h : x % 2 ^ 63 = 0) : (FloatKind.f64.format.order x 0 == some .eq) = true := by
  have hn : nanB x = false := by unfold nanB; rw [h, infRung_eq]; rfl
  have hV : V x = 0 := by unfold V sn; rw [h]; cases decide (2 ^ 63 ≤ x) <;> rfl
  rw [fmt_eq, ord_eq hx (by omega) hn nan_zero (by rw [hV, V_zero])]
  rfl
theorem ldexp_any (x : Nat) (e : Int) (w : World) (hx : x < 2 ^ 64) (h1 : -200000 ≤ e) (h2 : e ≤ 200000) :
    Calls Try.prog 38 #[.float .f64 x, .int .i64 e] w fun e' w' => e' = .returned (.float .f64 (ldW x e)) ∧ w = w' := by
  unfold ldW
  by_cases h0 : x % 2 ^ 63 = 0
  · rw [if_pos (.inl h0)]
    exact ldexp_zero x e w (zero_yes hx h0)
  · by_cases hi : double.infRung ≤ x % 2 ^ 63
    · rw [if_pos (.inr hi)]
      refine ldexp_odd x e w hx (zero_test hx h0) ?_
      unfold infB nanB
      simp
      omega
    · rw [if_neg (by rintro (h | h); exact h0 h; exact hi h)]
      have := ldexp_fin (decide (2 ^ 63 ≤ x)) (x % 2 ^ 63) e w (by omega) h0 h1 h2
      rw [← wd_parts x hx] at this
      exact this
theorem Ldexp_any (x : Nat) (e : Int) (w : World) (hx : x < 2 ^ 64) (h1 : -200000 ≤ e) (h2 : e ≤ 200000) :
    Calls Try.prog 32 #[.float .f64 x, .int .i64 e] w fun e' w' => e' = .returned (.float .f64 (ldW x e)) ∧ w = w' := by
  have hc := Lib.hid (ldexp_any x e w hx h1 h2)
  go_enter Try.func32, Try.ntmps32
  go_wp2_with (go_at_call 38; ((with_reducible refine (hc.out).mono ?_); rintro e' w' ⟨rfl, rfl⟩))
  go_ret
  exact ⟨rfl, rfl⟩
theorem func_any (x rb : Nat) (e : Int) (w : World) (hx : x < 2 ^ 64) (hr : floatToIntVal .f64 rb .i64 = some e) (h1 : -200000 ≤ e) (h2 : e ≤ 200000) :
    Calls Try.prog 27 #[.float .f64 x, .float .f64 rb] w fun e' w' => e' = .returned (.float .f64 (ldW x e)) ∧ w = w' := by
  have hc := Lib.hid (Ldexp_any x e w hx h1 h2)
  have hcv : ∀ W : World, (convert 22 3 (.float .f64 rb)).run Try.prog W = .ok (.int .i64 e) W := fun W => run_convert_float_int W 22 3 .f64 .i64 rb e (by rw [Try.underlying22]; rfl) Try.underlying3 hr
  clear hr
  go_enter Try.func27, Try.ntmps27
  go_wp2_with (go_at_call 32; ((with_reducible refine (hc.out).mono ?_); rintro e' w' ⟨rfl, rfl⟩))
  go_ret
  exact ⟨rfl, rfl⟩
theorem zz_any (x rb : Nat) (e : Int) (w : World) (hx : x < 2 ^ 64) (hr : floatToIntVal .f64 rb .i64 = some e) (h1 : -200000 ≤ e) (h2 : e ≤ 200000) :
    Calls Try.prog 13 #[.float .f64 x, .float .f64 rb] w fun e' w' => e' = .returned (.float .f64 (ldW x e)) ∧ w = w' := by
  have hc := Lib.hid (func_any x rb e w hx hr h1 h2)
  clear hr
  go_enter Try.func13, Try.ntmps13
  go_wp2_with (go_at_call 27; ((with_reducible refine (hc.out).mono ?_); rintro e' w' ⟨rfl, rfl⟩))
  go_ret
  exact ⟨rfl, rfl⟩
theorem sameF_nan (x y : Nat) (w : World) (hx : x < 2 ^ 64) (hy : y < 2 ^ 64) (nx : nanB x = true) (ny : nanB y = true) :
    Calls Try.prog 12 #[.float .f64 x, .float .f64 y] w fun e' w' => e' = .returned (.bool true) ∧ w = w' := by
  have h1 := self_ord hx
  have h2 := self_ord hy
  rw [nx] at h1
  rw [ny] at h2
  clear nx ny
  go_enter Try.func12, Try.ntmps12
  go_wp2
  go_ret
  exact ⟨rfl, rfl⟩
theorem sameF_eq (x : Nat) (w : World) (hx : x < 2 ^ 64) :
    Calls Try.prog 12 #[.float .f64 x, .float .f64 x] w fun e' w' => e' = .returned (.bool true) ∧ w = w' := by
  cases hn : nanB x
  · have h1 := self_ord hx
    rw [hn] at h1
    by_cases hz : x % 2 ^ 63 = 0
    · have q1 := one_over_zero
      have q2 := one_over_neg
      have i1 := inf_pos
      have i2 := inf_neg
      have z1 := zz_pos
      have z2 := zz_neg
      rcases (show x = 0 ∨ x = 9223372036854775808 by omega) with rfl | rfl
      · clear hn hz h1
        go_enter Try.func12, Try.ntmps12
        go_wp2
        go_ret
        exact ⟨rfl, rfl⟩
      · clear hn hz
        go_enter Try.func12, Try.ntmps12
        go_wp2
        go_ret
        exact ⟨rfl, rfl⟩
    · have h2 := zero_test hx hz
      clear hn hz
      go_enter Try.func12, Try.ntmps12
      go_wp2
      go_ret
      exact ⟨rfl, rfl⟩
  · exact sameF_nan x x w hx hx hn hn
/-- twice, and half, a power of two -/
theorem twice (k : Nat) (h1 : 1 ≤ k) (h2 : k ≤ 2045) : double.mul (k * 2 ^ 52) 4611686018427387904 = some ((k + 1) * 2 ^ 52) := by
  have hk : k * 2 ^ 52 < double.infRung := by rw [infRung_eq]; omega
  have := mul_pow false (k * 2 ^ 52) 1 hk (by omega) (by omega)
  have hU : U (k * 2 ^ 52) = 2 ^ 52 * 2 ^ (k - 1) := by
    unfold U
    rw [if_neg (by omega), Nat.mul_mod_left, Nat.mul_div_cancel _ (Nat.two_pow_pos 52), Nat.add_zero]
  have h3 := rnE_shift (2 ^ 52) (k - 1) k
  rw [show ((k : Nat) : Int) - ((k - 1 : Nat) : Int) = 1 by omega] at h3
  rw [hU, h3, rnE_normal _ _ (by omega) (by omega) (by omega) (by omega), Int.toNat_natCast] at this
  rw [show (k + 1) * 2 ^ 52 = k * 2 ^ 52 + 2 ^ 52 by omega]
  exact this
theorem halve (k : Nat) (h1 : 2 ≤ k) (h2 : k ≤ 2046) : double.mul (k * 2 ^ 52) 4602678819172646912 = some ((k - 1) * 2 ^ 52) := by
  have hk : k * 2 ^ 52 < double.infRung := by rw [infRung_eq]; omega
  have := mul_pow false (k * 2 ^ 52) (-1) hk (by omega) (by omega)
  have hU : U (k * 2 ^ 52) = 2 ^ 52 * 2 ^ (k - 1) := by
    unfold U
    rw [if_neg (by omega), Nat.mul_mod_left, Nat.mul_div_cancel _ (Nat.two_pow_pos 52), Nat.add_zero]
  have h3 := rnE_shift (2 ^ 52) (k - 1) ((k - 2 : Nat) : Int)
  rw [show ((k - 2 : Nat) : Int) - ((k - 1 : Nat) : Int) = -1 by omega] at h3
  rw [hU, h3, rnE_normal _ _ (by omega) (by omega) (by omega) (by omega), Int.toNat_natCast] at this
  rw [show (k - 1) * 2 ^ 52 = (k - 2) * 2 ^ 52 + 2 ^ 52 by omega]
  exact this
def pw (k : Nat) : Nat := k * 2 ^ 52
theorem pw_one : pw (1023 - 0) = 4607182418800017408 := by unfold pw; omega
theorem pow2_any (e : Int) (w : World) (h1 : -1022 ≤ e) (h2 : e ≤ 1023) :
    Calls Try.prog 14 #[.int .i64 e] w fun e' w' => e' = .returned (.float .f64 (pw (e + 1023).toNat)) ∧ w = w' := by
  by_cases he : 0 ≤ e
  · obtain ⟨n, rfl⟩ : ∃ n : Nat, e = n := ⟨e.toNat, by omega⟩
    go_enter Try.func14, Try.ntmps14
    go_wp2_with fail
    go_loop [3, 4] (fun p i => ∃ j : Nat, j ≤ n ∧ i = .int .i64 j ∧ p = .float .f64 (pw (1023 + j))) (fun _ i => n - (intOf i).toNat)
    case atStart => exact ⟨0, by omega, rfl, rfl⟩
    case round =>
      obtain ⟨j, hj, rfl, rfl⟩ := hrel
      by_cases hlt : j < n
      · have hm : ∀ W : World, (binOp .mul 22 (.float .f64 (pw (1023 + j))) (.float .f64 4611686018427387904)).run Try.prog W = .ok (.float .f64 (pw (1023 + (j + 1)))) W := fun W => run_float_arith W .mul _ .f64 _ _ _ (twice (1023 + j) (by omega) (by omega))
        go_wp2_with fail
        go_round
        case rel => exact ⟨j + 1, by omega, by go_num, congrArg (fun k => Value.float .f64 (pw k)) (by omega)⟩
        case measure => simp [intOf]; omega
      · have hz : pw (1023 + j) = pw ((n : Int) + 1023).toNat := by congr 1; omega
        have HZ := Lib.hid hz
        clear hz
        go_wp2_with fail
        go_ret
        exact ⟨by rw [HZ.out]; rfl, rfl⟩
  · obtain ⟨n, rfl⟩ : ∃ n : Nat, e = -(n : Int) := ⟨(-e).toNat, by omega⟩
    have hn0 : 0 < n := by omega
    go_enter Try.func14, Try.ntmps14
    go_wp2_with fail
    go_loop [3, 5] (fun p i => ∃ j : Nat, j ≤ n ∧ i = .int .i64 j ∧ p = .float .f64 (pw (1023 - j))) (fun _ i => n - (intOf i).toNat)
    case atStart => exact ⟨0, by omega, rfl, congrArg (Value.float .f64) pw_one.symm⟩
    case round =>
      obtain ⟨j, hj, rfl, rfl⟩ := hrel
      by_cases hlt : j < n
      · have hm : ∀ W : World, (binOp .mul 22 (.float .f64 (pw (1023 - j))) (.float .f64 4602678819172646912)).run Try.prog W = .ok (.float .f64 (pw (1023 - (j + 1)))) W := fun W => run_float_arith W .mul _ .f64 _ _ _ (halve (1023 - j) (by omega) (by omega))
        go_wp2_with fail
        go_round
        case rel => exact ⟨j + 1, by omega, by go_num, congrArg (fun k => Value.float .f64 (pw k)) (by omega)⟩
        case measure => simp [intOf]; omega
      · have hz : pw (1023 - j) = pw ((-(n : Int)) + 1023).toNat := by congr 1; omega
        have HZ := Lib.hid hz
        clear hz
        go_wp2_with fail
        go_ret
        exact ⟨by rw [HZ.out]; rfl, rfl⟩
end Go.Proofs.Ytcpfnepkjbadjaa
