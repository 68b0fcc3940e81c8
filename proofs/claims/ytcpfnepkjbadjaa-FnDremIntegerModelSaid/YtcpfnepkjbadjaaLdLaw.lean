/- The walks of the four laws on ldexp: true at every input. -/
import Derived.Test.YtcpfnepkjbadjaaLdCon
namespace Go.Proofs.Ytcpfnepkjbadjaa
open Ieee
open Go.ChangeShapes Go.WideShapes Go.ChangeAt Go.RowKit
set_option linter.unusedVariables false
theorem ldW_fin {s : Bool} {r : Nat} (hr : r < double.infRung) (e : Int) : ldW (wd s r) e = wd s (rnE (U r) e) := by
  have hr3 : r < 2 ^ 63 := by rw [infRung_eq] at hr; omega
  unfold ldW
  rw [(wd_mod s r hr3).1]
  by_cases h0 : r = 0
  · rw [if_pos (.inl h0), h0, U_zero, rnE_zero]
  · rw [if_neg (by rintro (h | h); exact h0 h; omega)]
    have hd : decide (2 ^ 63 ≤ wd s r) = s := by
      show decide (2 ^ 63 ≤ (if s then 2 ^ 63 + r else r)) = s
      cases s <;> simp <;> omega
    rw [hd]
theorem ldW_inf (s : Bool) (e : Int) : ldW (wd s double.infRung) e = wd s double.infRung := by
  unfold ldW
  rw [(wd_mod s double.infRung (by rw [infRung_eq]; omega)).1, if_pos (.inr (Nat.le_refl _))]
theorem ldW_nan {x : Nat} (h : nanB x = true) (e : Int) : ldW x e = x := by
  unfold ldW
  rw [if_pos (.inr (by unfold nanB at h; simp at h; omega))]
theorem mul_inf (s : Bool) (k : Nat) (h1 : 1 ≤ k) (h2 : k ≤ 2046) : double.mul (wd s double.infRung) (pw k) = some (wd s double.infRung) := by
  have hk : k * 2 ^ 52 < double.infRung := by rw [infRung_eq]; omega
  have hr := read_fin false (k * 2 ^ 52) hk
  have hm : mg (k * 2 ^ 52) ≠ 0 := by unfold mg; split <;> omega
  unfold Format.mul
  rw [read_inf]
  show Option.map double.write (Datum.product (.infinity s) (double.read (wd false (k * 2 ^ 52)))) = _
  rw [hr]
  unfold Datum.product
  simp only [hm, if_false, Bool.xor_false, Option.map_some]
  rfl
theorem nan_op (op : BinOp) (t : TypeId) (x y : Nat) (h : floatBits op .f64 x y = none) (hop : op = .mul) (w : World) : ∃ z, z < 2 ^ 64 ∧ nanB z = true ∧ (binOp op t (.float .f64 x) (.float .f64 y)).run Try.prog w = .ok (.float .f64 z) w.drew := by
  subst hop
  have h : double.mul x y = none := h
  have h : FloatKind.f64.format.mul x y = none := h
  obtain ⟨t, ht⟩ : ∃ t, w.tape w.drawn (.nanBits .f64 x y) = t := ⟨_, rfl⟩
  have hc : (Question.nanBits .f64 x y).cut t = (t % 2) * 2 ^ 63 + 9218868437227405312 + 1 + (t / 2) % (2 ^ 52 - 1) := rfl
  have h1 : t % 2 < 2 := Nat.mod_lt _ (by omega)
  have h2 : (t / 2) % (2 ^ 52 - 1) < 2 ^ 52 - 1 := Nat.mod_lt _ (by omega)
  refine ⟨(Question.nanBits .f64 x y).cut t, ?_, ?_, ?_⟩
  · rw [hc]
    generalize t % 2 = a at h1 ⊢
    generalize (t / 2) % (2 ^ 52 - 1) = b at h2 ⊢
    omega
  · rw [hc]
    generalize t % 2 = a at h1 ⊢
    generalize (t / 2) % (2 ^ 52 - 1) = b at h2 ⊢
    unfold nanB
    rw [infRung_eq, decide_eq_true_eq]
    rcases (show a = 0 ∨ a = 1 by omega) with rfl | rfl <;> omega
  · simp [binOp, Op.floatArith, h, Question.forced, ht]
theorem mul_none {x : Nat} (hx : x < 2 ^ 64) (n : nanB x = true) (y : Nat) : double.mul x y = none := by
  obtain ⟨s, f, h⟩ := read_of_nan hx n
  unfold Format.mul
  rw [h]
  cases double.read y <;> rfl
theorem law_scale (x : Nat) (e : Int) (w : World) (hx : x < 2 ^ 64) :
    Calls Try.prog 3 #[.float .f64 x, .int .i64 e] w fun e' w' => e' = .returned (.bool true) ∧ Below w.heap.size w w' := by
  by_cases h1 : e < -1022
  · go_enter Try.func3, Try.ntmps3
    go_wp2_with fail
    go_ret
    exact ⟨rfl, Below.refl _ _⟩
  · by_cases h2 : 1023 < e
    · go_enter Try.func3, Try.ntmps3
      go_wp2_with fail
      go_ret
      exact ⟨rfl, Below.refl _ _⟩
    · have hz := Lib.hid (zz_any x (floatOfInt .f64 e) e w hx (ofInt_toInt e (by omega)) (by omega) (by omega))
      have hp := Lib.hid (pow2_any e w (by omega) (by omega))
      have hk1 : 1 ≤ (e + 1023).toNat := by omega
      have hk2 : (e + 1023).toNat ≤ 2046 := by omega
      cases hn : nanB x
      · have hmul : double.mul x (pw (e + 1023).toNat) = some (ldW x e) := by
          have ax : x % 2 ^ 63 ≤ double.infRung := by unfold nanB at hn; simpa using hn
          rw [wd_parts x hx]
          generalize decide (2 ^ 63 ≤ x) = s
          generalize x % 2 ^ 63 = r at ax
          rcases Nat.lt_or_ge r double.infRung with h | h
          · rw [ldW_fin h]
            exact mul_pow s r e h (by omega) (by omega)
          · obtain rfl : r = double.infRung := by omega
            rw [ldW_inf]
            exact mul_inf s _ hk1 hk2
        have hm : (binOp .mul 22 (.float .f64 x) (.float .f64 (pw (e + 1023).toNat))).run Try.prog w = .ok (.float .f64 (ldW x e)) w := run_float_arith w .mul _ .f64 _ _ _ hmul
        have hs := Lib.hid (sameF_eq (ldW x e) w (ldW_lt hx e))
        clear hmul hn hk1 hk2
        generalize pw (e + 1023).toNat = P at hp hm
        generalize ldW x e = z at hz hm hs
        go_enter Try.func3, Try.ntmps3
        go_wp2_with fail
        with_reducible refine (hz.out).mono ?_
        rintro e1 w1 ⟨rfl, rfl⟩
        go_wp2_with fail
        with_reducible refine (hp.out).mono ?_
        rintro e1 w1 ⟨rfl, rfl⟩
        go_wp2_with fail
        with_reducible refine (hs.out).mono ?_
        rintro e1 w1 ⟨rfl, rfl⟩
        go_wp2_with fail
        go_ret
        exact ⟨rfl, Below.refl _ _⟩
      · obtain ⟨z, hz1, hz2, hm⟩ := nan_op .mul 22 x (pw (e + 1023).toNat) (mul_none hx hn _) rfl w
        have hs := Lib.hid (sameF_nan x z w.drew hx hz1 hn hz2)
        rw [ldW_nan hn] at hz
        clear hn hk1 hk2 hz1 hz2
        generalize pw (e + 1023).toNat = P at hp hm
        go_enter Try.func3, Try.ntmps3
        go_wp2_with fail
        with_reducible refine (hz.out).mono ?_
        rintro e1 w1 ⟨rfl, rfl⟩
        go_wp2_with fail
        with_reducible refine (hp.out).mono ?_
        rintro e1 w1 ⟨rfl, rfl⟩
        go_wp2_with fail
        with_reducible refine (hs.out).mono ?_
        rintro e1 w1 ⟨rfl, rfl⟩
        go_wp2_with fail
        go_ret
        exact ⟨rfl, (Below.refl _ _).drew⟩
end Go.Proofs.Ytcpfnepkjbadjaa
