/- What IsNaN, the laws' own tests on floats and fmax, fmin do: contracts. -/
import Derived.Test.YtcpfnepkjbadjaaRows
import Derived.Test.YtcpfnepkjbadjaaFlOrd
import Derived.WalkKit
import Derived.ProofKit
import Derived.WalkSpells
import Derived.WalkLawsBesides
import Derived.Laws.FloatArith
import Derived.Lib.Hide
import Derived.LoopTactic
import Derived.Outline
namespace Go.Proofs.Ytcpfnepkjbadjaa
open Go.ChangeShapes Go.WideShapes Go.ChangeAt Go.RowKit
set_option linter.unusedVariables false
theorem ret_bool {a b : Bool} (h : a = b) : Ending.returned (.bool a) = .returned (.bool b) := by rw [h]
theorem wf_lt {x : Nat} (h : (Lit.float .f64 x).wf = true) : x < 2 ^ 64 := by simpa [Lit.wf] using h
theorem fmt_eq : FloatKind.f64.format = Ieee.double := rfl
theorem self_ord {x : Nat} (hx : x < 2 ^ 64) : (FloatKind.f64.format.order x x != some .eq) = nanB x := by
  rw [fmt_eq]
  cases h : nanB x
  · rw [ord_eq hx hx h h rfl]; rfl
  · rw [ord_nan_left hx h]; rfl
theorem from_bits (n : Int) (w : World) : (callFunc 39 #[.int .u64 n]).run Try.prog w = .ok (.value (.float .f64 n.toNat)) w := by kernel_rfl
theorem to_bits (n : Nat) (w : World) : (callFunc 42 #[.float .f64 n]).run Try.prog w = .ok (.value (.int .u64 n)) w := by kernel_rfl
/-- the word of the opposite number -/
def negW (x : Nat) : Nat := if 2 ^ 63 ≤ x then x - 2 ^ 63 else x + 2 ^ 63
theorem xor_low {x : Nat} (h : x < 2 ^ 63) : x ^^^ 2 ^ 63 = x + 2 ^ 63 := by
  have e := Nat.two_pow_add_eq_or_of_lt h 1
  rw [Nat.mul_one] at e
  rw [Nat.add_comm, e]
  apply Nat.eq_of_testBit_eq
  intro i
  rw [Nat.testBit_xor, Nat.testBit_or, Nat.testBit_two_pow]
  by_cases hi : 63 = i
  · subst hi; rw [Nat.testBit_lt_two_pow h]; simp
  · simp [hi]
theorem neg_eq {x : Nat} (hx : x < 2 ^ 64) : Op.negFloat .f64 x = negW x := by
  show x ^^^ 2 ^ 63 = negW x
  unfold negW
  by_cases h : 2 ^ 63 ≤ x
  · rw [if_pos h]
    have e := xor_low (x := x - 2 ^ 63) (by omega)
    have e2 : x = (x - 2 ^ 63) ^^^ 2 ^ 63 := by rw [e]; omega
    conv => lhs; rw [e2]
    rw [Nat.xor_assoc, Nat.xor_self, Nat.xor_zero]
  · rw [if_neg h]; exact xor_low (by omega)
theorem neg_run {x : Nat} (hx : x < 2 ^ 64) (w : World) : (Op.unary .neg (.float .f64 x)).run Try.prog w = .ok (.float .f64 (negW x)) w := by
  rw [← neg_eq hx]; rfl
theorem negW_lt {x : Nat} (hx : x < 2 ^ 64) : negW x < 2 ^ 64 := by unfold negW; split <;> omega
theorem negW_negW {x : Nat} (hx : x < 2 ^ 64) : negW (negW x) = x := by unfold negW; split <;> split <;> omega
theorem isNaN_any (x : Nat) (w : World) (hx : x < 2 ^ 64) : Calls Try.prog 36 #[.float .f64 x] w fun e w' => e = .returned (.bool (nanB x)) ∧ w = w' := by
  have h := self_ord hx
  go_enter Try.func36, Try.ntmps36
  go_wp2
  go_ret
  exact ⟨rfl, rfl⟩
theorem zzNaN_any (x : Nat) (w : World) (hx : x < 2 ^ 64) : Calls Try.prog 20 #[.float .f64 x] w fun e w' => e = .returned (.bool (nanB x)) ∧ w = w' := by
  have h := self_ord hx
  go_enter Try.func20, Try.ntmps20
  go_wp2
  go_ret
  exact ⟨rfl, rfl⟩
/-- negative, or the negative zero -/
def negB (x : Nat) : Bool := decide (2 ^ 63 ≤ x) && !nanB x
theorem V_zero : V 0 = 0 := rfl
theorem nan_zero : nanB 0 = false := by unfold nanB; rw [infRung_eq]; rfl
theorem V_neg {x : Nat} (hx : x < 2 ^ 64) : V x < 0 → 2 ^ 63 ≤ x := by
  intro h; unfold V sn at h
  by_cases h1 : 2 ^ 63 ≤ x
  · exact h1
  · simp only [h1, decide_false, Bool.false_eq_true, if_false] at h; omega
theorem V_pos {x : Nat} : 0 < V x → ¬ 2 ^ 63 ≤ x := by
  intro h h1; unfold V sn at h
  simp only [h1, decide_true, if_true] at h; omega
theorem V_null {x : Nat} (hx : x < 2 ^ 64) : V x = 0 → x = 0 ∨ x = 9223372036854775808 := by
  intro h; unfold V sn at h
  by_cases h1 : 2 ^ 63 ≤ x
  · simp only [h1, decide_true, if_true] at h; omega
  · simp only [h1, decide_false, Bool.false_eq_true, if_false] at h; omega
theorem one_over_zero (w : World) : (binOp .quo 22 (.float .f64 4607182418800017408) (.float .f64 0)).run Try.prog w = .ok (.float .f64 9218868437227405312) w :=
  run_float_arith w .quo 22 .f64 _ _ _ (by kernel_rfl)
theorem one_over_neg (w : World) : (binOp .quo 22 (.float .f64 4607182418800017408) (.float .f64 9223372036854775808)).run Try.prog w = .ok (.float .f64 18442240474082181120) w :=
  run_float_arith w .quo 22 .f64 _ _ _ (by kernel_rfl)
theorem inf_pos : FloatKind.f64.format.order 9218868437227405312 0 = some .gt := by kernel_rfl
theorem inf_neg : FloatKind.f64.format.order 18442240474082181120 0 = some .lt := by kernel_rfl
theorem zz_pos : FloatKind.f64.format.order 0 0 = some .eq := by kernel_rfl
theorem zz_neg : FloatKind.f64.format.order 9223372036854775808 0 = some .eq := by kernel_rfl
theorem zzNeg_any (x : Nat) (w : World) (hx : x < 2 ^ 64) : Calls Try.prog 24 #[.float .f64 x] w fun e w' => e = .returned (.bool (negB x)) ∧ w = w' := by
  have q1 := one_over_zero
  have q2 := one_over_neg
  have i1 := inf_pos
  have i2 := inf_neg
  have z1 := zz_pos
  have z2 := zz_neg
  cases hn : nanB x
  · rcases Int.lt_trichotomy (V x) 0 with h | h | h
    · have ho : FloatKind.f64.format.order x 0 = some .lt := ord_lt hx (by omega) hn nan_zero h
      have hb := V_neg hx h
      go_enter Try.func24, Try.ntmps24
      go_wp2
      go_ret
      exact ⟨ret_bool (by unfold negB; simp [hb, hn]), rfl⟩
    · rcases V_null hx h with rfl | rfl
      · clear h hn
        go_enter Try.func24, Try.ntmps24
        go_wp2
        go_ret
        exact ⟨ret_bool (by unfold negB; simp), rfl⟩
      · clear h
        go_enter Try.func24, Try.ntmps24
        go_wp2
        go_ret
        exact ⟨ret_bool (by unfold negB; simp [hn]), rfl⟩
    · have ho : FloatKind.f64.format.order x 0 = some .gt := ord_gt hx (by omega) hn nan_zero h
      have hb := V_pos h
      go_enter Try.func24, Try.ntmps24
      go_wp2
      go_ret
      exact ⟨ret_bool (by unfold negB; simp [hb]), rfl⟩
  · have ho : FloatKind.f64.format.order x 0 = none := ord_nan_left hx hn
    go_enter Try.func24, Try.ntmps24
    go_wp2
    go_ret
    exact ⟨ret_bool (by unfold negB; simp [hn]), rfl⟩
/-- both NaN, or one word -/
def sameB (x y : Nat) : Bool := if (nanB x || nanB y) = true then nanB x && nanB y else decide (x = y)
theorem sameB_nan {x y : Nat} (h : (nanB x || nanB y) = true) : sameB x y = (nanB x && nanB y) := by unfold sameB; rw [if_pos h]
theorem sameB_not {x y : Nat} (hx : nanB x = false) (hy : nanB y = false) : sameB x y = decide (x = y) := by unfold sameB; rw [if_neg (by simp [hx, hy])]
theorem zzSame_any (x y : Nat) (w : World) (hx : x < 2 ^ 64) (hy : y < 2 ^ 64) : Calls Try.prog 22 #[.float .f64 x, .float .f64 y] w fun e w' => e = .returned (.bool (sameB x y)) ∧ w = w' := by
  cases nx : nanB x
  · cases ny : nanB y
    · have HS := Lib.hid (sameB_not nx ny)
      by_cases hv : V x = V y
      · have ho : FloatKind.f64.format.order x y = some .eq := ord_eq hx hy nx ny hv
        have HV := Lib.hid hv
        clear hv
        go_enter Try.func22, Try.ntmps22
        go_wp2_with (first | (go_at_call 20; ((with_reducible refine (zzNaN_any _ _ (by assumption)).mono ?_); rintro e w' ⟨rfl, rfl⟩)) | (go_at_call 24; ((with_reducible refine (zzNeg_any _ _ (by assumption)).mono ?_); rintro e w' ⟨rfl, rfl⟩)))
        go_ret
        refine ⟨ret_bool ?_, rfl⟩
        rw [HS.out]
        unfold negB
        rw [nx, ny, Bool.eq_iff_iff]
        simp only [Bool.not_false, Bool.and_true, beq_iff_eq, decide_eq_decide, decide_eq_true_eq]
        exact ⟨fun h => V_inj hx hy HV.out h, fun h => by rw [h]⟩
      · have ho : (FloatKind.f64.format.order x y != some .eq) = true := by
          rw [fmt_eq, ord_ok hx hy nx ny]
          rcases Int.lt_trichotomy (V x) (V y) with h | h | h
          · rw [cmp_lt h]; rfl
          · exact absurd h hv
          · rw [cmp_gt h]; rfl
        have HV := Lib.hid hv
        clear hv
        go_enter Try.func22, Try.ntmps22
        go_wp2_with (first | (go_at_call 20; ((with_reducible refine (zzNaN_any _ _ (by assumption)).mono ?_); rintro e w' ⟨rfl, rfl⟩)) | (go_at_call 24; ((with_reducible refine (zzNeg_any _ _ (by assumption)).mono ?_); rintro e w' ⟨rfl, rfl⟩)))
        go_ret
        refine ⟨ret_bool ?_, rfl⟩
        rw [HS.out]
        symm; rw [decide_eq_false_iff_not]; intro h; exact HV.out (by rw [h])
    · have HS := Lib.hid (sameB_nan (x := x) (y := y) (by simp [ny]))
      go_enter Try.func22, Try.ntmps22
      go_wp2_with (first | (go_at_call 20; ((with_reducible refine (zzNaN_any _ _ (by assumption)).mono ?_); rintro e w' ⟨rfl, rfl⟩)) | (go_at_call 24; ((with_reducible refine (zzNeg_any _ _ (by assumption)).mono ?_); rintro e w' ⟨rfl, rfl⟩)))
      go_ret
      exact ⟨ret_bool (by rw [HS.out, nx]; rfl), rfl⟩
  · have HS := Lib.hid (sameB_nan (x := x) (y := y) (by simp [nx]))
    go_enter Try.func22, Try.ntmps22
    go_wp2_with (first | (go_at_call 20; ((with_reducible refine (zzNaN_any _ _ (by assumption)).mono ?_); rintro e w' ⟨rfl, rfl⟩)) | (go_at_call 24; ((with_reducible refine (zzNeg_any _ _ (by assumption)).mono ?_); rintro e w' ⟨rfl, rfl⟩)))
    go_ret
    exact ⟨ret_bool (by rw [HS.out, nx]; rfl), rfl⟩
/-- fmax on words -/
def fmaxW (x y : Nat) : Nat := if nanB x = true then y else if nanB y = true then x else if V x < V y then y else if V y < V x then x else if 2 ^ 63 ≤ x then y else x
def fminW (x y : Nat) : Nat := if nanB x = true then y else if nanB y = true then x else if V x < V y then x else if V y < V x then y else if 2 ^ 63 ≤ x then x else y
theorem dec_neg {x : Nat} (hx : x < 2 ^ 64) (n : nanB x = false) : (FloatKind.f64.decode x).neg = decide (2 ^ 63 ≤ x) := by
  have ax : x % 2 ^ 63 ≤ Ieee.double.infRung := by unfold nanB at n; simpa using n
  show (Ieee.double.read x).neg = _
  conv => lhs; rw [wd_parts x hx]
  rcases Nat.lt_or_ge (x % 2 ^ 63) Ieee.double.infRung with h | h
  · rw [read_fin _ _ h]; rfl
  · rw [show x % 2 ^ 63 = Ieee.double.infRung by omega, read_inf]; rfl
set_option maxHeartbeats 400000 in
theorem fmax_any (x y : Nat) (w : World) (hx : x < 2 ^ 64) (hy : y < 2 ^ 64) : Calls Try.prog 30 #[.float .f64 x, .float .f64 y] w fun e w' => e = .returned (.float .f64 (fmaxW x y)) ∧ w = w' := by
  generalize hR : fmaxW x y = R
  unfold fmaxW at hR
  cases nx : nanB x
  · cases ny : nanB y
    · rw [nx, ny, if_neg (by simp), if_neg (by simp)] at hR
      rcases Int.lt_trichotomy (V x) (V y) with h | h | h
      · rw [if_pos h] at hR
        subst hR
        have ho : FloatKind.f64.format.order x y = some .lt := ord_lt hx hy nx ny h
        have hmax : ∀ w, (Builtin.max_ #[22, 22] 22 #[.float .f64 x, .float .f64 y]).run Try.prog w = .ok (.float .f64 y) w := fun w => by simp [Builtin.max_, Builtin.max2, ho]
        go_enter Try.func30, Try.ntmps30
        go_wp2_with (go_at_call 36; ((with_reducible refine (isNaN_any _ _ (by assumption)).mono ?_); rintro e w' ⟨rfl, rfl⟩))
        go_ret
        exact ⟨rfl, rfl⟩
      · rw [if_neg (by omega), if_neg (by omega)] at hR
        have ho : FloatKind.f64.format.order x y = some .eq := ord_eq hx hy nx ny h
        have hd := dec_neg hx nx
        by_cases hb : 2 ^ 63 ≤ x
        · rw [if_pos hb] at hR
          subst hR
          have hmax : ∀ w, (Builtin.max_ #[22, 22] 22 #[.float .f64 x, .float .f64 y]).run Try.prog w = .ok (.float .f64 y) w := fun w => by simp [Builtin.max_, Builtin.max2, ho, hd, hb]
          clear hd h
          go_enter Try.func30, Try.ntmps30
          go_wp2_with (go_at_call 36; ((with_reducible refine (isNaN_any _ _ (by assumption)).mono ?_); rintro e w' ⟨rfl, rfl⟩))
          go_ret
          exact ⟨rfl, rfl⟩
        · rw [if_neg hb] at hR
          subst hR
          have hmax : ∀ w, (Builtin.max_ #[22, 22] 22 #[.float .f64 x, .float .f64 y]).run Try.prog w = .ok (.float .f64 x) w := fun w => by simp [Builtin.max_, Builtin.max2, ho, hd, hb]
          clear hd h
          go_enter Try.func30, Try.ntmps30
          go_wp2_with (go_at_call 36; ((with_reducible refine (isNaN_any _ _ (by assumption)).mono ?_); rintro e w' ⟨rfl, rfl⟩))
          go_ret
          exact ⟨rfl, rfl⟩
      · rw [if_neg (by omega), if_pos h] at hR
        subst hR
        have ho : FloatKind.f64.format.order x y = some .gt := ord_gt hx hy nx ny h
        have hmax : ∀ w, (Builtin.max_ #[22, 22] 22 #[.float .f64 x, .float .f64 y]).run Try.prog w = .ok (.float .f64 x) w := fun w => by simp [Builtin.max_, Builtin.max2, ho]
        go_enter Try.func30, Try.ntmps30
        go_wp2_with (go_at_call 36; ((with_reducible refine (isNaN_any _ _ (by assumption)).mono ?_); rintro e w' ⟨rfl, rfl⟩))
        go_ret
        exact ⟨rfl, rfl⟩
    · rw [nx, ny, if_neg (by simp), if_pos rfl] at hR
      subst hR
      go_enter Try.func30, Try.ntmps30
      go_wp2_with (go_at_call 36; ((with_reducible refine (isNaN_any _ _ (by assumption)).mono ?_); rintro e w' ⟨rfl, rfl⟩))
      go_ret
      exact ⟨rfl, rfl⟩
  · rw [nx, if_pos rfl] at hR
    subst hR
    go_enter Try.func30, Try.ntmps30
    go_wp2_with (go_at_call 36; ((with_reducible refine (isNaN_any _ _ (by assumption)).mono ?_); rintro e w' ⟨rfl, rfl⟩))
    go_ret
    exact ⟨rfl, rfl⟩
theorem zzfmax_any (x y : Nat) (w : World) (hx : x < 2 ^ 64) (hy : y < 2 ^ 64) : Calls Try.prog 25 #[.float .f64 x, .float .f64 y] w fun e w' => e = .returned (.float .f64 (fmaxW x y)) ∧ w = w' := by
  go_enter Try.func25, Try.ntmps25
  go_wp2_with (go_at_call 30; ((with_reducible refine (fmax_any _ _ _ (by assumption) (by assumption)).mono ?_); rintro e w' ⟨rfl, rfl⟩))
  go_ret
  exact ⟨rfl, rfl⟩
set_option maxHeartbeats 400000 in
theorem fmin_any (x y : Nat) (w : World) (hx : x < 2 ^ 64) (hy : y < 2 ^ 64) : Calls Try.prog 31 #[.float .f64 x, .float .f64 y] w fun e w' => e = .returned (.float .f64 (fminW x y)) ∧ w = w' := by
  generalize hR : fminW x y = R
  unfold fminW at hR
  cases nx : nanB x
  · cases ny : nanB y
    · rw [nx, ny, if_neg (by simp), if_neg (by simp)] at hR
      rcases Int.lt_trichotomy (V x) (V y) with h | h | h
      · rw [if_pos h] at hR
        subst hR
        have ho : FloatKind.f64.format.order x y = some .lt := ord_lt hx hy nx ny h
        have hmax : ∀ w, (Builtin.min_ #[22, 22] 22 #[.float .f64 x, .float .f64 y]).run Try.prog w = .ok (.float .f64 x) w := fun w => by simp [Builtin.min_, Builtin.min2, ho]
        go_enter Try.func31, Try.ntmps31
        go_wp2_with (go_at_call 36; ((with_reducible refine (isNaN_any _ _ (by assumption)).mono ?_); rintro e w' ⟨rfl, rfl⟩))
        go_ret
        exact ⟨rfl, rfl⟩
      · rw [if_neg (by omega), if_neg (by omega)] at hR
        have ho : FloatKind.f64.format.order x y = some .eq := ord_eq hx hy nx ny h
        have hd := dec_neg hx nx
        by_cases hb : 2 ^ 63 ≤ x
        · rw [if_pos hb] at hR
          subst hR
          have hmax : ∀ w, (Builtin.min_ #[22, 22] 22 #[.float .f64 x, .float .f64 y]).run Try.prog w = .ok (.float .f64 x) w := fun w => by simp [Builtin.min_, Builtin.min2, ho, hd, hb]
          clear hd h
          go_enter Try.func31, Try.ntmps31
          go_wp2_with (go_at_call 36; ((with_reducible refine (isNaN_any _ _ (by assumption)).mono ?_); rintro e w' ⟨rfl, rfl⟩))
          go_ret
          exact ⟨rfl, rfl⟩
        · rw [if_neg hb] at hR
          subst hR
          have hmax : ∀ w, (Builtin.min_ #[22, 22] 22 #[.float .f64 x, .float .f64 y]).run Try.prog w = .ok (.float .f64 y) w := fun w => by simp [Builtin.min_, Builtin.min2, ho, hd, hb]
          clear hd h
          go_enter Try.func31, Try.ntmps31
          go_wp2_with (go_at_call 36; ((with_reducible refine (isNaN_any _ _ (by assumption)).mono ?_); rintro e w' ⟨rfl, rfl⟩))
          go_ret
          exact ⟨rfl, rfl⟩
      · rw [if_neg (by omega), if_pos h] at hR
        subst hR
        have ho : FloatKind.f64.format.order x y = some .gt := ord_gt hx hy nx ny h
        have hmax : ∀ w, (Builtin.min_ #[22, 22] 22 #[.float .f64 x, .float .f64 y]).run Try.prog w = .ok (.float .f64 y) w := fun w => by simp [Builtin.min_, Builtin.min2, ho]
        go_enter Try.func31, Try.ntmps31
        go_wp2_with (go_at_call 36; ((with_reducible refine (isNaN_any _ _ (by assumption)).mono ?_); rintro e w' ⟨rfl, rfl⟩))
        go_ret
        exact ⟨rfl, rfl⟩
    · rw [nx, ny, if_neg (by simp), if_pos rfl] at hR
      subst hR
      go_enter Try.func31, Try.ntmps31
      go_wp2_with (go_at_call 36; ((with_reducible refine (isNaN_any _ _ (by assumption)).mono ?_); rintro e w' ⟨rfl, rfl⟩))
      go_ret
      exact ⟨rfl, rfl⟩
  · rw [nx, if_pos rfl] at hR
    subst hR
    go_enter Try.func31, Try.ntmps31
    go_wp2_with (go_at_call 36; ((with_reducible refine (isNaN_any _ _ (by assumption)).mono ?_); rintro e w' ⟨rfl, rfl⟩))
    go_ret
    exact ⟨rfl, rfl⟩
theorem zzfmin_any (x y : Nat) (w : World) (hx : x < 2 ^ 64) (hy : y < 2 ^ 64) : Calls Try.prog 26 #[.float .f64 x, .float .f64 y] w fun e w' => e = .returned (.float .f64 (fminW x y)) ∧ w = w' := by
  go_enter Try.func26, Try.ntmps26
  go_wp2_with (go_at_call 31; ((with_reducible refine (fmin_any _ _ _ (by assumption) (by assumption)).mono ?_); rintro e w' ⟨rfl, rfl⟩))
  go_ret
  exact ⟨rfl, rfl⟩
end Go.Proofs.Ytcpfnepkjbadjaa
