/- What math.Abs, IsInf, Copysign, normalize and ldexp do: contracts over the translated library. -/
import Derived.Test.YtcpfnepkjbadjaaFlWalks
import Derived.Test.YtcpfnepkjbadjaaLdPlain
import Derived.Laws.BitsAllLaws
import Derived.Laws.BitsLemmas
import Derived.IntWalk
namespace Go.Proofs.Ytcpfnepkjbadjaa
open Go.ChangeShapes Go.WideShapes Go.ChangeAt Go.RowKit
set_option linter.unusedVariables false
theorem ret_float {a b : Nat} (h : a = b) : Ending.returned (.float .f64 a) = .returned (.float .f64 b) := by rw [h]
theorem ofInt_i64 (a : Nat) (ha : a < 9223372036854775808) : (BitVec.ofInt 64 (a : Int)).toNat = a := by
  rw [BitVec.ofInt_natCast, BitVec.toNat_ofNat]; exact Nat.mod_eq_of_lt (by omega)
theorem i64_and_nat (a b : Nat) (ha : a < 9223372036854775808) (hb : b < 9223372036854775808) : bits .and .i64 (a : Int) (b : Int) = ((a &&& b : Nat) : Int) := by
  have hx : a &&& b < 2 ^ 63 := Nat.and_lt_two_pow _ (by omega)
  show IntKind.i64.wrap ((BitVec.ofInt 64 (a : Int) &&& BitVec.ofInt 64 (b : Int)).toNat : Int) = _
  rw [BitVec.toNat_and, ofInt_i64 a ha, ofInt_i64 b hb, IntKind.wrap_i64]
  omega
theorem abs_bits {x : Nat} (hx : x < 2 ^ 64) : bits .andNot .u64 (x : Int) 9223372036854775808 = ((x % 2 ^ 63 : Nat) : Int) := by
  have h := u64_andNot_nat x 9223372036854775808 (by omega) (by omega)
  rw [show ((9223372036854775808 : Nat) : Int) = 9223372036854775808 by rfl] at h
  rw [h]
  have e := Nat.and_two_pow_sub_one_eq_mod x 63
  rw [← e]
theorem sign_bits {x : Nat} (hx : x < 2 ^ 64) : bits .and .u64 (x : Int) 9223372036854775808 = ((x / 2 ^ 63 * 2 ^ 63 : Nat) : Int) := by
  have h := u64_and_nat x 9223372036854775808 (by omega) (by omega)
  rw [show ((9223372036854775808 : Nat) : Int) = 9223372036854775808 by rfl] at h
  rw [h]
  have e := nat_bit 63 x
  rw [show (2 : Nat) ^ 63 = 9223372036854775808 by rfl] at e ⊢
  rw [e, Nat.mod_eq_of_lt (show x / 9223372036854775808 < 2 by omega)]
theorem mask_bits (a : Nat) (ha : a < 9223372036854775808) : bits .and .i64 (a : Int) 2047 = ((a % 2048 : Nat) : Int) := by
  have h := i64_and_nat a 2047 ha (by omega)
  rw [show ((2047 : Nat) : Int) = 2047 by rfl] at h
  rw [h]
  have e := Nat.and_two_pow_sub_one_eq_mod a 11
  rw [show (2 : Nat) ^ 11 - 1 = 2047 by rfl, show (2 : Nat) ^ 11 = 2048 by rfl] at e
  rw [e]
/-- the exponent's bits cleared -/
theorem clear_bits {x : Nat} (hx : x < 2 ^ 64) : bits .andNot .u64 (x : Int) 9218868437227405312 = ((x / 2 ^ 63 * 2 ^ 63 + x % 2 ^ 52 : Nat) : Int) := by
  have h := u64_andNot_nat x 9218868437227405312 (by omega) (by omega)
  rw [show ((9218868437227405312 : Nat) : Int) = 9218868437227405312 by rfl] at h
  rw [h, show (18446744073709551615 - 9218868437227405312 : Nat) = 2 ^ 63 ||| (2 ^ 52 - 1) by decide, Nat.and_or_distrib_left, nat_bit 63 x, Nat.and_two_pow_sub_one_eq_mod x 52, Nat.mod_eq_of_lt (show x / 2 ^ 63 < 2 by omega)]
  rw [nat_join 63 _ _ (Nat.mul_mod_left _ _) (by omega)]
theorem set_bits (s E f : Nat) (hs : s < 2) (hE : E < 2048) (hf : f < 2 ^ 52) : bits .or .u64 ((s * 2 ^ 63 + f : Nat) : Int) ((E * 2 ^ 52 : Nat) : Int) = ((s * 2 ^ 63 + (E * 2 ^ 52 + f) : Nat) : Int) := by
  have h := u64_or_nat (s * 2 ^ 63 + f) (E * 2 ^ 52) (by omega) (by omega)
  rw [h]
  have e1 : s * 2 ^ 63 + f = s * 2 ^ 63 ||| f := (nat_join 63 _ _ (Nat.mul_mod_left _ _) (by omega)).symm
  rw [e1, Nat.or_assoc, Nat.or_comm f, nat_join 52 _ _ (Nat.mul_mod_left _ _) hf, nat_join 63 _ _ (Nat.mul_mod_left _ _) (by omega)]
theorem abs_any (x : Nat) (w : World) (hx : x < 2 ^ 64) : Calls Try.prog 47 #[.float .f64 x] w fun e w' => e = .returned (.float .f64 (x % 2 ^ 63)) ∧ w = w' := by
  have fb := from_bits
  have tb := to_bits
  have hb := abs_bits hx
  generalize x % 2 ^ 63 = y at hb ⊢
  go_enter Try.func47, Try.ntmps47
  go_wp2
  go_ret
  exact ⟨rfl, rfl⟩
/-- an infinity -/
def infB (x : Nat) : Bool := decide (x % 2 ^ 63 = Ieee.double.infRung)
theorem inf_test {x : Nat} (hx : x < 2 ^ 64) : (FloatKind.f64.format.order (x % 2 ^ 63) 9218868437227405311 == some .gt) = infB x := by
  rw [fmt_eq]
  have hy : x % 2 ^ 63 < 2 ^ 63 := Nat.mod_lt _ (by omega)
  have hm : x % 2 ^ 63 % 2 ^ 63 = x % 2 ^ 63 := Nat.mod_eq_of_lt hy
  have nm : nanB 9218868437227405311 = false := by unfold nanB; rw [infRung_eq]; rfl
  have vm : V 9218868437227405311 = 9218868437227405311 := rfl
  unfold infB
  cases hn : nanB (x % 2 ^ 63)
  · have hV : V (x % 2 ^ 63) = ((x % 2 ^ 63 : Nat) : Int) := by unfold V sn; rw [hm, decide_eq_false (by omega)]; rfl
    have hle : x % 2 ^ 63 ≤ 2047 * 2 ^ 52 := by unfold nanB at hn; rw [hm, infRung_eq] at hn; simpa using hn
    rw [infRung_eq]
    by_cases he : x % 2 ^ 63 = 2047 * 2 ^ 52
    · rw [ord_gt (by omega) (by omega) hn nm (by rw [hV, vm]; omega)]; simp [he]
    · rcases Int.lt_or_eq_of_le (show V (x % 2 ^ 63) ≤ V 9218868437227405311 by rw [hV, vm]; omega) with h | h
      · rw [ord_lt (by omega) (by omega) hn nm h]; simp [he]
      · rw [ord_eq (by omega) (by omega) hn nm h]; simp [he]
  · rw [ord_nan_left (by omega) hn]
    have hgt : 2047 * 2 ^ 52 < x % 2 ^ 63 := by unfold nanB at hn; rw [hm, infRung_eq] at hn; simpa using hn
    rw [infRung_eq]; simp; omega
theorem isInf_any (x : Nat) (w : World) (hx : x < 2 ^ 64) : Calls Try.prog 43 #[.float .f64 x, .int .i64 0] w fun e w' => e = .returned (.bool (infB x)) ∧ w = w' := by
  have ht := inf_test hx
  go_enter Try.func43, Try.ntmps43
  go_wp2_with (go_at_call 47; ((with_reducible refine (abs_any _ _ hx).mono ?_); rintro e w' ⟨rfl, rfl⟩))
  go_ret
  exact ⟨rfl, rfl⟩
theorem copysign_any (x y : Nat) (w : World) (hx : x < 2 ^ 64) (hy : y < 2 ^ 64) : Calls Try.prog 35 #[.float .f64 x, .float .f64 y] w fun e w' => e = .returned (.float .f64 (y / 2 ^ 63 * 2 ^ 63 + x % 2 ^ 63)) ∧ w = w' := by
  have fb := from_bits
  have tb := to_bits
  have h1 := abs_bits hx
  have h2 := sign_bits hy
  have h3 : bits .or .u64 ((x % 2 ^ 63 : Nat) : Int) ((y / 2 ^ 63 * 2 ^ 63 : Nat) : Int) = ((y / 2 ^ 63 * 2 ^ 63 + x % 2 ^ 63 : Nat) : Int) := by
    rw [u64_or_nat _ _ (by omega) (by omega), Nat.or_comm, nat_join 63 _ _ (Nat.mul_mod_left _ _) (by omega)]
  generalize y / 2 ^ 63 * 2 ^ 63 + x % 2 ^ 63 = z at h3 ⊢
  generalize x % 2 ^ 63 = a at h1 h3
  generalize y / 2 ^ 63 * 2 ^ 63 = b at h2 h3
  go_enter Try.func35, Try.ntmps35
  go_wp2
  go_ret
  exact ⟨rfl, rfl⟩
theorem zero_test {x : Nat} (hx : x < 2 ^ 64) (hz : x % 2 ^ 63 ≠ 0) : (FloatKind.f64.format.order x 0 == some .eq) = false := by
  rw [fmt_eq]
  cases hn : nanB x
  · rcases Int.lt_trichotomy (V x) 0 with h | h | h
    · rw [ord_lt hx (by omega) hn nan_zero h]; rfl
    · exfalso; rcases V_null hx h with h1 | h1 <;> subst h1 <;> simp at hz
    · rw [ord_gt hx (by omega) hn nan_zero h]; rfl
  · rw [ord_nan_left hx hn]; rfl
/-- the test for a number below the least normal one -/
theorem small_test {x : Nat} (hf : x % 2 ^ 63 < Ieee.double.infRung) : (FloatKind.f64.format.order (x % 2 ^ 63) 4503599627370496 == some .lt) = decide (x % 2 ^ 63 < 2 ^ 52) := by
  rw [fmt_eq]
  rw [infRung_eq] at hf
  have hm : x % 2 ^ 63 % 2 ^ 63 = x % 2 ^ 63 := Nat.mod_mod _ _
  have nm : nanB 4503599627370496 = false := by unfold nanB; rw [infRung_eq]; rfl
  have vm : V 4503599627370496 = 4503599627370496 := rfl
  have hn : nanB (x % 2 ^ 63) = false := by unfold nanB; rw [hm, infRung_eq]; simp; omega
  have hV : V (x % 2 ^ 63) = ((x % 2 ^ 63 : Nat) : Int) := by unfold V sn; rw [hm, decide_eq_false (by omega)]; rfl
  rcases Nat.lt_trichotomy (x % 2 ^ 63) (2 ^ 52) with h | h | h
  · rw [ord_lt (by omega) (by omega) hn nm (by rw [hV, vm]; omega)]; simp; omega
  · rw [ord_eq (by omega) (by omega) hn nm (by rw [hV, vm]; omega)]; simp; omega
  · rw [ord_gt (by omega) (by omega) hn nm (by rw [hV, vm]; omega)]; simp; omega
theorem wd_of {x : Nat} (hx : x < 2 ^ 64) : x = wd (decide (2 ^ 63 ≤ x)) (x % 2 ^ 63) := wd_parts x hx
theorem wd_lt (s : Bool) (r : Nat) (h : r < 2 ^ 63) : wd s r < 2 ^ 64 := by
  show (if s then 2 ^ 63 + r else r) < 2 ^ 64
  cases s <;> simp only [Bool.false_eq_true, if_false, if_true] <;> omega
theorem wd_mod (s : Bool) (r : Nat) (h : r < 2 ^ 63) : wd s r % 2 ^ 63 = r ∧ wd s r / 2 ^ 63 = s.toNat := by
  show (if s then 2 ^ 63 + r else r) % 2 ^ 63 = r ∧ (if s then 2 ^ 63 + r else r) / 2 ^ 63 = s.toNat
  cases s
  · simp only [Bool.false_eq_true, if_false, Bool.toNat_false]; omega
  · simp only [if_true, Bool.toNat_true]; omega
/-- what normalize hands back of a finite number that is not zero -/
def nrm (s : Bool) (r : Nat) : Nat × Int := if r < 2 ^ 52 then (wd s (rnE (U r) 52), -52) else (wd s r, 0)
theorem normalize_lo (x z : Nat) (w : World) (hx : x < 2 ^ 64) (hb : x % 2 ^ 63 < 2 ^ 52) (hmul : (binOp .mul 22 (.float .f64 x) (.float .f64 4841369599423283200)).run Try.prog w = .ok (.float .f64 z) w) :
    Calls Try.prog 44 #[.float .f64 x] w fun e w' => e = .returned (.tuple #[.float .f64 z, .int .i64 (-52)]) ∧ w = w' := by
  have ht : (FloatKind.f64.format.order (x % 2 ^ 63) 4503599627370496 == some .lt) = true := by rw [small_test (by rw [infRung_eq]; omega)]; simpa using hb
  have ha := Lib.hid (abs_any x w hx)
  generalize x % 2 ^ 63 = r at ht ha hb
  go_enter Try.func44, Try.ntmps44
  go_wp2_with (go_at_call 47; ((with_reducible refine (ha.out).mono ?_); rintro e w' ⟨rfl, rfl⟩))
  go_ret2
  exact ⟨rfl, rfl⟩
theorem normalize_hi (x : Nat) (w : World) (hx : x < 2 ^ 64) (hb : 2 ^ 52 ≤ x % 2 ^ 63) (hf : x % 2 ^ 63 < Ieee.double.infRung) :
    Calls Try.prog 44 #[.float .f64 x] w fun e w' => e = .returned (.tuple #[.float .f64 x, .int .i64 0]) ∧ w = w' := by
  have ht : (FloatKind.f64.format.order (x % 2 ^ 63) 4503599627370496 == some .lt) = false := by rw [small_test hf]; simp; omega
  have ha := Lib.hid (abs_any x w hx)
  generalize x % 2 ^ 63 = r at ht ha hb hf
  go_enter Try.func44, Try.ntmps44
  go_wp2_with (go_at_call 47; ((with_reducible refine (ha.out).mono ?_); rintro e w' ⟨rfl, rfl⟩))
  go_ret2
  exact ⟨rfl, rfl⟩
end Go.Proofs.Ytcpfnepkjbadjaa
