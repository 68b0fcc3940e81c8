/- Plain facts on float64 words: reading, comparing, multiplying, adding. No program in sight. -/
import Derived.Test.YtcpfnepkjbadjaaFl
namespace Go.Proofs.Ytcpfnepkjbadjaa
open Ieee
/-- a word out of its sign and its rung -/
abbrev wd (s : Bool) (r : Nat) : Nat := double.word s r
theorem wd_parts (x : Nat) (h : x < 2 ^ 64) : x = wd (decide (2 ^ 63 ≤ x)) (x % 2 ^ 63) := by
  show x = (if decide (2 ^ 63 ≤ x) then 2 ^ 63 + x % 2 ^ 63 else x % 2 ^ 63)
  by_cases hx : 2 ^ 63 ≤ x
  · simp only [hx, decide_true, if_true]; omega
  · simp only [hx, decide_false, Bool.false_eq_true, if_false]; omega
theorem signWeight_eq : double.signWeight = 2 ^ 63 := rfl
theorem wd_div (s : Bool) (r : Nat) (h : r < 2 ^ 63) : (wd s r / double.signWeight % 2 == 1) = s ∧ wd s r % double.signWeight = r := by
  rw [signWeight_eq]
  show ((if s then 2 ^ 63 + r else r) / 2 ^ 63 % 2 == 1) = s ∧ (if s then 2 ^ 63 + r else r) % 2 ^ 63 = r
  cases s
  · simp only [Bool.false_eq_true, if_false]
    exact ⟨by rw [beq_eq_false_iff_ne]; omega, by omega⟩
  · simp only [if_true]
    exact ⟨by rw [beq_iff_eq]; omega, by omega⟩
theorem binade_eq : double.binade = 2 ^ 52 := rfl
/-- a finite rung's digits -/
def mg (r : Nat) : Nat := if r < 2 ^ 52 then r else 2 ^ 52 + r % 2 ^ 52
/-- and how many places they stand above the least -/
def pl (r : Nat) : Nat := if r < 2 ^ 52 then 0 else r / 2 ^ 52 - 1
theorem U_eq (r : Nat) : U r = mg r * 2 ^ pl r := by
  unfold U mg pl; split <;> simp
theorem read_fin (s : Bool) (r : Nat) (h : r < double.infRung) : double.read (wd s r) = .number s (mg r) (-1074 + (pl r : Int)) := by
  have hr : r < 2 ^ 63 := by rw [infRung_eq] at h; omega
  obtain ⟨h1, h2⟩ := wd_div s r hr
  unfold Format.read
  simp only [h1, h2, binade_eq]
  unfold mg pl
  by_cases hb : r < 2 ^ 52
  · rw [if_pos hb, if_pos hb, if_pos hb]; rfl
  · rw [if_neg hb, if_pos h, if_neg hb, if_neg hb]; rfl
theorem read_inf (s : Bool) : double.read (wd s double.infRung) = .infinity s := by
  obtain ⟨h1, h2⟩ := wd_div s double.infRung (by rw [infRung_eq]; omega)
  unfold Format.read
  simp only [h1, h2]
  rw [if_neg (by rw [infRung_eq, binade_eq]; omega), if_neg (Nat.lt_irrefl _), if_pos trivial]
theorem read_nan (s : Bool) (r : Nat) (h : double.infRung < r) (h2 : r < 2 ^ 63) : double.read (wd s r) = .nan s (r - double.infRung) := by
  obtain ⟨h1, h3⟩ := wd_div s r h2
  unfold Format.read
  simp only [h1, h3]
  rw [infRung_eq] at h
  rw [if_neg (by rw [binade_eq]; omega), if_neg (by rw [infRung_eq]; omega), if_neg (by rw [infRung_eq]; omega)]
/-- a sign and a number of units, as an integer -/
def sn (s : Bool) (n : Nat) : Int := if s then -(n : Int) else (n : Int)
theorem signed_eq (s : Bool) (m k : Nat) : signed s m k = sn s (m * 2 ^ k) := by unfold signed sn; rw [Nat.shiftLeft_eq]
theorem sn_scale (s : Bool) (m k : Nat) : sn s (m * 2 ^ k) = sn s m * ((2 ^ k : Nat) : Int) := by
  unfold sn; cases s
  · simp
  · simp [Int.neg_mul]
theorem cmp_lt {a b : Int} (h : a < b) : compare a b = .lt := by show compareOfLessAndEq a b = _; simp [compareOfLessAndEq, h]
theorem cmp_gt {a b : Int} (h : b < a) : compare a b = .gt := by show compareOfLessAndEq a b = _; simp [compareOfLessAndEq, show ¬ a < b by omega, show ¬ a = b by omega]
theorem cmp_eq {a b : Int} (h : a = b) : compare a b = .eq := by subst h; show compareOfLessAndEq a a = _; simp [compareOfLessAndEq]
theorem cmp_scale (a b : Int) (c : Nat) (h : 0 < c) : compare (a * (c : Int)) (b * (c : Int)) = compare a b := by
  have hc : (0 : Int) < (c : Int) := by omega
  rcases Int.lt_trichotomy a b with h1 | h1 | h1
  · have h2 := Int.mul_lt_mul_of_pos_right h1 hc
    rw [cmp_lt h1, cmp_lt h2]
  · subst h1; rw [cmp_eq rfl, cmp_eq rfl]
  · have h2 := Int.mul_lt_mul_of_pos_right h1 hc
    rw [cmp_gt h1, cmp_gt h2]
theorem order_fin (s t : Bool) (a b : Nat) (ha : a < double.infRung) (hb : b < double.infRung) : double.order (wd s a) (wd t b) = some (compare (sn s (U a)) (sn t (U b))) := by
  unfold Format.order
  rw [read_fin s a ha, read_fin t b hb]
  unfold Datum.order
  simp only [signed_eq]
  congr 1
  rw [U_eq a, U_eq b]
  rcases Nat.le_total (pl a) (pl b) with h | h
  · rw [show min (-1074 + (pl a : Int)) (-1074 + (pl b : Int)) = -1074 + (pl a : Int) by omega]
    rw [show (-1074 + (pl a : Int) - (-1074 + (pl a : Int))).toNat = 0 by omega, show (-1074 + (pl b : Int) - (-1074 + (pl a : Int))).toNat = pl b - pl a by omega]
    have e : mg b * 2 ^ pl b = mg b * 2 ^ (pl b - pl a) * 2 ^ pl a := by rw [Nat.mul_assoc, ← Nat.pow_add, Nat.sub_add_cancel h]
    rw [e, sn_scale s (mg a) (pl a), sn_scale t _ (pl a), cmp_scale _ _ _ (Nat.two_pow_pos _), Nat.pow_zero, Nat.mul_one]
  · rw [show min (-1074 + (pl a : Int)) (-1074 + (pl b : Int)) = -1074 + (pl b : Int) by omega]
    rw [show (-1074 + (pl b : Int) - (-1074 + (pl b : Int))).toNat = 0 by omega, show (-1074 + (pl a : Int) - (-1074 + (pl b : Int))).toNat = pl a - pl b by omega]
    have e : mg a * 2 ^ pl a = mg a * 2 ^ (pl a - pl b) * 2 ^ pl b := by rw [Nat.mul_assoc, ← Nat.pow_add, Nat.sub_add_cancel h]
    rw [e, sn_scale s _ (pl b), sn_scale t (mg b) (pl b), cmp_scale _ _ _ (Nat.two_pow_pos _), Nat.pow_zero, Nat.mul_one]
theorem rn_shift (M p K : Nat) : rn (M * 2 ^ p) K = rn (M * 2 ^ (p - K)) (K - p) := by
  rcases Nat.le_total p K with h | h
  · have := rn_scale M (K - p) p
    rw [Nat.sub_add_cancel h] at this
    rw [this, show p - K = 0 by omega, Nat.pow_zero, Nat.mul_one]
  · have := rn_scale (M * 2 ^ (p - K)) 0 K
    rw [Nat.mul_assoc, ← Nat.pow_add, Nat.sub_add_cancel h, Nat.zero_add] at this
    rw [this, show K - p = 0 by omega]
theorem mul_fin (s t : Bool) (a b : Nat) (ha : a < double.infRung) (hb : b < double.infRung) : double.mul (wd s a) (wd t b) = some (wd (s ^^ t) (rn (U a * U b) 1074)) := by
  unfold Format.mul
  rw [read_fin s a ha, read_fin t b hb]
  show some (double.nearest (s ^^ t) (mg a * mg b) (-1074 + (pl a : Int) + (-1074 + (pl b : Int)))) = _
  rw [nearest_rn, U_eq a, U_eq b]
  congr 2
  have e : mg a * 2 ^ pl a * (mg b * 2 ^ pl b) = mg a * mg b * 2 ^ (pl a + pl b) := by
    rw [Nat.pow_add]; rw [Nat.mul_mul_mul_comm]
  rw [e]
  rw [show (-1074 + (pl a : Int) + (-1074 + (pl b : Int)) + 1074).toNat = pl a + pl b - 1074 by omega, show (-1074 - (-1074 + (pl a : Int) + (-1074 + (pl b : Int)))).toNat = 1074 - (pl a + pl b) by omega]
  exact (rn_shift _ _ _).symm
theorem sum_fin (s t : Bool) (a b : Nat) : Datum.sum (.number s (mg a) (-1074 + (pl a : Int))) (.number t (mg b) (-1074 + (pl b : Int))) =
    some (.number (if sn s (U a) + sn t (U b) = 0 then s && t else decide (sn s (U a) + sn t (U b) < 0)) (signed s (mg a) (pl a - min (pl a) (pl b)) + signed t (mg b) (pl b - min (pl a) (pl b))).natAbs (-1074 + ((min (pl a) (pl b) : Nat) : Int))) := by
  unfold Datum.sum
  have e0 : min (-1074 + (pl a : Int)) (-1074 + (pl b : Int)) = -1074 + ((min (pl a) (pl b) : Nat) : Int) := by omega
  simp only [e0]
  have e1 : (-1074 + (pl a : Int) - (-1074 + ((min (pl a) (pl b) : Nat) : Int))).toNat = pl a - min (pl a) (pl b) := by omega
  have e2 : (-1074 + (pl b : Int) - (-1074 + ((min (pl a) (pl b) : Nat) : Int))).toNat = pl b - min (pl a) (pl b) := by omega
  rw [e1, e2]
  have k : sn s (U a) + sn t (U b) = (signed s (mg a) (pl a - min (pl a) (pl b)) + signed t (mg b) (pl b - min (pl a) (pl b))) * ((2 ^ min (pl a) (pl b) : Nat) : Int) := by
    rw [signed_eq, signed_eq, Int.add_mul, ← sn_scale, ← sn_scale, Nat.mul_assoc, Nat.mul_assoc, ← Nat.pow_add, ← Nat.pow_add, Nat.sub_add_cancel (Nat.min_le_left _ _), Nat.sub_add_cancel (Nat.min_le_right _ _), U_eq, U_eq]
  have hp : (0 : Int) < ((2 ^ min (pl a) (pl b) : Nat) : Int) := by have := Nat.two_pow_pos (min (pl a) (pl b)); omega
  generalize signed s (mg a) (pl a - min (pl a) (pl b)) + signed t (mg b) (pl b - min (pl a) (pl b)) = T at k ⊢
  have z : (sn s (U a) + sn t (U b) = 0) ↔ (T = 0) := by
    rw [k]; constructor
    · intro h; rcases Int.mul_eq_zero.1 h with h | h; exact h; omega
    · intro h; rw [h]; simp
  have n : (sn s (U a) + sn t (U b) < 0) ↔ (T < 0) := by
    rw [k]; constructor
    · intro h; rcases Int.lt_or_le T 0 with h1 | h1; exact h1; have := Int.mul_nonneg h1 (Int.le_of_lt hp); omega
    · intro h; exact Int.mul_neg_of_neg_of_pos h hp
  simp only [z, n]
theorem add_fin (s t : Bool) (a b : Nat) (ha : a < double.infRung) (hb : b < double.infRung) :
    double.add (wd s a) (wd t b) = some (wd (if sn s (U a) + sn t (U b) = 0 then s && t else decide (sn s (U a) + sn t (U b) < 0)) (rn (sn s (U a) + sn t (U b)).natAbs 0)) := by
  unfold Format.add
  rw [read_fin s a ha, read_fin t b hb, sum_fin]
  show some (double.nearest _ _ _) = _
  rw [nearest_rn]
  congr 2
  have k : sn s (U a) + sn t (U b) = (signed s (mg a) (pl a - min (pl a) (pl b)) + signed t (mg b) (pl b - min (pl a) (pl b))) * ((2 ^ min (pl a) (pl b) : Nat) : Int) := by
    rw [signed_eq, signed_eq, Int.add_mul, ← sn_scale, ← sn_scale, Nat.mul_assoc, Nat.mul_assoc, ← Nat.pow_add, ← Nat.pow_add, Nat.sub_add_cancel (Nat.min_le_left _ _), Nat.sub_add_cancel (Nat.min_le_right _ _), U_eq, U_eq]
  rw [k, Int.natAbs_mul, Int.natAbs_natCast]
  rw [show (-1074 + ((min (pl a) (pl b) : Nat) : Int) + 1074).toNat = min (pl a) (pl b) by omega, show (-1074 - (-1074 + ((min (pl a) (pl b) : Nat) : Int))).toNat = 0 by omega]
theorem sub_fin (s t : Bool) (a b : Nat) (ha : a < double.infRung) (hb : b < double.infRung) :
    double.sub (wd s a) (wd t b) = some (wd (if sn s (U a) + sn (!t) (U b) = 0 then s && !t else decide (sn s (U a) + sn (!t) (U b) < 0)) (rn (sn s (U a) + sn (!t) (U b)).natAbs 0)) := by
  rw [← add_fin s (!t) a b ha hb]
  unfold Format.sub Format.add
  rw [read_fin t b hb, read_fin (!t) b hb]; rfl
end Go.Proofs.Ytcpfnepkjbadjaa
