/- Plain facts on float64 words: the order is that of the signed rungs, NaNs apart. No program in sight. -/
import Derived.Test.YtcpfnepkjbadjaaFlOps
namespace Go.Proofs.Ytcpfnepkjbadjaa
open Ieee
theorem two_mul_pow (k : Nat) : 2 * 2 ^ k = 2 ^ (k + 1) := by rw [Nat.pow_succ, Nat.mul_comm]
theorem U_mono {a b : Nat} (h : a < b) (_hb : b < double.infRung) : U a < U b := by
  unfold U
  by_cases h1 : b < 2 ^ 52
  · rw [if_pos h1, if_pos (by omega)]; exact h
  · rw [if_neg h1]
    have hb1 : 2 ^ 52 * 2 ^ (b / 2 ^ 52 - 1) ≤ (2 ^ 52 + b % 2 ^ 52) * 2 ^ (b / 2 ^ 52 - 1) := Nat.mul_le_mul_right _ (by omega)
    by_cases h2 : a < 2 ^ 52
    · rw [if_pos h2]
      have : 1 ≤ 2 ^ (b / 2 ^ 52 - 1) := Nat.two_pow_pos _
      have h3 : 2 ^ 52 * 1 ≤ 2 ^ 52 * 2 ^ (b / 2 ^ 52 - 1) := Nat.mul_le_mul_left _ this
      omega
    · rw [if_neg h2]
      have hf := Nat.mod_lt a (Nat.two_pow_pos 52)
      rcases Nat.lt_or_ge (a / 2 ^ 52) (b / 2 ^ 52) with hq | hq
      · have h3 : (2 ^ 52 + a % 2 ^ 52) * 2 ^ (a / 2 ^ 52 - 1) < (2 ^ 52 * 2) * 2 ^ (a / 2 ^ 52 - 1) := (Nat.mul_lt_mul_right (Nat.two_pow_pos _)).2 (by omega)
        have h4 : (2 ^ 52 * 2) * 2 ^ (a / 2 ^ 52 - 1) = 2 ^ 52 * 2 ^ (a / 2 ^ 52 - 1 + 1) := by rw [Nat.mul_assoc, two_mul_pow]
        have h5 : 2 ^ 52 * 2 ^ (a / 2 ^ 52 - 1 + 1) ≤ 2 ^ 52 * 2 ^ (b / 2 ^ 52 - 1) := Nat.mul_le_mul_left _ (Nat.pow_le_pow_right (by omega) (by omega))
        omega
      · have hq2 : a / 2 ^ 52 = b / 2 ^ 52 := by omega
        rw [hq2]
        exact (Nat.mul_lt_mul_right (Nat.two_pow_pos _)).2 (by omega)
theorem U_zero : U 0 = 0 := rfl
/-- the signed rung of a word that is no NaN: it orders the words -/
def V (x : Nat) : Int := sn (decide (2 ^ 63 ≤ x)) (x % 2 ^ 63)
def nanB (x : Nat) : Bool := decide (double.infRung < x % 2 ^ 63)
theorem cmp_U {a b : Nat} (s t : Bool) (ha : a < double.infRung) (hb : b < double.infRung) : compare (sn s (U a)) (sn t (U b)) = compare (sn s a) (sn t b) := by
  have za : U a = 0 ↔ a = 0 := by
    constructor
    · intro h; rcases Nat.eq_zero_or_pos a with h1 | h1; exact h1; have := U_mono h1 ha; rw [h, U_zero] at this; omega
    · intro h; rw [h]; rfl
  have zb : U b = 0 ↔ b = 0 := by
    constructor
    · intro h; rcases Nat.eq_zero_or_pos b with h1 | h1; exact h1; have := U_mono h1 hb; rw [h, U_zero] at this; omega
    · intro h; rw [h]; rfl
  have key : (U a < U b ↔ a < b) ∧ (U b < U a ↔ b < a) ∧ (U a = U b ↔ a = b) := by
    rcases Nat.lt_trichotomy a b with h | h | h
    · have := U_mono h hb; omega
    · subst h; omega
    · have := U_mono h ha; omega
  have tri : ∀ x y x' y' : Int, ((x < y ↔ x' < y') ∧ (x = y ↔ x' = y')) → compare x y = compare x' y' := by
    intro x y x' y' ⟨h1, h2⟩
    show compareOfLessAndEq x y = compareOfLessAndEq x' y'
    simp only [compareOfLessAndEq, h1, h2]
  apply tri
  unfold sn
  cases s <;> cases t <;> simp only [Bool.false_eq_true, if_false, if_true] <;> omega
theorem ord_ok {x y : Nat} (hx : x < 2 ^ 64) (hy : y < 2 ^ 64) (nx : nanB x = false) (ny : nanB y = false) : double.order x y = some (compare (V x) (V y)) := by
  have ax : x % 2 ^ 63 ≤ double.infRung := by unfold nanB at nx; simpa using nx
  have ay : y % 2 ^ 63 ≤ double.infRung := by unfold nanB at ny; simpa using ny
  rw [wd_parts x hx, wd_parts y hy]
  have vx : V (wd (decide (2 ^ 63 ≤ x)) (x % 2 ^ 63)) = sn (decide (2 ^ 63 ≤ x)) (x % 2 ^ 63) := by rw [← wd_parts x hx]; rfl
  have vy : V (wd (decide (2 ^ 63 ≤ y)) (y % 2 ^ 63)) = sn (decide (2 ^ 63 ≤ y)) (y % 2 ^ 63) := by rw [← wd_parts y hy]; rfl
  rw [vx, vy]
  generalize decide (2 ^ 63 ≤ x) = s
  generalize decide (2 ^ 63 ≤ y) = t
  generalize x % 2 ^ 63 = a at ax
  generalize y % 2 ^ 63 = b at ay
  rcases Nat.lt_or_ge a double.infRung with ha | ha
  · rcases Nat.lt_or_ge b double.infRung with hb | hb
    · rw [order_fin s t a b ha hb, cmp_U s t ha hb]
    · obtain rfl : b = double.infRung := by omega
      unfold Format.order
      rw [read_fin s a ha, read_inf]
      show some (if t then Ordering.gt else Ordering.lt) = _
      congr 1
      rw [infRung_eq] at ha
      cases t
      · rw [cmp_lt]; rfl
        unfold sn; rw [infRung_eq]; cases s <;> simp only [Bool.false_eq_true, if_false, if_true] <;> omega
      · rw [cmp_gt]; rfl
        unfold sn; rw [infRung_eq]; cases s <;> simp only [Bool.false_eq_true, if_false, if_true] <;> omega
  · obtain rfl : a = double.infRung := by omega
    rcases Nat.lt_or_ge b double.infRung with hb | hb
    · unfold Format.order
      rw [read_fin t b hb, read_inf]
      show some (if s then Ordering.lt else Ordering.gt) = _
      congr 1
      rw [infRung_eq] at hb
      cases s
      · rw [cmp_gt]; rfl
        unfold sn; rw [infRung_eq]; cases t <;> simp only [Bool.false_eq_true, if_false, if_true] <;> omega
      · rw [cmp_lt]; rfl
        unfold sn; rw [infRung_eq]; cases t <;> simp only [Bool.false_eq_true, if_false, if_true] <;> omega
    · obtain rfl : b = double.infRung := by omega
      unfold Format.order
      rw [read_inf, read_inf]
      show some (compare t.toNat s.toNat) = _
      congr 1
      cases s <;> cases t
      · rw [cmp_eq rfl]; rfl
      · rw [cmp_gt (by unfold sn; rw [infRung_eq]; simp only [Bool.false_eq_true, if_false, if_true]; omega)]; rfl
      · rw [cmp_lt (by unfold sn; rw [infRung_eq]; simp only [Bool.false_eq_true, if_false, if_true]; omega)]; rfl
      · rw [cmp_eq rfl]; rfl
theorem read_of_nan {x : Nat} (hx : x < 2 ^ 64) (n : nanB x = true) : ∃ s f, double.read x = .nan s f := by
  have ax : double.infRung < x % 2 ^ 63 := by unfold nanB at n; simpa using n
  rw [wd_parts x hx]
  exact ⟨_, _, read_nan _ _ ax (Nat.mod_lt _ (by omega))⟩
theorem ord_nan_left {x y : Nat} (hx : x < 2 ^ 64) (n : nanB x = true) : double.order x y = none := by
  obtain ⟨s, f, h⟩ := read_of_nan hx n
  unfold Format.order; rw [h]; rfl
theorem ord_nan_right {x y : Nat} (hy : y < 2 ^ 64) (n : nanB y = true) : double.order x y = none := by
  obtain ⟨s, f, h⟩ := read_of_nan hy n
  unfold Format.order; rw [h]
  cases double.read x <;> rfl
/-- the six comparisons, as tests on numbers -/
theorem ord_lt {x y : Nat} (hx : x < 2 ^ 64) (hy : y < 2 ^ 64) (nx : nanB x = false) (ny : nanB y = false) (h : V x < V y) : double.order x y = some .lt := by rw [ord_ok hx hy nx ny, cmp_lt h]
theorem ord_gt {x y : Nat} (hx : x < 2 ^ 64) (hy : y < 2 ^ 64) (nx : nanB x = false) (ny : nanB y = false) (h : V y < V x) : double.order x y = some .gt := by rw [ord_ok hx hy nx ny, cmp_gt h]
theorem ord_eq {x y : Nat} (hx : x < 2 ^ 64) (hy : y < 2 ^ 64) (nx : nanB x = false) (ny : nanB y = false) (h : V x = V y) : double.order x y = some .eq := by rw [ord_ok hx hy nx ny, cmp_eq h]
/-- two words that are no NaNs, of one value and one sign, are one word -/
theorem V_inj {x y : Nat} (hx : x < 2 ^ 64) (hy : y < 2 ^ 64) (h : V x = V y) (hs : (2 ^ 63 ≤ x) ↔ (2 ^ 63 ≤ y)) : x = y := by
  unfold V sn at h
  by_cases h1 : 2 ^ 63 ≤ x
  · have h2 := hs.1 h1
    simp only [h1, h2, decide_true, if_true] at h
    omega
  · have h2 : ¬ 2 ^ 63 ≤ y := fun h3 => h1 (hs.2 h3)
    simp only [h1, h2, decide_false, Bool.false_eq_true, if_false] at h
    omega
end Go.Proofs.Ytcpfnepkjbadjaa
