/- Plain facts on scaling float64 words by powers of two. No program in sight. -/
import Derived.Test.YtcpfnepkjbadjaaFlOrd
namespace Go.Proofs.Ytcpfnepkjbadjaa
open Ieee
/-- the rung of n * 2^e units -/
def rnE (n : Nat) (e : Int) : Nat := rn (n * 2 ^ e.toNat) (-e).toNat
theorem rnE_shift (n k : Nat) (e : Int) : rnE (n * 2 ^ k) (e - k) = rnE n e := by
  unfold rnE
  rw [Nat.mul_assoc, ← Nat.pow_add]
  rcases Int.le_total 0 e with h | h
  · rw [show (-e).toNat = 0 by omega]
    rcases Int.le_total (k : Int) e with h2 | h2
    · rw [show k + (e - k).toNat = e.toNat by omega, show (-(e - k)).toNat = 0 by omega]
    · rw [show (e - (k : Int)).toNat = 0 by omega, show (-(e - (k : Int))).toNat = k - e.toNat by omega, Nat.add_zero]
      have := rn_shift n k (k - e.toNat)
      rw [this, show k - (k - e.toNat) = e.toNat by omega, show k - e.toNat - k = 0 by omega]
  · rw [show e.toNat = 0 by omega, show (e - (k : Int)).toNat = 0 by omega, Nat.add_zero, show (-(e - (k : Int))).toNat = (-e).toNat + k by omega, Nat.pow_zero, Nat.mul_one, rn_scale]
theorem rnE_zero (e : Int) : rnE 0 e = 0 := by unfold rnE rn; simp
theorem rnE_U (r : Nat) (h : r < double.infRung) : rnE (U r) 0 = r := by
  unfold rnE; simpa using rn_U r h
/-- digits c (53 of them) at place p: within the normal range -/
theorem rnE_normal (c : Nat) (p : Int) (h1 : 2 ^ 52 ≤ c) (h2 : c < 2 ^ 53) (h0 : 0 ≤ p) (hp : p ≤ 2045) : rnE c p = p.toNat * 2 ^ 52 + c := by
  unfold rnE rn
  rw [show (-p).toNat = 0 by omega, if_neg (by have := Nat.two_pow_pos p.toNat; intro hc; rcases Nat.mul_eq_zero.1 hc with h3 | h3 <;> omega), log2_scale _ _ (by omega), log2_of h1 (by omega), show 52 + p.toNat - (0 + 52) = p.toNat by omega, Nat.zero_add, re_exact, infRung_eq]
  omega
theorem rnE_over (c : Nat) (p : Int) (h1 : 2 ^ 52 ≤ c) (hp : 2046 ≤ p) : rnE c p = double.infRung := by
  unfold rnE rn
  have hc : c ≠ 0 := by omega
  have hl : 52 ≤ c.log2 := (Nat.le_log2 hc).2 h1
  rw [show (-p).toNat = 0 by omega, if_neg (by have := Nat.two_pow_pos p.toNat; intro hc; rcases Nat.mul_eq_zero.1 hc with h3 | h3 <;> omega), log2_scale _ _ hc, show c.log2 + p.toNat - (0 + 52) = (c.log2 - 52) + p.toNat by omega, Nat.zero_add]
  rw [Nat.min_eq_right]
  -- at least 2046 binades and one
  have e : re (c * 2 ^ p.toNat) (c.log2 - 52 + p.toNat) = re c (c.log2 - 52) := re_scale c _ _
  have h3 : 2 ^ 52 ≤ re c (c.log2 - 52) := by
    have hle : 2 ^ c.log2 ≤ c := Nat.log2_self_le hc
    have : 2 ^ 52 ≤ c / 2 ^ (c.log2 - 52) := by
      rw [Nat.le_div_iff_mul_le (Nat.two_pow_pos _), ← Nat.pow_add, show 52 + (c.log2 - 52) = c.log2 by omega]; exact hle
    unfold re; omega
  rw [e, infRung_eq]
  have h4 : 2046 ≤ c.log2 - 52 + p.toNat := by omega
  have h5 : 2046 * 2 ^ 52 ≤ (c.log2 - 52 + p.toNat) * 2 ^ 52 := Nat.mul_le_mul_right _ h4
  omega
theorem rnE_under (c : Nat) (p : Int) (h2 : c < 2 ^ 53) (hp : p ≤ -54) : rnE c p = 0 := by
  unfold rnE rn
  rw [show p.toNat = 0 by omega, Nat.pow_zero, Nat.mul_one]
  by_cases h0 : c = 0
  · rw [if_pos h0]
  · have hl : c.log2 < 53 := (Nat.log2_lt h0).2 h2
    have hpw : 2 ^ 54 ≤ 2 ^ (-p).toNat := Nat.pow_le_pow_right (by omega) (by omega)
    rw [if_neg h0, show c.log2 - ((-p).toNat + 52) = 0 by omega, Nat.zero_mul, Nat.zero_add, Nat.add_zero, small_re (by omega)]
    omega
/-- a product with a power of two -/
theorem mul_pow (s : Bool) (r : Nat) (e : Int) (h : r < double.infRung) (h1 : -1022 ≤ e) (h2 : e ≤ 1023) :
    double.mul (wd s r) (wd false ((e + 1023).toNat * 2 ^ 52)) = some (wd s (rnE (U r) e)) := by
  have hb : (e + 1023).toNat * 2 ^ 52 < double.infRung := by rw [infRung_eq]; omega
  rw [mul_fin s false r _ h hb]
  have hU : U ((e + 1023).toNat * 2 ^ 52) = 2 ^ (e + 1074).toNat := by
    unfold U
    rw [if_neg (by omega), Nat.mul_mod_left, Nat.mul_div_cancel _ (Nat.two_pow_pos 52), Nat.add_zero, ← Nat.pow_add]
    congr 1; omega
  rw [hU, Bool.xor_false, rn_shift]
  unfold rnE
  rw [show (e + 1074).toNat - 1074 = e.toNat by omega, show 1074 - (e + 1074).toNat = (-e).toNat by omega]
end Go.Proofs.Ytcpfnepkjbadjaa
