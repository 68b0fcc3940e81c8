/- Integers as float64 words, and back; rounding keeps the order; what overflows. No program in sight. -/
import Derived.Test.YtcpfnepkjbadjaaLdPlain
import Derived.Laws.FloatArith
namespace Go.Proofs.Ytcpfnepkjbadjaa
open Ieee
theorem cut_zero (neg : Bool) (n k : Nat) : Toward.zero.cut neg n k = n / 2 ^ k := by
  unfold Toward.cut
  simp only [Nat.one_shiftLeft, Bool.toNat_false, Nat.add_zero]
  rcases Nat.le_total k (n.log2 + 2) with h | h
  · rw [Nat.min_eq_left h]
  · rw [Nat.min_eq_right h]
    have hn : n < 2 ^ (n.log2 + 1) := Nat.lt_log2_self
    have e1 : 2 ^ (n.log2 + 1) ≤ 2 ^ (n.log2 + 2) := Nat.pow_le_pow_right (by omega) (by omega)
    have e2 : 2 ^ (n.log2 + 2) ≤ 2 ^ k := Nat.pow_le_pow_right (by omega) h
    rw [Nat.div_eq_of_lt (by omega), Nat.div_eq_of_lt (by omega)]
theorem p2_add (a b : Nat) : p2 (a + b) = p2 a * p2 b := Nat.pow_add 2 a b
theorem p2_pos (k : Nat) : 0 < p2 k := Nat.two_pow_pos k
theorem p2_eq (k : Nat) : 2 ^ k = p2 k := rfl
theorem div_scale (m a b : Nat) : m * 2 ^ (a - b) / 2 ^ (b - a) = m * p2 a / p2 b := by
  rcases Nat.le_total a b with h | h
  · rw [show a - b = 0 by omega, Nat.pow_zero, Nat.mul_one]
    have e : p2 b = p2 (b - a) * p2 a := by rw [← p2_add, Nat.sub_add_cancel h]
    rw [e, Nat.mul_div_mul_right _ _ (p2_pos _), p2_eq]
  · rw [show b - a = 0 by omega, Nat.pow_zero, Nat.div_one]
    have e : p2 a = p2 (a - b) * p2 b := by rw [← p2_add, Nat.sub_add_cancel h]
    rw [e, ← Nat.mul_assoc, Nat.mul_div_cancel _ (p2_pos _), p2_eq]
/-- a finite word, cut towards nought -/
theorem toInt_fin (s : Bool) (r : Nat) (h : r < double.infRung) : (double.read (wd s r)).toInt .zero = some (sn s (U r / p2 1074)) := by
  rw [read_fin s r h]
  unfold Datum.toInt Datum.integral
  simp only [cut_zero, signed_eq, Nat.shiftLeft_eq, Nat.pow_zero, Nat.mul_one]
  congr 2
  rw [U_eq, show (-1074 + (pl r : Int)).toNat = pl r - 1074 by omega, show (-(-1074 + (pl r : Int))).toNat = 1074 - pl r by omega, div_scale]
  rfl
/-- the rung of the number n -/
def rE (n : Nat) : Nat := rn (n * p2 1074) 0
theorem lt_top (m k : Nat) (h : m < 2 ^ 53) (hk : k ≤ 2045) : m * p2 k < TOP := by
  have h1 : m * p2 k < p2 53 * p2 k := (Nat.mul_lt_mul_right (p2_pos _)).2 h
  rw [← p2_add] at h1
  exact Nat.lt_of_lt_of_le h1 (p2_mono (by omega))
theorem rep_p2 (m k : Nat) (h : m < 2 ^ 53) : Rep (m * p2 k) := ⟨m, k, rfl, h⟩
theorem rE_ok (n : Nat) (h : n < 2 ^ 53) : U (rE n) = n * p2 1074 ∧ rE n < double.infRung :=
  rep_back _ (rep_p2 n 1074 h) (lt_top n 1074 h (by omega))
theorem sn_lift (s : Bool) (r n : Nat) (h : U r = n * p2 1074) : sn s (U r / p2 1074) = sn s n := by
  rw [h, Nat.mul_div_cancel _ (p2_pos _)]
theorem near0 (neg : Bool) (m k j : Nat) (hk : ((0 : Int) + 1074).toNat = k) (hj : (-1074 - (0 : Int)).toNat = j) : double.nearest neg m 0 = double.word neg (rn (m * p2 k) j) := by
  rw [nearest_rn, hk, hj]; rfl
theorem ofInt_eq (n : Int) : floatOfInt .f64 n = wd (decide (n < 0)) (rE n.natAbs) := near0 (decide (n < 0)) n.natAbs 1074 0 rfl rfl
theorem toInt_ok {s : Bool} {r : Nat} {n : Int} (h : r < double.infRung) (hn : sn s (U r / p2 1074) = n) (h1 : -9223372036854775808 ≤ n) (h2 : n ≤ 9223372036854775807) : floatToIntVal .f64 (wd s r) .i64 = some n := by
  unfold floatToIntVal
  have := toInt_fin s r h
  rw [hn] at this
  show (match (double.read (wd s r)).toInt .zero with | some n => if IntKind.i64.min ≤ n ∧ n ≤ IntKind.i64.max then some n else none | none => none) = some n
  rw [this]
  show (if IntKind.i64.min ≤ n ∧ n ≤ IntKind.i64.max then some n else none) = some n
  rw [if_pos]
  have e1 : IntKind.i64.min = -9223372036854775808 := by decide
  have e2 : IntKind.i64.max = 9223372036854775807 := by decide
  rw [e1, e2]
  exact ⟨h1, h2⟩
theorem ofInt_toInt (n : Int) (h : n.natAbs < 2 ^ 53) : floatToIntVal .f64 (floatOfInt .f64 n) .i64 = some n := by
  rw [ofInt_eq]
  obtain ⟨h1, h2⟩ := rE_ok n.natAbs h
  refine toInt_ok h2 ?_ (by omega) (by omega)
  rw [sn_lift _ _ _ h1]
  unfold sn
  by_cases hn : n < 0
  · simp only [hn, decide_true, if_true]; omega
  · simp only [hn, decide_false, Bool.false_eq_true, if_false]; omega
/-! rounding keeps the order -/
theorem re_mono (k : Nat) {a b : Nat} (h : a ≤ b) : re a k ≤ re b k := by
  have hp := Nat.two_pow_pos k
  have hq : a / 2 ^ k ≤ b / 2 ^ k := Nat.div_le_div_right h
  have ea := Nat.div_add_mod a (2 ^ k)
  have eb := Nat.div_add_mod b (2 ^ k)
  unfold re
  rcases Nat.lt_or_ge (a / 2 ^ k) (b / 2 ^ k) with h1 | h1
  · split <;> split <;> omega
  · have e : a / 2 ^ k = b / 2 ^ k := by omega
    rw [e] at ea ⊢
    split
    · split
      · omega
      · omega
    · split <;> omega
def gR (n : Nat) : Nat := (n.log2 - 52) * 2 ^ 52 + re n (n.log2 - 52)
theorem gR_mono {a b : Nat} (h0 : a ≠ 0) (h : a ≤ b) : gR a ≤ gR b := by
  have hb : b ≠ 0 := by omega
  have l1 : 2 ^ a.log2 ≤ a := Nat.log2_self_le h0
  have hl : a.log2 ≤ b.log2 := (Nat.le_log2 hb).2 (by omega)
  unfold gR
  rcases Nat.lt_or_ge (a.log2 - 52) (b.log2 - 52) with h1 | h1
  · have ha : a < 2 ^ (a.log2 + 1) := Nat.lt_log2_self
    have c1 : a / 2 ^ (a.log2 - 52) < 2 ^ 53 := by
      rw [Nat.div_lt_iff_lt_mul (Nat.two_pow_pos _), ← Nat.pow_add]
      exact Nat.lt_of_lt_of_le ha (Nat.pow_le_pow_right (by omega) (by omega))
    have c2 : re a (a.log2 - 52) ≤ 2 ^ 53 := by
      unfold re; split <;> omega
    have lb : 2 ^ b.log2 ≤ b := Nat.log2_self_le hb
    have c3 : 2 ^ 52 ≤ b / 2 ^ (b.log2 - 52) := by
      rw [Nat.le_div_iff_mul_le (Nat.two_pow_pos _), ← Nat.pow_add, show 52 + (b.log2 - 52) = b.log2 by omega]
      exact lb
    have c4 : 2 ^ 52 ≤ re b (b.log2 - 52) := by unfold re; omega
    omega
  · have e : a.log2 - 52 = b.log2 - 52 := by omega
    rw [e]
    have := re_mono (b.log2 - 52) h
    omega
theorem rn_gR (n : Nat) : rn n 0 = if n = 0 then 0 else min (gR n) double.infRung := by
  unfold rn gR
  simp only [Nat.zero_add]
theorem rn_mono {a b : Nat} (h : a ≤ b) : rn a 0 ≤ rn b 0 := by
  rw [rn_gR, rn_gR]
  by_cases h0 : a = 0
  · rw [if_pos h0]; omega
  · rw [if_neg h0, if_neg (by omega)]
    have := gR_mono h0 h
    omega
theorem rn_le (n : Nat) : rn n 0 ≤ double.infRung := by
  rw [rn_gR]; split <;> omega
theorem rn_top : rn TOP 0 = double.infRung := by
  have h := rnE_over (2 ^ 52) 2046 (by omega) (by omega)
  unfold rnE at h
  rw [show (-(2046 : Int)).toNat = 0 by rfl, show (2046 : Int).toNat = 2046 by rfl, p2_eq 52, p2_eq 2046, ← p2_add] at h
  exact h
theorem rn_big {n : Nat} (h : TOP ≤ n) : rn n 0 = double.infRung := by
  have h1 := rn_mono h
  rw [rn_top] at h1
  have := rn_le n
  omega
theorem rnE_up (n : Nat) (e : Int) (h : 0 ≤ e) : rnE n e = rn (n * 2 ^ e.toNat) 0 := by
  unfold rnE
  rw [show (-e).toNat = 0 by omega]
theorem rep_mul {n k : Nat} (h : Rep n) : Rep (n * 2 ^ k) := by
  obtain ⟨m, j, rfl, hm⟩ := h
  exact ⟨m, j + k, by rw [Nat.mul_assoc, ← Nat.pow_add], hm⟩
/-- scaled up and down again -/
theorem up_down (r : Nat) (e : Int) (hr : r < double.infRung) (h : 0 ≤ e) (hf : rnE (U r) e < double.infRung) : rnE (U (rnE (U r) e)) (-e) = r := by
  rw [rnE_up _ _ h] at hf ⊢
  have ht : U r * 2 ^ e.toNat < TOP := by
    rcases Nat.lt_or_ge (U r * 2 ^ e.toNat) TOP with h1 | h1
    · exact h1
    · have := rn_big h1
      omega
  rw [(rep_back _ (rep_mul (rep_U r)) ht).1]
  have h1 := rnE_shift (U r) e.toNat 0
  rw [show (0 : Int) - (e.toNat : Int) = -e by omega] at h1
  rw [h1]
  exact rnE_U r hr
theorem U_pos {r : Nat} (h0 : r ≠ 0) (hr : r < double.infRung) : 0 < U r := by
  have := U_mono (a := 0) (b := r) (by omega) hr
  rw [U_zero] at this
  exact this
/-- scaled beyond every finite number -/
theorem up_far (r : Nat) (e : Int) (h0 : r ≠ 0) (hr : r < double.infRung) (h : 2100 ≤ e) : rnE (U r) e = double.infRung := by
  rw [rnE_up _ _ (by omega)]
  refine rn_big ?_
  have h1 := U_pos h0 hr
  have h2 : TOP ≤ 2 ^ e.toNat := by
    show p2 2098 ≤ p2 e.toNat
    exact p2_mono (by omega)
  have h3 : 1 * 2 ^ e.toNat ≤ U r * 2 ^ e.toNat := Nat.mul_le_mul_right _ h1
  omega
/-- n and a fraction of at most a half, rounded, lies between -/
theorem add_half (n u : Nat) (hn : n < 2 ^ 51) (hu : u ≤ p2 1073) : U (rn (n * p2 1074 + u) 0) / p2 1074 = n ∧ rn (n * p2 1074 + u) 0 < double.infRung := by
  obtain ⟨a1, a2⟩ := rE_ok n (by omega)
  obtain ⟨b1, b2⟩ := rep_back ((2 * n + 1) * p2 1073) (rep_p2 _ 1073 (by omega)) (lt_top _ 1073 (by omega) (by omega))
  have e74 := p2_add 1 1073
  rw [show 1 + 1073 = 1074 by rfl, show p2 1 = 2 by rfl] at e74
  have eT : (2 * n + 1) * p2 1073 = n * p2 1074 + p2 1073 := by rw [e74, Nat.add_mul, Nat.one_mul, ← Nat.mul_assoc, Nat.mul_comm 2 n]
  have hp := p2_pos 1073
  rw [eT] at b1 b2
  unfold rE at a1 a2
  generalize p2 1074 = G at *
  generalize p2 1073 = H at *
  have m1 : rn (n * G) 0 ≤ rn (n * G + u) 0 := rn_mono (by omega)
  have m2 : rn (n * G + u) 0 ≤ rn (n * G + H) 0 := rn_mono (by omega)
  have hlt : rn (n * G + u) 0 < double.infRung := by omega
  refine ⟨?_, hlt⟩
  have u1 : n * G ≤ U (rn (n * G + u) 0) := by
    rcases Nat.lt_or_ge (rn (n * G) 0) (rn (n * G + u) 0) with h | h
    · have := U_mono h hlt; omega
    · have e : rn (n * G + u) 0 = rn (n * G) 0 := by omega
      rw [e, a1]; omega
  have u2 : U (rn (n * G + u) 0) ≤ n * G + H := by
    rcases Nat.lt_or_ge (rn (n * G + u) 0) (rn (n * G + H) 0) with h | h
    · have := U_mono h b2; omega
    · have e : rn (n * G + u) 0 = rn (n * G + H) 0 := by omega
      rw [e, b1]; omega
  refine Nat.div_eq_of_lt_le u1 ?_
  have : (n + 1) * G = n * G + G := by rw [Nat.add_mul, Nat.one_mul]
  omega
end Go.Proofs.Ytcpfnepkjbadjaa
