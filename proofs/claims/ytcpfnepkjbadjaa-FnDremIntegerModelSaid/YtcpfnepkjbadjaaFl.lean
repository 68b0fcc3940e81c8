/- Plain facts on float64 words: a finite word is a sign and a whole number of units of 2 to the -1074; rounding is to the nearest such number. No program in sight. -/
import Derived.Laws.FloatBits
namespace Go.Proofs.Ytcpfnepkjbadjaa
open Ieee
/-- n / 2^k, to the nearest whole number, ties to even -/
def re (n k : Nat) : Nat := n / 2 ^ k + (if 2 ^ k < 2 * (n % 2 ^ k) ∨ (2 ^ k = 2 * (n % 2 ^ k) ∧ n / 2 ^ k % 2 = 1) then 1 else 0)
theorem small_re {n k : Nat} (h : 2 * n < 2 ^ k) : re n k = 0 := by
  unfold re
  have h1 : n < 2 ^ k := by omega
  rw [Nat.div_eq_of_lt h1, Nat.mod_eq_of_lt h1, if_neg (by omega)]
theorem cut_even (neg : Bool) (n k : Nat) : Toward.even.cut neg n k = re n k := by
  unfold Toward.cut
  simp only [Nat.one_shiftLeft]
  rcases Nat.lt_or_ge (n.log2 + 2) k with h | h
  · have hn : n < 2 ^ (n.log2 + 1) := Nat.lt_log2_self
    have e : 2 ^ (n.log2 + 2) = 2 * 2 ^ (n.log2 + 1) := by rw [Nat.pow_succ]; omega
    have hk : 2 ^ (n.log2 + 2) ≤ 2 ^ k := Nat.pow_le_pow_right (by omega) (by omega)
    rw [Nat.min_eq_right (by omega), small_re (by omega)]
    have h1 : n < 2 ^ (n.log2 + 2) := by omega
    rw [Nat.div_eq_of_lt h1, Nat.mod_eq_of_lt h1]
    have a1 : decide (2 ^ (n.log2 + 2) < 2 * n) = false := by simp; omega
    have a2 : (2 ^ (n.log2 + 2) == 2 * n) = false := by rw [beq_eq_false_iff_ne]; omega
    simp [a1, a2]
  · rw [Nat.min_eq_left h]
    unfold re
    by_cases hc : 2 ^ k < 2 * (n % 2 ^ k) ∨ (2 ^ k = 2 * (n % 2 ^ k) ∧ n / 2 ^ k % 2 = 1)
    · rw [if_pos hc]
      have : (decide (2 ^ k < 2 * (n % 2 ^ k)) || (2 ^ k == 2 * (n % 2 ^ k) && n / 2 ^ k % 2 == 1)) = true := by
        rcases hc with h1 | ⟨h1, h2⟩
        · simp [h1]
        · simp [h1.symm, h2]
      rw [this]; rfl
    · rw [if_neg hc]
      have : (decide (2 ^ k < 2 * (n % 2 ^ k)) || (2 ^ k == 2 * (n % 2 ^ k) && n / 2 ^ k % 2 == 1)) = false := by
        rw [Bool.or_eq_false_iff]
        refine ⟨by simp; omega, ?_⟩
        rw [Bool.and_eq_false_iff]
        by_cases h2 : 2 ^ k = 2 * (n % 2 ^ k)
        · right; rw [beq_eq_false_iff_ne]; intro h3; exact hc (Or.inr ⟨h2, h3⟩)
        · left; rw [beq_eq_false_iff_ne]; exact h2
      rw [this]; rfl
theorem re_scale (n k j : Nat) : re (n * 2 ^ j) (k + j) = re n k := by
  unfold re
  have hp : 0 < 2 ^ j := Nat.two_pow_pos j
  rw [Nat.pow_add, Nat.mul_div_mul_right _ _ hp, Nat.mul_mod_mul_right]
  have e1 : (2 ^ k * 2 ^ j < 2 * (n % 2 ^ k * 2 ^ j)) ↔ (2 ^ k < 2 * (n % 2 ^ k)) := by
    rw [← Nat.mul_assoc]; exact Nat.mul_lt_mul_right hp
  have e2 : (2 ^ k * 2 ^ j = 2 * (n % 2 ^ k * 2 ^ j)) ↔ (2 ^ k = 2 * (n % 2 ^ k)) := by
    rw [← Nat.mul_assoc]; exact Nat.mul_left_inj (by omega)
  simp only [e1, e2]
theorem re_exact (n k : Nat) : re (n * 2 ^ k) k = n := by
  have := re_scale n 0 k
  rw [Nat.zero_add] at this
  rw [this]; unfold re; simp [Nat.mod_one]
theorem log2_scale (n j : Nat) (h : n ≠ 0) : (n * 2 ^ j).log2 = n.log2 + j := by
  have hp : 0 < 2 ^ j := Nat.two_pow_pos j
  have h1 : 2 ^ n.log2 ≤ n := Nat.log2_self_le h
  have h2 : n < 2 ^ (n.log2 + 1) := Nat.lt_log2_self
  rw [Nat.log2_eq_iff (by intro hc; rcases Nat.mul_eq_zero.1 hc with h3 | h3 <;> omega)]
  rw [Nat.pow_add, show n.log2 + j + 1 = n.log2 + 1 + j by omega, Nat.pow_add]
  exact ⟨Nat.mul_le_mul_right _ h1, (Nat.mul_lt_mul_right hp).2 h2⟩
/-- the rung of n / 2^d units -/
def rn (n d : Nat) : Nat := if n = 0 then 0 else min ((n.log2 - (d + 52)) * 2 ^ 52 + re n (d + (n.log2 - (d + 52)))) double.infRung
theorem rn_scale (n d j : Nat) : rn (n * 2 ^ j) (d + j) = rn n d := by
  unfold rn
  by_cases h : n = 0
  · simp [h]
  · have hp : 0 < 2 ^ j := Nat.two_pow_pos j
    rw [if_neg h, if_neg (by intro hc; rcases Nat.mul_eq_zero.1 hc with h3 | h3 <;> omega), log2_scale n j h]
    rw [show n.log2 + j - (d + j + 52) = n.log2 - (d + 52) by omega, show d + j + (n.log2 - (d + 52)) = d + (n.log2 - (d + 52)) + j by omega, re_scale]
theorem nearest_rn (neg : Bool) (mag : Nat) (place : Int) : double.nearest neg mag place = double.word neg (rn (mag * 2 ^ (place + 1074).toNat) (-1074 - place).toNat) := by
  unfold Format.nearest rn
  by_cases h : mag = 0
  · simp [h]
  · have h2 : ¬ mag * 2 ^ (place + 1074).toNat = 0 := by
      have := Nat.two_pow_pos (place + 1074).toNat
      intro hc; rcases Nat.mul_eq_zero.1 hc with h3 | h3 <;> omega
    rw [if_neg h, if_neg h2, log2_scale _ _ h]
    have hlp : double.leastPlace = -1074 := rfl
    have hfb : (double.fractionBits : Int) = 52 := rfl
    have hbn : double.binade = 2 ^ 52 := rfl
    simp only [hlp, hfb, hbn, cut_even, Nat.shiftLeft_eq]
    generalize hL : mag.log2 = L
    generalize hx : (max (place + (L : Int) - 52) (-1074)) = last
    have e1 : (last - -1074).toNat = L + (place + 1074).toNat - ((-1074 - place).toNat + 52) := by omega
    rw [e1]
    congr 3
    have e2 : (-1074 - place).toNat + (L + (place + 1074).toNat - ((-1074 - place).toNat + 52)) = (last - -1074).toNat + (-1074 - place).toNat := by omega
    rw [e2]
    -- both are mag * 2^(place - last)
    rcases Int.le_total last place with hc | hc
    · have a1 : (last - place).toNat = 0 := by omega
      have a2 : (place + 1074).toNat = (place - last).toNat + (last - -1074).toNat := by omega
      have a3 : (-1074 - place).toNat = 0 := by omega
      rw [a1, a2, a3, Nat.add_zero, Nat.pow_add, ← Nat.mul_assoc]
      have := re_scale (mag * 2 ^ (place - last).toNat) 0 (last - -1074).toNat
      rw [Nat.zero_add] at this; rw [this]
    · have a1 : (place - last).toNat = 0 := by omega
      rw [a1, Nat.pow_zero, Nat.mul_one]
      have a2 : (last - -1074).toNat + (-1074 - place).toNat = (last - place).toNat + (place + 1074).toNat := by omega
      rw [a2, re_scale]
/-- a finite rung's number of units -/
def U (r : Nat) : Nat := if r < 2 ^ 52 then r else (2 ^ 52 + r % 2 ^ 52) * 2 ^ (r / 2 ^ 52 - 1)
theorem infRung_eq : double.infRung = 2047 * 2 ^ 52 := rfl
/-- a number of units that needs no more than 53 digits -/
def Rep (n : Nat) : Prop := ∃ m k, n = m * 2 ^ k ∧ m < 2 ^ 53
theorem rep_U (r : Nat) : Rep (U r) := by
  unfold U
  split
  · exact ⟨r, 0, by simp, by omega⟩
  · exact ⟨_, _, rfl, by have := Nat.mod_lt r (Nat.two_pow_pos 52); omega⟩
theorem log2_of {n L : Nat} (h1 : 2 ^ L ≤ n) (h2 : n < 2 ^ (L + 1)) : n.log2 = L := by
  rw [Nat.log2_eq_iff (by have := Nat.two_pow_pos L; omega)]; exact ⟨h1, h2⟩
theorem rn_U (r : Nat) (h : r < double.infRung) : rn (U r) 0 = r := by
  rw [infRung_eq] at h
  by_cases h0 : r = 0
  · subst h0; rfl
  by_cases h1 : r < 2 ^ 52
  · have e : U r = r := by unfold U; rw [if_pos h1]
    have hl : r.log2 < 52 := (Nat.log2_lt h0).2 h1
    unfold rn
    rw [e, if_neg h0, show r.log2 - (0 + 52) = 0 by omega, Nat.zero_mul, Nat.zero_add, Nat.zero_add]
    have := re_exact r 0
    rw [Nat.pow_zero, Nat.mul_one] at this
    rw [this, infRung_eq]; omega
  · have hq : 1 ≤ r / 2 ^ 52 := by omega
    have hf := Nat.mod_lt r (Nat.two_pow_pos 52)
    have e : U r = (2 ^ 52 + r % 2 ^ 52) * 2 ^ (r / 2 ^ 52 - 1) := by unfold U; rw [if_neg h1]
    have hl : (2 ^ 52 + r % 2 ^ 52).log2 = 52 := log2_of (by omega) (by omega)
    unfold rn
    rw [e, if_neg (by have := Nat.two_pow_pos (r / 2 ^ 52 - 1); intro hc; rcases Nat.mul_eq_zero.1 hc with h3 | h3 <;> omega), log2_scale _ _ (by omega), hl,
      show 52 + (r / 2 ^ 52 - 1) - (0 + 52) = r / 2 ^ 52 - 1 by omega, Nat.zero_add, re_exact, infRung_eq]
    omega
def p2 (k : Nat) : Nat := 2 ^ k
theorem p2_mono {a b : Nat} (h : a ≤ b) : p2 a ≤ p2 b := Nat.pow_le_pow_right (Nat.succ_pos 1) h
theorem p2_log {n K : Nat} (h0 : n ≠ 0) (hn : n < p2 K) : n.log2 < K := (Nat.log2_lt h0).2 hn
theorem p2_log' {n K : Nat} (h0 : n ≠ 0) (hn : n.log2 < K) : n < p2 K := (Nat.log2_lt h0).1 hn
/-- one unit beyond every finite number -/
def TOP : Nat := p2 2098
theorem pow_le_top (k : Nat) (h : k ≤ 2098) : 2 ^ k ≤ TOP := p2_mono h
theorem log2_top {n : Nat} (h0 : n ≠ 0) (hn : n < TOP) : n.log2 < 2098 := p2_log h0 hn
theorem rep_back (n : Nat) (h : Rep n) (hn : n < TOP) : U (rn n 0) = n ∧ rn n 0 < double.infRung := by
  rw [infRung_eq]
  by_cases h0 : n = 0
  · subst h0; exact ⟨rfl, by show (0 : Nat) < _; omega⟩
  obtain ⟨m, k, rfl, hm⟩ := h
  have hm0 : m ≠ 0 := by intro hc; subst hc; simp at h0
  have hL : (m * 2 ^ k).log2 = m.log2 + k := log2_scale m k hm0
  have hlm : m.log2 < 53 := (Nat.log2_lt hm0).2 hm
  have hb : (m * 2 ^ k).log2 < 2098 := log2_top h0 hn
  rw [hL] at hb
  unfold rn
  rw [if_neg h0, hL, infRung_eq]
  simp only [Nat.zero_add]
  generalize hlast : m.log2 + k - 52 = last
  -- the number is a multiple of 2^last
  have hk : last ≤ k := by omega
  have hdv : m * 2 ^ k = (m * 2 ^ (k - last)) * 2 ^ last := by rw [Nat.mul_assoc, ← Nat.pow_add, Nat.sub_add_cancel hk]
  rw [hdv, re_exact]
  have c1 : (m * 2 ^ (k - last)).log2 = m.log2 + (k - last) := log2_scale m _ hm0
  have hc0 : m * 2 ^ (k - last) ≠ 0 := by intro hc; rw [hdv, hc] at h0; simp at h0
  have c2 : m * 2 ^ (k - last) < 2 ^ 53 := (Nat.log2_lt hc0).1 (by omega)
  generalize hcc : m * 2 ^ (k - last) = c at *
  by_cases hz : last = 0
  · subst hz
    rw [Nat.zero_mul, Nat.zero_add, Nat.pow_zero, Nat.mul_one, Nat.min_eq_left (by omega)]
    refine ⟨?_, by omega⟩
    unfold U
    by_cases h1 : c < 2 ^ 52
    · rw [if_pos h1]
    · rw [if_neg h1, show c / 2 ^ 52 - 1 = 0 by omega]; omega
  · have c3 : 2 ^ 52 ≤ c := (Nat.le_log2 hc0).1 (by omega)
    rw [Nat.min_eq_left (by omega)]
    refine ⟨?_, by omega⟩
    unfold U
    rw [if_neg (by omega), show (last * 2 ^ 52 + c) % 2 ^ 52 = c - 2 ^ 52 by omega, show (last * 2 ^ 52 + c) / 2 ^ 52 - 1 = last by omega, show 2 ^ 52 + (c - 2 ^ 52) = c by omega]
theorem U_lt (r : Nat) (h : r < double.infRung) : U r < TOP := by
  rw [infRung_eq] at h
  unfold U
  split
  · rename_i h1
    exact Nat.lt_of_lt_of_le h1 (pow_le_top 52 (by omega))
  · have hf := Nat.mod_lt r (Nat.two_pow_pos 52)
    have hq : r / 2 ^ 52 - 1 ≤ 2045 := by omega
    have h1 : 2 ^ 52 + r % 2 ^ 52 < 2 ^ 53 := by omega
    have h2 : (2 ^ 52 + r % 2 ^ 52) * 2 ^ (r / 2 ^ 52 - 1) < 2 ^ 53 * 2 ^ (r / 2 ^ 52 - 1) := (Nat.mul_lt_mul_right (Nat.two_pow_pos _)).2 h1
    rw [← Nat.pow_add] at h2
    exact Nat.lt_of_lt_of_le h2 (pow_le_top _ (by omega))
end Go.Proofs.Ytcpfnepkjbadjaa
