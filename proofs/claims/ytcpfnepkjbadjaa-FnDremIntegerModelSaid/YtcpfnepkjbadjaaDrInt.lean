/- drem on whole numbers: the plain law. -/
import Derived.Test.YtcpfnepkjbadjaaDrLaw2
namespace Go.Proofs.Ytcpfnepkjbadjaa
open Ieee
open Go.ChangeShapes Go.WideShapes Go.ChangeAt Go.RowKit
set_option linter.unusedVariables false
theorem sc_mod (A B G : Nat) : A * G % (2 * (B * G)) = A % (2 * B) * G := by rw [← Nat.mul_assoc, Nat.mul_mod_mul_right]
theorem sc_le (k m a b G : Nat) (h : 0 < G) : (k * (a * G) ≤ m * (b * G)) ↔ (k * a ≤ m * b) := by
  rw [← Nat.mul_assoc, ← Nat.mul_assoc]
  exact Nat.mul_le_mul_right_iff h
theorem remT_sc (A B G : Nat) (h : 0 < G) : remT (A * G) (B * G) = remT A B := by
  unfold remT
  rw [sc_mod]
  have e1 : (2 * (A % (2 * B) * G) ≤ B * G) ↔ (2 * (A % (2 * B)) ≤ B) := by have := sc_le 2 1 (A % (2 * B)) B G h; rwa [Nat.one_mul, Nat.one_mul] at this
  have e2 : (2 * (A % (2 * B) * G) < 3 * (B * G)) ↔ (2 * (A % (2 * B)) < 3 * B) := by have := sc_le 3 2 B (A % (2 * B)) G h; omega
  have e3 : (A % (2 * B) * G < B * G) ↔ (A % (2 * B) < B) := by have := sc_le 1 1 B (A % (2 * B)) G h; omega
  simp only [e1, e2, e3]
theorem remN_sc (A B G : Nat) (h : 0 < G) : remN (A * G) (B * G) = remN A B * G := by
  unfold remN
  rw [sc_mod]
  have e1 : (2 * (A % (2 * B) * G) ≤ B * G) ↔ (2 * (A % (2 * B)) ≤ B) := by have := sc_le 2 1 (A % (2 * B)) B G h; rwa [Nat.one_mul, Nat.one_mul] at this
  have e2 : (2 * (A % (2 * B) * G) < 3 * (B * G)) ↔ (2 * (A % (2 * B)) < 3 * B) := by have := sc_le 3 2 B (A % (2 * B)) G h; omega
  have e3 : (A % (2 * B) * G < B * G) ↔ (A % (2 * B) < B) := by have := sc_le 1 1 B (A % (2 * B)) G h; omega
  simp only [e1, e2, e3]
  split
  · rfl
  · split
    · split
      · rw [Nat.sub_mul]
      · rw [Nat.sub_mul]
    · rw [Nat.sub_mul, Nat.mul_assoc]
/-- the remainder by the nearest quotient, ties to the even one: A = |a|, B = |b| -/
def near (A B : Nat) : Int := if B < 2 * (A % B) ∨ (2 * (A % B) = B ∧ A / B % 2 = 1) then ((A % B : Nat) : Int) - B else ((A % B : Nat) : Int)
def sgn (s : Bool) (z : Int) : Int := if s = true then -z else z
theorem sgn_sgn (s t : Bool) (z : Int) : sgn s (sgn t z) = sgn (t ^^ s) z := by cases s <;> cases t <;> simp [sgn]
theorem sgn_zero (s : Bool) (z : Int) : sgn s z = 0 ↔ z = 0 := by cases s <;> simp [sgn]
theorem near_eq (A B : Nat) (hB : 0 < B) : near A B = sgn (remT A B) (remN A B : Int) := by
  have hm := Nat.mod_lt A hB
  have hq : A % (2 * B) = if A / B % 2 = 1 then A % B + B else A % B := by
    have e := Nat.div_add_mod A B
    have hq2 := Nat.div_add_mod (A / B) 2
    have h1 := Nat.mod_lt (A / B) (show 0 < 2 by omega)
    split
    · rename_i h
      have : A = (A % B + B) + 2 * B * (A / B / 2) := by
        rw [h] at hq2
        have e2 : B * (A / B) = 2 * B * (A / B / 2) + B := by
          conv => lhs; rw [← hq2]
          rw [Nat.mul_add, Nat.mul_one, ← Nat.mul_assoc, Nat.mul_comm B 2]
        omega
      conv => lhs; rw [this]
      rw [Nat.add_mul_mod_self_left, Nat.mod_eq_of_lt (by omega)]
    · rename_i h
      have h0 : A / B % 2 = 0 := by omega
      have : A = A % B + 2 * B * (A / B / 2) := by
        rw [h0] at hq2
        have e2 : B * (A / B) = 2 * B * (A / B / 2) := by
          conv => lhs; rw [← hq2]
          rw [Nat.add_zero, ← Nat.mul_assoc, Nat.mul_comm B 2]
        omega
      conv => lhs; rw [this]
      rw [Nat.add_mul_mod_self_left, Nat.mod_eq_of_lt (by omega)]
  unfold near remT remN sgn
  rw [hq]
  by_cases ho : A / B % 2 = 1
  · simp only [ho, if_true, and_true]
    generalize A % B = r at hm ⊢
    have e1 : ¬ 2 * (r + B) ≤ B := by omega
    by_cases c1 : B < 2 * r ∨ 2 * r = B
    · have e2 : ¬ 2 * (r + B) < 3 * B := by omega
      simp only [c1, e1, e2, if_true, if_false]
      omega
    · have e2 : 2 * (r + B) < 3 * B := by omega
      have e3 : ¬ r + B < B := by omega
      simp only [c1, e1, e2, e3, if_true, if_false, decide_false, Bool.false_eq_true]
      omega
  · simp only [ho, if_false, and_false, or_false]
    generalize A % B = r at hm ⊢
    by_cases c1 : B < 2 * r
    · have e1 : ¬ 2 * r ≤ B := by omega
      have e2 : 2 * r < 3 * B := by omega
      simp only [c1, e1, e2, hm, if_true, if_false, decide_true]
      omega
    · have e1 : 2 * r ≤ B := by omega
      simp only [c1, e1, if_true, if_false, Bool.false_eq_true]
/-- the answer's word, of whole numbers -/
theorem DW_int (s t : Bool) (n : Nat) (hn : n < 2 ^ 53) : DW s t (n * p2 1074) = if n = 0 then wd s 0 else floatOfInt .f64 (sgn (t ^^ s) n) := by
  unfold DW sgn
  have hp := p2_pos 1074
  rw [ofInt_eq]
  unfold rE
  generalize p2 1074 = G at hp ⊢
  by_cases h : n = 0
  · rw [if_pos h, if_pos (by rw [h, Nat.zero_mul])]
  · rw [if_neg h, if_neg (by intro e; rcases Nat.mul_eq_zero.1 e with e | e <;> omega)]
    cases t ^^ s
    · rw [if_neg (by decide), Int.natAbs_natCast, decide_eq_false (by omega)]
    · rw [if_pos rfl, Int.natAbs_neg, Int.natAbs_natCast, decide_eq_true (by omega)]
/-- the signed answer at whole numbers -/
def ansI (a b : Int) : Int := sgn (decide (a < 0)) (near a.natAbs b.natAbs)
theorem drem_int (a b : Int) (w : World) (ha : a.natAbs < 2 ^ 52) (hb : b.natAbs < 2 ^ 52) (hb0 : b ≠ 0) :
    Calls Try.prog 19 #[.float .f64 (floatOfInt .f64 a), .float .f64 (floatOfInt .f64 b)] w fun e w' => e = .returned (.float .f64 (if ansI a b = 0 then wd (decide (a < 0)) 0 else floatOfInt .f64 (ansI a b))) ∧ w = w' := by
  obtain ⟨a1, a2⟩ := rE_ok a.natAbs (by omega)
  obtain ⟨b1, b2⟩ := rE_ok b.natAbs (by omega)
  have hbz : rE b.natAbs ≠ 0 := by
    intro e
    rw [e, U_zero] at b1
    have hp := p2_pos 1074
    generalize p2 1074 = G at b1 hp
    rcases Nat.mul_eq_zero.1 b1.symm with h | h
    · omega
    · omega
  have h := drem_all (decide (a < 0)) (decide (b < 0)) (rE a.natAbs) (rE b.natAbs) w a2 b2 hbz
  rw [← ofInt_eq, ← ofInt_eq, a1, b1, remT_sc _ _ _ (p2_pos _), remN_sc _ _ _ (p2_pos _)] at h
  have hB : 0 < b.natAbs := by omega
  have hn := remN_half a.natAbs b.natAbs hB
  have hn53 : remN a.natAbs b.natAbs < 2 ^ 53 := by clear a1 b1 h; omega
  rw [DW_int _ _ _ hn53] at h
  have hne := near_eq a.natAbs b.natAbs hB
  have key : ansI a b = sgn (remT a.natAbs b.natAbs ^^ decide (a < 0)) (remN a.natAbs b.natAbs : Int) := by unfold ansI; rw [hne, sgn_sgn]
  rw [← key] at h
  have kz : remN a.natAbs b.natAbs = 0 ↔ ansI a b = 0 := by rw [key, sgn_zero]; omega
  by_cases h0 : ansI a b = 0
  · rw [if_pos (kz.2 h0)] at h
    rw [if_pos h0]
    exact h
  · rw [if_neg (fun e => h0 (kz.1 e))] at h
    rw [if_neg h0]
    exact h
end Go.Proofs.Ytcpfnepkjbadjaa
