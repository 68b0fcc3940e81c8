/- Exact steps on float64 words: differences, doubles, halves; the parts of a number. No program in sight. -/
import Derived.Test.YtcpfnepkjbadjaaLdFin
import Derived.Test.YtcpfnepkjbadjaaLdCv
namespace Go.Proofs.Ytcpfnepkjbadjaa
open Ieee
set_option linter.unusedVariables false
theorem rep_sub {A B : Nat} (hA : Rep A) (hB : Rep B) (h1 : B ≤ A) (h2 : A - B ≤ B) : Rep (A - B) := by
  obtain ⟨m, i, rfl, hm⟩ := hA
  obtain ⟨n, j, rfl, hn⟩ := hB
  rcases Nat.le_total j i with h | h
  · have e : m * 2 ^ i = m * 2 ^ (i - j) * 2 ^ j := by rw [Nat.mul_assoc, ← Nat.pow_add, Nat.sub_add_cancel h]
    rw [e, ← Nat.sub_mul] at h2 ⊢
    have := Nat.le_of_mul_le_mul_right h2 (Nat.two_pow_pos j)
    exact ⟨_, j, rfl, by omega⟩
  · have e : n * 2 ^ j = n * 2 ^ (j - i) * 2 ^ i := by rw [Nat.mul_assoc, ← Nat.pow_add, Nat.sub_add_cancel h]
    rw [e, ← Nat.sub_mul]
    exact ⟨_, i, rfl, by omega⟩
theorem wd_f (r : Nat) : wd false r = r := rfl
/-- a number of units that is a word's -/
theorem rung_of {n : Nat} (h : Rep n) (ht : n < TOP) : U (rn n 0) = n ∧ rn n 0 < double.infRung := rep_back n h ht
theorem sub_pos {a b : Nat} (ha : a < double.infRung) (hb : b < double.infRung) (h : U b ≤ U a) (hr : Rep (U a - U b)) : ∃ r, double.sub a b = some r ∧ r < double.infRung ∧ U r = U a - U b := by
  have h1 := sub_fin false false a b ha hb
  have hs : sn false (U a) + sn (!false) (U b) = ((U a - U b : Nat) : Int) := by
    unfold sn; simp; omega
  have hd : (if (((U a - U b : Nat) : Int)) = 0 then false && !false else decide ((((U a - U b : Nat) : Int)) < 0)) = false := by
    split
    · rfl
    · simp
  rw [hs, hd, Int.natAbs_natCast, wd_f, wd_f, wd_f] at h1
  have ht : U a - U b < TOP := by have := U_lt a ha; omega
  obtain ⟨h2, h3⟩ := rung_of hr ht
  exact ⟨_, h1, h3, h2⟩
theorem sub_neg {a b : Nat} (ha : a < double.infRung) (hb : b < double.infRung) (h : U a < U b) (hr : Rep (U b - U a)) : ∃ r, double.sub a b = some (wd true r) ∧ r < double.infRung ∧ U r = U b - U a := by
  have h1 := sub_fin false false a b ha hb
  have hs : sn false (U a) + sn (!false) (U b) = -((U b - U a : Nat) : Int) := by
    unfold sn; simp; omega
  have hd : (if -(((U b - U a : Nat) : Int)) = 0 then false && !false else decide (-(((U b - U a : Nat) : Int)) < 0)) = true := by
    rw [if_neg (by omega), decide_eq_true_eq]
    omega
  rw [hs, hd, Int.natAbs_neg, Int.natAbs_natCast, wd_f, wd_f] at h1
  have ht : U b - U a < TOP := by have := U_lt b hb; omega
  obtain ⟨h2, h3⟩ := rung_of hr ht
  exact ⟨_, h1, h3, h2⟩
theorem add_self {a : Nat} (s : Bool) (ha : a < double.infRung) (ht : U a * 2 < TOP) : ∃ r, double.add (wd s a) (wd s a) = some (wd s r) ∧ r < double.infRung ∧ U r = U a * 2 := by
  have h1 := add_fin s s a a ha ha
  have hr : Rep (U a * 2) := by
    have := rep_mul (k := 1) (rep_U a)
    rwa [Nat.pow_one] at this
  obtain ⟨h2, h3⟩ := rung_of hr ht
  have hs : sn s (U a) + sn s (U a) = sn s (U a * 2) := by unfold sn; cases s <;> simp <;> omega
  have ha2 : (sn s (U a * 2)).natAbs = U a * 2 := by
    generalize U a * 2 = n
    unfold sn
    cases s
    · simp only [Bool.false_eq_true, if_false, Int.natAbs_natCast]
    · simp only [if_true, Int.natAbs_neg, Int.natAbs_natCast]
  have hd : (if sn s (U a * 2) = 0 then s && s else decide (sn s (U a * 2) < 0)) = s := by
    by_cases hz : sn s (U a * 2) = 0
    · rw [if_pos hz, Bool.and_self]
    · rw [if_neg hz]
      unfold sn at hz ⊢
      cases s
      · simp only [Bool.false_eq_true, if_false] at hz ⊢
        rw [decide_eq_false_iff_not]; omega
      · simp only [if_true] at hz ⊢
        rw [decide_eq_true_eq]; omega
  rw [hs, hd, ha2] at h1
  exact ⟨_, h1, h3, h2⟩
theorem U_inj {a b : Nat} (ha : a < double.infRung) (hb : b < double.infRung) (h : U a = U b) : a = b := by
  rcases Nat.lt_trichotomy a b with h1 | h1 | h1
  · have := U_mono h1 hb; omega
  · exact h1
  · have := U_mono h1 ha; omega
theorem U_lt_iff {a b : Nat} (ha : a < double.infRung) (hb : b < double.infRung) : U a < U b ↔ a < b := by
  constructor
  · intro h
    rcases Nat.lt_or_ge a b with h1 | h1
    · exact h1
    · rcases Nat.lt_or_ge b a with h2 | h2
      · have := U_mono h2 ha; omega
      · have : a = b := by omega
        subst this; omega
  · intro h; exact U_mono h hb
theorem ord_pos {a b : Nat} (ha : a < double.infRung) (hb : b < double.infRung) : double.order a b = some (compare ((U a : Nat) : Int) ((U b : Nat) : Int)) := by
  have := order_fin false false a b ha hb
  exact this
theorem ordR_lt {a b : Nat} (ha : a < double.infRung) (hb : b < double.infRung) (h : U a < U b) : double.order a b = some .lt := by rw [ord_pos ha hb, cmp_lt (by omega)]
theorem ordR_gt {a b : Nat} (ha : a < double.infRung) (hb : b < double.infRung) (h : U b < U a) : double.order a b = some .gt := by rw [ord_pos ha hb, cmp_gt (by omega)]
theorem ordR_eq {a b : Nat} (ha : a < double.infRung) (hb : b < double.infRung) (h : U a = U b) : double.order a b = some .eq := by rw [ord_pos ha hb, cmp_eq (by omega)]
/-- the parts of a finite number that is not zero: its digits, and their place above 2^-1126 -/
theorem parts_of (r : Nat) (h0 : r ≠ 0) (hr : r < double.infRung) (r' : Nat) (e1 : Int) (h1 : 2 ^ 52 ≤ r') (h2 : r' < double.infRung) (h3 : -52 ≤ e1) (h4 : e1 ≤ 0) (heq : ∀ e, rnE (U r) e = rnE (U r') (e + e1)) :
    U r * 2 ^ (-e1).toNat = U r' := by
  have ha := heq (-e1)
  rw [show -e1 + e1 = 0 by omega, rnE_U r' h2, rnE_up _ _ (by omega)] at ha
  have ht : U r * 2 ^ (-e1).toNat < TOP := by
    rcases Nat.lt_or_ge (U r * 2 ^ (-e1).toNat) TOP with h | h
    · exact h
    · have := rn_big h
      omega
  have := (rep_back _ (rep_mul (rep_U r)) ht).1
  rw [ha] at this
  exact this.symm
/-- how the quotient's last step is chosen -/
theorem step_ok (R Y cR cY kR kY : Nat) (hR : R * 2 ^ 52 = cR * 2 ^ kR) (hY : Y * 2 ^ 52 = cY * 2 ^ kY) (a1 : 2 ^ 52 ≤ cR) (a2 : cR < 2 ^ 53) (b1 : 2 ^ 52 ≤ cY) (b2 : cY < 2 ^ 53) (hle : Y ≤ R) :
    (cY ≤ cR → kY ≤ kR ∧ Y * 2 ^ (kR - kY) ≤ R ∧ R ≤ 2 * (Y * 2 ^ (kR - kY))) ∧ (cR < cY → kY + 1 ≤ kR ∧ Y * 2 ^ (kR - kY - 1) ≤ R ∧ R ≤ 2 * (Y * 2 ^ (kR - kY - 1))) := by
  have hYR : cY * 2 ^ kY ≤ cR * 2 ^ kR := by
    rw [← hY, ← hR]
    exact Nat.mul_le_mul_right _ hle
  have hk : kY ≤ kR := by
    rcases Nat.lt_or_ge kR kY with h | h
    · have e : 2 ^ kY = 2 ^ (kY - kR - 1) * 2 * 2 ^ kR := by
        rw [Nat.mul_assoc, two_mul_pow, ← Nat.pow_add]
        congr 1; omega
      rw [e, ← Nat.mul_assoc] at hYR
      have h3 := Nat.le_of_mul_le_mul_right hYR (Nat.two_pow_pos kR)
      have h4 := Nat.two_pow_pos (kY - kR - 1)
      have h5 : cY * (1 * 2) ≤ cY * (2 ^ (kY - kR - 1) * 2) := Nat.mul_le_mul_left _ (by omega)
      omega
    · exact h
  have shift : ∀ d, d ≤ kR - kY → (Y * 2 ^ d) * 2 ^ 52 = cY * 2 ^ (kY + d) := fun d _ => by
    rw [Nat.mul_right_comm, hY, Nat.mul_assoc, ← Nat.pow_add]
  refine ⟨fun h => ⟨hk, ?_, ?_⟩, fun h => ?_⟩
  · have := shift (kR - kY) (Nat.le_refl _)
    rw [show kY + (kR - kY) = kR by omega] at this
    refine Nat.le_of_mul_le_mul_right (c := 2 ^ 52) ?_ (Nat.two_pow_pos 52)
    rw [this, hR]
    exact Nat.mul_le_mul_right _ h
  · have := shift (kR - kY) (Nat.le_refl _)
    rw [show kY + (kR - kY) = kR by omega] at this
    refine Nat.le_of_mul_le_mul_right (c := 2 ^ 52) ?_ (Nat.two_pow_pos 52)
    rw [Nat.mul_assoc 2, this, hR, ← Nat.mul_assoc]
    exact Nat.mul_le_mul_right _ (by omega)
  · have hlt : kY + 1 ≤ kR := by
      rcases Nat.lt_or_ge kY kR with h3 | h3
      · exact h3
      · have e : kY = kR := by omega
        subst e
        have := Nat.le_of_mul_le_mul_right hYR (Nat.two_pow_pos kY)
        omega
    have := shift (kR - kY - 1) (by omega)
    rw [show kY + (kR - kY - 1) = kR - 1 by omega] at this
    have e : 2 ^ kR = 2 * 2 ^ (kR - 1) := by rw [two_mul_pow]; congr 1; omega
    refine ⟨hlt, ?_, ?_⟩
    · refine Nat.le_of_mul_le_mul_right (c := 2 ^ 52) ?_ (Nat.two_pow_pos 52)
      rw [this, hR, e, ← Nat.mul_assoc]
      exact Nat.mul_le_mul_right _ (by omega)
    · refine Nat.le_of_mul_le_mul_right (c := 2 ^ 52) ?_ (Nat.two_pow_pos 52)
      rw [Nat.mul_assoc 2, this, hR, e, Nat.mul_left_comm]
      exact Nat.mul_le_mul_left _ (Nat.mul_le_mul_right _ (by omega))
/-- what is left of R modulo Y behind a step -/
theorem step_mod (R Y d : Nat) (h : Y * 2 ^ d ≤ R) : (R - Y * 2 ^ d) % Y = R % Y := by
  have e : R = Y * 2 ^ d + (R - Y * 2 ^ d) := by omega
  conv => rhs; rw [e]
  rw [Nat.add_comm, Nat.add_mul_mod_self_left]
end Go.Proofs.Ytcpfnepkjbadjaa
