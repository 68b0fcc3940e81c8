/- Plain facts on fmax and fmin over float64 words. No program in sight but the contracts' own words. -/
import Derived.Test.YtcpfnepkjbadjaaFlWalks
namespace Go.Proofs.Ytcpfnepkjbadjaa
open Go.RowKit
theorem sameB_self (x : Nat) : sameB x x = true := by
  unfold sameB
  cases h : nanB x <;> simp
theorem ge_ok {x y : Nat} (hx : x < 2 ^ 64) (hy : y < 2 ^ 64) (nx : nanB x = false) (ny : nanB y = false) (h : V y ≤ V x) : (FloatKind.f64.format.order x y == some Ordering.gt || FloatKind.f64.format.order x y == some Ordering.eq) = true := by
  rw [fmt_eq]
  rcases Int.lt_or_eq_of_le h with h1 | h1
  · rw [ord_gt hx hy nx ny h1]; rfl
  · rw [ord_eq hx hy nx ny h1.symm]; rfl
theorem le_ok {x y : Nat} (hx : x < 2 ^ 64) (hy : y < 2 ^ 64) (nx : nanB x = false) (ny : nanB y = false) (h : V x ≤ V y) : (FloatKind.f64.format.order x y == some Ordering.lt || FloatKind.f64.format.order x y == some Ordering.eq) = true := by
  rw [fmt_eq]
  rcases Int.lt_or_eq_of_le h with h1 | h1
  · rw [ord_lt hx hy nx ny h1]; rfl
  · rw [ord_eq hx hy nx ny h1]; rfl
theorem eq_zero {x : Nat} (hx : x < 2 ^ 64) (nx : nanB x = false) : (FloatKind.f64.format.order x 0 == some Ordering.eq) = decide (V x = 0) := by
  rw [fmt_eq]
  rcases Int.lt_trichotomy (V x) 0 with h | h | h
  · rw [ord_lt hx (by omega) nx nan_zero h]; simp; omega
  · rw [ord_eq hx (by omega) nx nan_zero h]; simp [h]
  · rw [ord_gt hx (by omega) nx nan_zero h]; simp; omega
theorem negB_of {x : Nat} (nx : nanB x = false) : negB x = decide (2 ^ 63 ≤ x) := by unfold negB; rw [nx]; simp
theorem fmax_facts {l r g : Nat} (hl : l < 2 ^ 64) (hr : r < 2 ^ 64) (nl : nanB l = false) (nr : nanB r = false) (hg : fmaxW l r = g) :
    g < 2 ^ 64 ∧ nanB g = false ∧ V l ≤ V g ∧ V r ≤ V g ∧ (sameB g l = true ∨ (sameB g l = false ∧ sameB g r = true)) ∧ (V g = 0 → (negB g == (negB l && negB r)) = true) := by
  unfold fmaxW at hg
  rw [nl, nr, if_neg (by simp), if_neg (by simp)] at hg
  have pick : ∀ b : Nat, b = g → b = r → (sameB g l = true ∨ (sameB g l = false ∧ sameB g r = true)) := by
    rintro b rfl rfl
    cases h : sameB b l
    · exact Or.inr ⟨rfl, sameB_self b⟩
    · exact Or.inl rfl
  rw [negB_of nl, negB_of nr]
  rcases Int.lt_trichotomy (V l) (V r) with h | h | h
  · rw [if_pos h] at hg
    refine ⟨by omega, by rw [← hg]; exact nr, by rw [← hg]; omega, by rw [← hg]; omega, pick r hg rfl, fun hz => ?_⟩
    subst hg
    have := V_neg hl (by omega)
    rw [negB_of nr]; simp [this]
  · rw [if_neg (by omega), if_neg (by omega)] at hg
    by_cases hb : 2 ^ 63 ≤ l
    · rw [if_pos hb] at hg
      refine ⟨by omega, by rw [← hg]; exact nr, by rw [← hg]; omega, by rw [← hg]; omega, pick r hg rfl, fun hz => ?_⟩
      subst hg
      rw [negB_of nr]; simp [hb]
    · rw [if_neg hb] at hg
      subst hg
      refine ⟨hl, nl, by omega, by omega, Or.inl (sameB_self l), fun hz => ?_⟩
      rw [negB_of nl]; simp [hb]
  · rw [if_neg (by omega), if_pos h] at hg
    subst hg
    refine ⟨hl, nl, by omega, by omega, Or.inl (sameB_self l), fun hz => ?_⟩
    have := V_neg hr (by omega)
    rw [negB_of nl]; simp [this]
theorem fmin_facts {l r g : Nat} (hl : l < 2 ^ 64) (hr : r < 2 ^ 64) (nl : nanB l = false) (nr : nanB r = false) (hg : fminW l r = g) :
    g < 2 ^ 64 ∧ nanB g = false ∧ V g ≤ V l ∧ V g ≤ V r ∧ (sameB g l = true ∨ (sameB g l = false ∧ sameB g r = true)) ∧ (V g = 0 → (negB g == (negB l || negB r)) = true) := by
  unfold fminW at hg
  rw [nl, nr, if_neg (by simp), if_neg (by simp)] at hg
  have pick : ∀ b : Nat, b = g → b = r → (sameB g l = true ∨ (sameB g l = false ∧ sameB g r = true)) := by
    rintro b rfl rfl
    cases h : sameB b l
    · exact Or.inr ⟨rfl, sameB_self b⟩
    · exact Or.inl rfl
  rw [negB_of nl, negB_of nr]
  rcases Int.lt_trichotomy (V l) (V r) with h | h | h
  · rw [if_pos h] at hg
    subst hg
    refine ⟨hl, nl, by omega, by omega, Or.inl (sameB_self l), fun hz => ?_⟩
    have := V_pos (x := r) (by omega)
    rw [negB_of nl]; simp [this]
  · rw [if_neg (by omega), if_neg (by omega)] at hg
    by_cases hb : 2 ^ 63 ≤ l
    · rw [if_pos hb] at hg
      subst hg
      refine ⟨hl, nl, by omega, by omega, Or.inl (sameB_self l), fun hz => ?_⟩
      rw [negB_of nl]; simp [hb]
    · rw [if_neg hb] at hg
      refine ⟨by omega, by rw [← hg]; exact nr, by rw [← hg]; omega, by rw [← hg]; omega, pick r hg rfl, fun hz => ?_⟩
      subst hg
      rw [negB_of nr]; simp [hb]
  · rw [if_neg (by omega), if_pos h] at hg
    refine ⟨by omega, by rw [← hg]; exact nr, by rw [← hg]; omega, by rw [← hg]; omega, pick r hg rfl, fun hz => ?_⟩
    subst hg
    have := V_pos (x := l) (by omega)
    rw [negB_of nr]; simp [this]
end Go.Proofs.Ytcpfnepkjbadjaa
