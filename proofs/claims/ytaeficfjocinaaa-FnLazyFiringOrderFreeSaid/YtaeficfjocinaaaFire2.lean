/- Small laws round a kept slot. -/
import Derived.Test.YtaeficfjocinaaaFire
namespace Go.Proofs.Ytaeficfjocinaaa
open Go.RowKit
set_option maxRecDepth 100000
set_option linter.unusedVariables false
theorem Setter.keptC {w w' : World} {base C n0 i : Nat} {op : Int} {cs : List (Option Cd)} (h : Setter w C n0 op i) (hk : Lib.OthersKept 35 (some C) w w') (hD : CSx w base C cs) : Setter w' C n0 op i := by
  obtain ⟨cc, V, hD⟩ := hD
  exact h.kept hk hD.c
theorem codeAt_nil (base C : Nat) (cs : List (Option Cd)) (i : Nat) (w : World) (h : CSx w base C cs) (hx : cs[i]? = some none) (hn : cs.length ≤ 10000000) : Calls Try.prog 23 #[.pointer (some ⟨C, 0, none⟩), .int .i64 i] w fun e w' => e = .returned (.pointer none) ∧ w = w' := codeAt_any base C cs i none w h hx hn
theorem len_eq (base C n : Nat) (cs : List (Option Cd)) (w : World) (h : CSx w base C cs) (hl : cs.length = n) : Calls Try.prog 16 #[.pointer (some ⟨C, 0, none⟩)] w fun e w' => e = .returned (.int .i64 n) ∧ w = w' := by
  subst hl
  exact len_any base C cs w h
/-- a list of codes with the slot np filled -/
theorem laz_list {cs xs : List (Option Cd)} {l0 l1 l2 l3 : List Int} {np nb : Nat} (h0 : Ints cs l0 l1 np) (h1 : Ints xs l2 l3 nb) (y : Option Cd) :
    ((cs ++ [none] ++ xs).set np y).length = np + 1 + nb ∧ ((cs ++ [none] ++ xs).set np y)[np]? = some y ∧ (∀ i a b, i < np → l0[i]? = some a → l1[i]? = some b → ∃ k, ((cs ++ [none] ++ xs).set np y)[i]? = some (ic k a b)) ∧ (∀ i a b, i < nb → l2[i]? = some a → l3[i]? = some b → ∃ k, ((cs ++ [none] ++ xs).set np y)[np + 1 + i]? = some (ic k a b)) := by
  have e0 := h0.1
  have e1 := h1.1
  refine ⟨by simp [e0, e1]; omega, ?_, fun i a b hi ha hb => ?_, fun i a b hi ha hb => ?_⟩
  · rw [List.getElem?_set_self (by simp [e0])]
  · obtain ⟨k, hk⟩ := h0.2 i a b hi ha hb
    refine ⟨k, ?_⟩
    rw [List.getElem?_set_ne (by omega), List.append_assoc, List.getElem?_append_left (by omega)]
    exact hk
  · obtain ⟨k, hk⟩ := h1.2 i a b hi ha hb
    refine ⟨k, ?_⟩
    rw [List.getElem?_set_ne (by omega), List.getElem?_append_right (by simp [e0])]
    simp only [List.length_append, List.length_singleton, e0]
    rw [show np + 1 + i - (np + 1) = i by omega]
    exact hk
end Go.Proofs.Ytaeficfjocinaaa
