/- Two kept slots, filled in either order. -/
import Derived.Test.YtaeficfjocinaaaFire2
namespace Go.Proofs.Ytaeficfjocinaaa
open Go.RowKit
set_option maxRecDepth 100000
set_option linter.unusedVariables false
/-- both slots filled -/
structure Two (L : List (Option Cd)) (l0 l1 l2 l3 : List Int) (np nb : Nat) (a b : Int) : Prop where
  len : L.length = np + 1 + nb + 1
  a : ∃ k, L[np]? = some (ic k a ((np : Int) + 1 + (nb : Int) + 1))
  b : ∃ k, L[np + 1 + nb]? = some (ic k b ((np : Int) + 1 + (nb : Int) + 1))
  pre : ∀ i x y, i < np → l0[i]? = some x → l1[i]? = some y → ∃ k, L[i]? = some (ic k x y)
  mid : ∀ i x y, i < nb → l2[i]? = some x → l3[i]? = some y → ∃ k, L[np + 1 + i]? = some (ic k x y)
theorem two_of {cs xs : List (Option Cd)} {l0 l1 l2 l3 : List Int} {np nb : Nat} (h0 : Ints cs l0 l1 np) (h1 : Ints xs l2 l3 nb) (ka kb : Nat) (a b : Int) :
    Two (((cs ++ [none] ++ xs ++ [none]).set np (ic ka a ((np : Int) + 1 + (nb : Int) + 1))).set (np + 1 + nb) (ic kb b ((np : Int) + 1 + (nb : Int) + 1))) l0 l1 l2 l3 np nb a b := by
  have e0 := h0.1
  have e1 := h1.1
  refine ⟨by simp [e0, e1]; omega, ⟨ka, ?_⟩, ⟨kb, ?_⟩, fun i x y hi hx hy => ?_, fun i x y hi hx hy => ?_⟩
  · rw [List.getElem?_set_ne (by omega), List.getElem?_set_self (by simp [e0])]
  · rw [List.getElem?_set_self (by simp [e0, e1]; omega)]
  · obtain ⟨k, hk⟩ := h0.2 i x y hi hx hy
    refine ⟨k, ?_⟩
    rw [List.getElem?_set_ne (by omega), List.getElem?_set_ne (by omega), List.append_assoc, List.append_assoc, List.getElem?_append_left (by omega)]
    exact hk
  · obtain ⟨k, hk⟩ := h1.2 i x y hi hx hy
    refine ⟨k, ?_⟩
    rw [List.getElem?_set_ne (by omega), List.getElem?_set_ne (by omega), List.append_assoc, List.getElem?_append_right (by simp [e0])]
    simp only [List.length_append, List.length_singleton, e0]
    rw [show np + 1 + i - (np + 1) = i by omega, List.getElem?_append_left (by omega)]
    exact hk
theorem two_of' {cs xs : List (Option Cd)} {l0 l1 l2 l3 : List Int} {np nb : Nat} (h0 : Ints cs l0 l1 np) (h1 : Ints xs l2 l3 nb) (ka kb : Nat) (a b : Int) :
    Two (((cs ++ [none] ++ xs ++ [none]).set (np + 1 + nb) (ic kb b ((np : Int) + 1 + (nb : Int) + 1))).set np (ic ka a ((np : Int) + 1 + (nb : Int) + 1))) l0 l1 l2 l3 np nb a b := by
  rw [List.set_comm _ _ (by omega)]
  exact two_of h0 h1 ka kb a b
theorem laz2_at {cs xs : List (Option Cd)} {l0 l1 l2 l3 : List Int} {np nb : Nat} (h0 : Ints cs l0 l1 np) (h1 : Ints xs l2 l3 nb) (y : Option Cd) :
    ((cs ++ [none] ++ xs ++ [none]).set np y)[np + 1 + nb]? = some none ∧ ((cs ++ [none] ++ xs ++ [none]).set (np + 1 + nb) y)[np]? = some none ∧ (cs ++ [none] ++ xs ++ [none]).length = np + 1 + nb + 1 := by
  have e0 := h0.1
  have e1 := h1.1
  refine ⟨?_, ?_, by simp [e0, e1]; omega⟩
  · rw [List.getElem?_set_ne (by omega), List.getElem?_append_right (by simp [e0, e1]; omega)]
    simp [e0, e1]
    rw [show np + 1 + nb - (np + (nb + 1)) = 0 by omega]
    rfl
  · rw [List.getElem?_set_ne (by omega), List.append_assoc, List.append_assoc, List.getElem?_append_right (by omega)]
    simp [e0]
theorem fire_eq (base C n0 i n : Nat) (cs : List (Option Cd)) (op v : Int) (w : World) (h : CSx w base C cs) (hs : Setter w C n0 op i) (hi : i < cs.length) (hn : cs.length ≤ 10000000) (hv : (cs.length : Int) = v) :
    Calls Try.prog 52 #[.pointer (some ⟨n0 + 3, 0, none⟩), .pointer (some ⟨n0 + 2, 0, none⟩), .pointer (some ⟨n0 + 4, 0, none⟩)] w fun e w' => e = .returned (.tuple #[]) ∧ ∃ k, CSx w' base C (cs.set i (ic k op v)) ∧ Below base w w' ∧ Lib.OthersKept 35 (some C) w w' := by
  refine (fire_any base C n0 i cs op w h hs hi hn).mono ?_
  rintro e w' ⟨rfl, h1, h2, h3⟩
  rw [hv] at h1
  exact ⟨rfl, _, h1, h2, h3⟩
end Go.Proofs.Ytaeficfjocinaaa
