/- validUTF8: where it says true the text is well-formed; the encoding tells well-formed texts apart. -/
import Derived.Test.YtbjjcampiknnpaaDoorUr
import Derived.Test.YtbjjcampiknnpaaDoorMq
import Derived.Laws.BitsAllLaws
import Derived.Deep.LoopGhost
namespace Go.Proofs.YtbjjcampiknnpaaDoor
open Go.RowKit
set_option maxRecDepth 100000
set_option linter.unusedVariables false
set_option linter.unusedSimpArgs false
theorem hxd_all : ∀ a : Fin 16, ∀ b : Fin 16, hxd a.val = hxd b.val → a.val = b.val := by decide
theorem hxd_inj (a b : Nat) (ha : a < 16) (hb : b < 16) (h : hxd a = hxd b) : a = b := hxd_all ⟨a, ha⟩ ⟨b, hb⟩ h
theorem UQ.func {r d : List UInt8} (h : UQ r d) : ∀ {e : List UInt8}, UQ r e → d = e := by
  induction h with
  | nil => intro e h; cases h; rfl
  | @plain c r d h1 h2 _ ih =>
    intro e h
    cases h with
    | plain _ _ h => rw [ih h]
    | esc _ _ => exact absurd rfl h2
    | uni _ _ => exact absurd rfl h2
    | bad _ => exact absurd rfl h2
  | @esc x b r d hp _ ih =>
    intro e h
    cases h with
    | plain _ h2 _ => exact absurd rfl h2
    | @esc _ b2 _ _ hp2 h =>
      rw [ih h]
      have hb : b = b2 := by
        rcases hp with ⟨rfl, rfl⟩ | ⟨rfl, rfl⟩ | ⟨rfl, rfl⟩ | ⟨rfl, rfl⟩ | ⟨rfl, rfl⟩ | ⟨rfl, rfl⟩ | ⟨rfl, rfl⟩ <;>
        rcases hp2 with ⟨h1, rfl⟩ | ⟨h1, rfl⟩ | ⟨h1, rfl⟩ | ⟨h1, rfl⟩ | ⟨h1, rfl⟩ | ⟨h1, rfl⟩ | ⟨h1, rfl⟩ <;>
        first | rfl | (exact absurd h1 (by decide))
      rw [hb]
    | uni _ _ => rcases hp with ⟨h1, _⟩ | ⟨h1, _⟩ | ⟨h1, _⟩ | ⟨h1, _⟩ | ⟨h1, _⟩ | ⟨h1, _⟩ | ⟨h1, _⟩ <;> exact absurd h1 (by decide)
    | bad _ => rcases hp with ⟨h1, _⟩ | ⟨h1, _⟩ | ⟨h1, _⟩ | ⟨h1, _⟩ | ⟨h1, _⟩ | ⟨h1, _⟩ | ⟨h1, _⟩ <;> exact absurd h1 (by decide)
  | @uni b r d hb _ ih =>
    intro e h
    generalize hg : (92 :: 117 :: 48 :: 48 :: hxd (b / 16) :: hxd (b % 16) :: r) = L at h
    cases h with
    | nil => cases hg
    | plain _ h2 _ => injection hg with h3 _; exact absurd h3.symm h2
    | esc hp _ =>
      injection hg with _ hg
      injection hg with h1 _
      subst h1
      rcases hp with ⟨h1, _⟩ | ⟨h1, _⟩ | ⟨h1, _⟩ | ⟨h1, _⟩ | ⟨h1, _⟩ | ⟨h1, _⟩ | ⟨h1, _⟩ <;> exact absurd h1 (by decide)
    | @uni b2 _ _ hb2 h =>
      simp only [List.cons.injEq, true_and] at hg
      obtain ⟨g1, g2, rfl⟩ := hg
      rw [ih h]
      have e1 := hxd_inj (b / 16) (b2 / 16) (by omega) (by omega) g1
      have e2 := hxd_inj (b % 16) (b2 % 16) (by omega) (by omega) g2
      have : b = b2 := by omega
      rw [this]
    | bad _ => simp at hg
  | @bad r d _ ih =>
    intro e h
    generalize hg : (92 :: 117 :: 102 :: 102 :: 102 :: 100 :: r) = L at h
    cases h with
    | nil => cases hg
    | plain _ h2 _ => injection hg with h3 _; exact absurd h3.symm h2
    | esc hp _ =>
      injection hg with _ hg
      injection hg with h1 _
      subst h1
      rcases hp with ⟨h1, _⟩ | ⟨h1, _⟩ | ⟨h1, _⟩ | ⟨h1, _⟩ | ⟨h1, _⟩ | ⟨h1, _⟩ | ⟨h1, _⟩ <;> exact absurd h1 (by decide)
    | uni _ _ => simp at hg
    | bad h =>
      simp only [List.cons.injEq, true_and] at hg
      subst hg
      rw [ih h]
theorem enc_inj {a b : List UInt8} (ha : OkU a) (hb : OkU b) (h : enc a = enc b) : a = b := by
  obtain ⟨d, h1, h2⟩ := uq_enc _ a (Nat.le_refl _)
  obtain ⟨e, h3, h4⟩ := uq_enc _ b (Nat.le_refl _)
  rw [h] at h1
  rw [← h2 ha, ← h4 hb]
  exact h1.func h3
theorem and_facts : ∀ x : Fin 256, bits .and .u8 ((x.val : Nat) : Int) 224 = ((x.val / 32 * 32 : Nat) : Int) ∧ bits .and .u8 ((x.val : Nat) : Int) 240 = ((x.val / 16 * 16 : Nat) : Int) ∧ bits .and .u8 ((x.val : Nat) : Int) 248 = ((x.val / 8 * 8 : Nat) : Int) ∧
    bits .and .u8 ((x.val : Nat) : Int) 31 = ((x.val % 32 : Nat) : Int) ∧ bits .and .u8 ((x.val : Nat) : Int) 15 = ((x.val % 16 : Nat) : Int) ∧ bits .and .u8 ((x.val : Nat) : Int) 7 = ((x.val % 8 : Nat) : Int) ∧ bits .and .u8 ((x.val : Nat) : Int) 192 = ((x.val / 64 * 64 : Nat) : Int) ∧ bits .and .u8 ((x.val : Nat) : Int) 63 = ((x.val % 64 : Nat) : Int) := by decide
theorem or6 (r y : Nat) (hr : r < 1048576) (hy : y < 64) : bits .or .u32 ((r : Int) * 64) (y : Int) = ((r * 64 + y : Nat) : Int) := by
  have e : ((r : Int) * 64) = ((r * 64 : Nat) : Int) := by omega
  rw [e, u32_or_nat _ _ (by omega) (by omega)]
  congr 1
  have h := Nat.shiftLeft_add_eq_or_of_lt (show y < 2 ^ 6 by omega) r
  rw [Nat.shiftLeft_eq] at h
  exact h.symm
end Go.Proofs.YtbjjcampiknnpaaDoor
