/- Plain laws of the round trip: what unquoting reads back from an encoded text. -/
import Derived.Test.YtbjjcampiknnpaaDoorEp
namespace Go.Proofs.YtbjjcampiknnpaaDoor
open Go.RowKit
set_option maxRecDepth 100000
set_option linter.unusedVariables false
set_option linter.unusedSimpArgs false
/-- the seven escapes of two bytes -/
def escP (e b : UInt8) : Prop := (e = 34 ∧ b = 34) ∨ (e = 92 ∧ b = 92) ∨ (e = 98 ∧ b = 8) ∨ (e = 102 ∧ b = 12) ∨ (e = 110 ∧ b = 10) ∨ (e = 114 ∧ b = 13) ∨ (e = 116 ∧ b = 9)
/-- the body reads back so -/
inductive UQ : List UInt8 → List UInt8 → Prop
  | nil : UQ [] []
  | plain {c : UInt8} {r d : List UInt8} : c ≠ 34 → c ≠ 92 → UQ r d → UQ (c :: r) (c :: d)
  | esc {e b : UInt8} {r d : List UInt8} : escP e b → UQ r d → UQ (92 :: e :: r) (b :: d)
  | uni {b : Nat} {r d : List UInt8} : b < 128 → UQ r d → UQ (92 :: 117 :: 48 :: 48 :: hxd (b / 16) :: hxd (b % 16) :: r) (UInt8.ofNat b :: d)
  | bad {r d : List UInt8} : UQ r d → UQ (92 :: 117 :: 102 :: 102 :: 102 :: 100 :: r) (239 :: 191 :: 189 :: d)
theorem UQ.plains {r d : List UInt8} (h : UQ r d) : ∀ (l : List UInt8), (∀ c ∈ l, c ≠ 34 ∧ c ≠ 92) → UQ (l ++ r) (l ++ d)
  | [], _ => h
  | c :: l, hl => UQ.plain (hl c List.mem_cons_self).1 (hl c List.mem_cons_self).2 (UQ.plains h l fun x hx => hl x (List.mem_cons_of_mem _ hx))
theorem bt_head (x : UInt8) (l : List UInt8) : bt (x :: l) 0 = x.toNat := rfl
theorem uq_esc {b : Nat} {es r d : List UInt8} (hb : b < 128) (he : escB b = some es) (h : UQ r d) : UQ (es ++ r) (UInt8.ofNat b :: d) := by
  unfold escB at he
  by_cases h1 : b = 34
  · subst h1; simp at he; subst he; exact UQ.esc (Or.inl ⟨rfl, rfl⟩) h
  rw [if_neg h1] at he
  by_cases h2 : b = 92
  · subst h2; simp at he; subst he; exact UQ.esc (Or.inr (Or.inl ⟨rfl, rfl⟩)) h
  rw [if_neg h2] at he
  by_cases h3 : b = 8
  · subst h3; simp at he; subst he; exact UQ.esc (Or.inr (Or.inr (Or.inl ⟨rfl, rfl⟩))) h
  rw [if_neg h3] at he
  by_cases h4 : b = 12
  · subst h4; simp at he; subst he; exact UQ.esc (Or.inr (Or.inr (Or.inr (Or.inl ⟨rfl, rfl⟩)))) h
  rw [if_neg h4] at he
  by_cases h5 : b = 10
  · subst h5; simp at he; subst he; exact UQ.esc (Or.inr (Or.inr (Or.inr (Or.inr (Or.inl ⟨rfl, rfl⟩))))) h
  rw [if_neg h5] at he
  by_cases h6 : b = 13
  · subst h6; simp at he; subst he; exact UQ.esc (Or.inr (Or.inr (Or.inr (Or.inr (Or.inr (Or.inl ⟨rfl, rfl⟩)))))) h
  rw [if_neg h6] at he
  by_cases h7 : b = 9
  · subst h7; simp at he; subst he; exact UQ.esc (Or.inr (Or.inr (Or.inr (Or.inr (Or.inr (Or.inr ⟨rfl, rfl⟩)))))) h
  rw [if_neg h7] at he
  by_cases h8 : b < 32 ∨ b = 127
  · rw [if_pos h8] at he; injection he with he; subst he; exact UQ.uni hb h
  · rw [if_neg h8] at he; cases he
/-- well-formed UTF-8, step by step -/
inductive OkU : List UInt8 → Prop
  | nil : OkU []
  | step {l : List UInt8} : l ≠ [] → (bt l 0 < 128 ∨ seqL l ≠ 0) → OkU (l.drop (stepL l).1) → OkU l
theorem escB_none {b : Nat} (h : escB b = none) : b ≠ 34 ∧ b ≠ 92 := by
  refine ⟨?_, ?_⟩ <;> (rintro rfl; simp [escB] at h)
theorem seq_high {l : List UInt8} (h : seqL l ≠ 0) : ∀ i, i < seqL l → 128 ≤ bt l i := by
  intro i hi
  have hl3 : 128 ≤ lo3 (bt l 0) := by unfold lo3; split <;> omega
  have hl4 : 128 ≤ lo4 (bt l 0) := by unfold lo4; split <;> omega
  unfold seqL at h hi
  by_cases g1 : 194 ≤ bt l 0 ∧ bt l 0 ≤ 223
  · rw [if_pos g1] at h hi
    by_cases g2 : 128 ≤ bt l 1 ∧ bt l 1 ≤ 191
    · rw [if_pos g2] at hi
      obtain rfl | rfl : i = 0 ∨ i = 1 := by omega
      all_goals omega
    · rw [if_neg g2] at h; exact absurd rfl h
  rw [if_neg g1] at h hi
  by_cases g3 : 224 ≤ bt l 0 ∧ bt l 0 ≤ 239
  · rw [if_pos g3] at h hi
    by_cases g2 : (lo3 (bt l 0) ≤ bt l 1 ∧ bt l 1 ≤ hi3 (bt l 0)) ∧ (128 ≤ bt l 2 ∧ bt l 2 ≤ 191)
    · rw [if_pos g2] at hi
      obtain rfl | rfl | rfl : i = 0 ∨ i = 1 ∨ i = 2 := by omega
      all_goals omega
    · rw [if_neg g2] at h; exact absurd rfl h
  rw [if_neg g3] at h hi
  by_cases g4 : 240 ≤ bt l 0 ∧ bt l 0 ≤ 244
  · rw [if_pos g4] at h hi
    by_cases g2 : (lo4 (bt l 0) ≤ bt l 1 ∧ bt l 1 ≤ hi4 (bt l 0)) ∧ (128 ≤ bt l 2 ∧ bt l 2 ≤ 191) ∧ (128 ≤ bt l 3 ∧ bt l 3 ≤ 191)
    · rw [if_pos g2] at hi
      obtain rfl | rfl | rfl | rfl : i = 0 ∨ i = 1 ∨ i = 2 ∨ i = 3 := by omega
      all_goals omega
    · rw [if_neg g2] at h; exact absurd rfl h
  rw [if_neg g4] at h
  exact absurd rfl h
theorem take_high {l : List UInt8} (h : seqL l ≠ 0) : ∀ c ∈ l.take (seqL l), c ≠ 34 ∧ c ≠ 92 := by
  intro c hc
  obtain ⟨i, hi, he⟩ := List.getElem_of_mem hc
  rw [List.length_take] at hi
  rw [List.getElem_take] at he
  have h1 := seq_high h i (by omega)
  unfold bt at h1
  rw [List.getElem?_eq_getElem (by omega)] at h1
  rw [← he]
  refine ⟨?_, ?_⟩ <;> (intro e; rw [e] at h1; revert h1; decide)
theorem uq_enc : ∀ (n : Nat) (L : List UInt8), L.length ≤ n → ∃ d, UQ (enc L) d ∧ (OkU L → d = L) := by
  intro n
  induction n with
  | zero =>
    intro L hL
    obtain rfl : L = [] := List.eq_nil_of_length_eq_zero (by omega)
    exact ⟨[], UQ.nil, fun _ => rfl⟩
  | succ n ih =>
    intro L hL
    by_cases hne : L = []
    · subst hne; exact ⟨[], UQ.nil, fun _ => rfl⟩
    have hlp := List.length_pos_iff.2 hne
    have hsp := stepL_pos L
    obtain ⟨d, hd, hk⟩ := ih (L.drop (stepL L).1) (by rw [List.length_drop]; omega)
    have hok : OkU L → d = L.drop (stepL L).1 := by
      intro h
      cases h with
      | nil => exact absurd rfl hne
      | step _ _ h3 => exact hk h3
    rw [enc_step L hne]
    by_cases hb : bt L 0 < 128
    · have hs : stepL L = (1, escB (bt L 0)) := by unfold stepL; rw [if_pos hb]
      rw [hs] at hd hok ⊢
      cases L with
      | nil => exact absurd rfl hne
      | cons x r =>
        have hx : UInt8.ofNat (bt (x :: r) 0) = x := UInt8.ofNat_toNat
        cases he : escB (bt (x :: r) 0) with
        | some es =>
          refine ⟨_, uq_esc hb he hd, fun h => ?_⟩
          rw [hok h, hx]; rfl
        | none =>
          obtain ⟨e1, e2⟩ := escB_none he
          refine ⟨x :: d, UQ.plain (fun e => e1 (by rw [e]; rfl)) (fun e => e2 (by rw [e]; rfl)) hd, fun h => by rw [hok h]; rfl⟩
    · by_cases hq : seqL L = 0
      · have hs : stepL L = (1, some bad6) := by unfold stepL; rw [if_neg hb, if_pos hq]
        rw [hs] at hd ⊢
        refine ⟨_, UQ.bad hd, fun h => ?_⟩
        cases h with
        | nil => exact absurd rfl hne
        | step _ h2 _ => rcases h2 with h2 | h2
                         · exact absurd h2 hb
                         · exact absurd hq h2
      · have hs : stepL L = (seqL L, none) := by unfold stepL; rw [if_neg hb, if_neg hq]
        rw [hs] at hd hok ⊢
        exact ⟨_, hd.plains _ (take_high hq), fun h => by rw [hok h]; exact List.take_append_drop _ _⟩
end Go.Proofs.YtbjjcampiknnpaaDoor
