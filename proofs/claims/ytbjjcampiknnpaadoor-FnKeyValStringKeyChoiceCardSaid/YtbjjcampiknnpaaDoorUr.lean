/- Plain laws of the round trip: the encoded text is well-formed and printable. -/
import Derived.Test.YtbjjcampiknnpaaDoorUq
namespace Go.Proofs.YtbjjcampiknnpaaDoor
open Go.RowKit
set_option maxRecDepth 100000
set_option linter.unusedVariables false
set_option linter.unusedSimpArgs false
theorem OkU.ascii {c : UInt8} {r : List UInt8} (hc : c.toNat < 128) (h : OkU r) : OkU (c :: r) := by
  refine OkU.step (by simp) (Or.inl hc) ?_
  have hs : (stepL (c :: r)).1 = 1 := by unfold stepL; rw [if_pos (show bt (c :: r) 0 < 128 from hc)]
  rw [hs]
  exact h
theorem OkU.asciis {r : List UInt8} (h : OkU r) : ∀ (l : List UInt8), (∀ c ∈ l, c.toNat < 128) → OkU (l ++ r)
  | [], _ => h
  | c :: l, hl => OkU.ascii (hl c List.mem_cons_self) (OkU.asciis h l fun x hx => hl x (List.mem_cons_of_mem _ hx))
theorem bt_pre {l r : List UInt8} {k i : Nat} (hi : i < k) (hk : k ≤ l.length) : bt (l.take k ++ r) i = bt l i := by
  unfold bt
  rw [List.getElem?_append_left (by rw [List.length_take]; omega), List.getElem?_take_of_lt hi]
theorem bt_len {l : List UInt8} {i : Nat} (h : bt l i ≠ 0) : i < l.length := by
  rcases Nat.lt_or_ge i l.length with h1 | h1
  · exact h1
  · exfalso; apply h; unfold bt; rw [List.getElem?_eq_none h1]
theorem seq_len {l : List UInt8} (h : seqL l ≠ 0) : seqL l ≤ l.length := by
  have h1 := seq_high h (seqL l - 1) (by omega)
  have h2 := bt_len (l := l) (i := seqL l - 1) (by omega)
  omega
theorem seq_pre {l : List UInt8} (h : seqL l ≠ 0) (r : List UInt8) : seqL (l.take (seqL l) ++ r) = seqL l := by
  have hl := seq_len h
  obtain ⟨k, hk⟩ : ∃ k, seqL l = k := ⟨_, rfl⟩
  have hb : ∀ i, i < k → bt (l.take k ++ r) i = bt l i := fun i hi => bt_pre hi (by omega)
  rw [hk] at h ⊢
  have hk' := hk
  unfold seqL at hk'
  by_cases g1 : 194 ≤ bt l 0 ∧ bt l 0 ≤ 223
  · rw [if_pos g1] at hk'
    by_cases g2 : 128 ≤ bt l 1 ∧ bt l 1 ≤ 191
    · rw [if_pos g2] at hk'
      subst hk'
      unfold seqL
      rw [hb 0 (by omega), hb 1 (by omega), if_pos g1, if_pos g2]
    · rw [if_neg g2] at hk'; exact absurd hk'.symm h
  rw [if_neg g1] at hk'
  by_cases g3 : 224 ≤ bt l 0 ∧ bt l 0 ≤ 239
  · rw [if_pos g3] at hk'
    by_cases g2 : (lo3 (bt l 0) ≤ bt l 1 ∧ bt l 1 ≤ hi3 (bt l 0)) ∧ (128 ≤ bt l 2 ∧ bt l 2 ≤ 191)
    · rw [if_pos g2] at hk'
      subst hk'
      unfold seqL
      rw [hb 0 (by omega), hb 1 (by omega), hb 2 (by omega), if_neg g1, if_pos g3, if_pos g2]
    · rw [if_neg g2] at hk'; exact absurd hk'.symm h
  rw [if_neg g3] at hk'
  by_cases g4 : 240 ≤ bt l 0 ∧ bt l 0 ≤ 244
  · rw [if_pos g4] at hk'
    by_cases g2 : (lo4 (bt l 0) ≤ bt l 1 ∧ bt l 1 ≤ hi4 (bt l 0)) ∧ (128 ≤ bt l 2 ∧ bt l 2 ≤ 191) ∧ (128 ≤ bt l 3 ∧ bt l 3 ≤ 191)
    · rw [if_pos g2] at hk'
      subst hk'
      unfold seqL
      rw [hb 0 (by omega), hb 1 (by omega), hb 2 (by omega), hb 3 (by omega), if_neg g1, if_neg g3, if_pos g4, if_pos g2]
    · rw [if_neg g2] at hk'; exact absurd hk'.symm h
  rw [if_neg g4] at hk'
  exact absurd hk'.symm h
theorem OkU.kept {l r : List UInt8} (h : seqL l ≠ 0) (hr : OkU r) : OkU (l.take (seqL l) ++ r) := by
  have hl := seq_len h
  have hp := seq_pre h r
  have h0 : bt (l.take (seqL l) ++ r) 0 = bt l 0 := bt_pre (by omega) hl
  have h128 := seq_high h 0 (by omega)
  have hs : (stepL (l.take (seqL l) ++ r)).1 = seqL l := by
    unfold stepL
    rw [h0, if_neg (by omega), hp, if_neg h]
  refine OkU.step (fun e => ?_) (Or.inr (by rw [hp]; exact h)) ?_
  · have := congrArg List.length e
    rw [List.length_append, List.length_take, List.length_nil] at this
    omega
  · rw [hs, List.drop_append_of_le_length (by rw [List.length_take]; omega), List.drop_of_length_le (by rw [List.length_take]; omega), List.nil_append]
    exact hr
theorem esc_asc : ∀ b, b < 128 → ∀ c ∈ (escB b).getD [], 32 ≤ c.toNat ∧ c.toNat < 127 := by decide +kernel
theorem none_asc : ∀ b, b < 128 → escB b = none → 32 ≤ b ∧ b ≠ 127 := by decide +kernel
theorem bad_asc : ∀ c ∈ bad6, 32 ≤ c.toNat ∧ c.toNat < 127 := by decide
theorem enc_ok : ∀ (n : Nat) (L t : List UInt8), L.length ≤ n → OkU t → OkU (enc L ++ t) ∧ ∀ c ∈ enc L, 32 ≤ c.toNat ∧ c.toNat ≠ 127 := by
  intro n
  induction n with
  | zero =>
    intro L t hL ht
    obtain rfl : L = [] := List.eq_nil_of_length_eq_zero (by omega)
    exact ⟨ht, fun c hc => by simp [enc_nil] at hc⟩
  | succ n ih =>
    intro L t hL ht
    by_cases hne : L = []
    · subst hne; exact ⟨ht, fun c hc => by simp [enc_nil] at hc⟩
    have hlp := List.length_pos_iff.2 hne
    have hsp := stepL_pos L
    obtain ⟨h1, h2⟩ := ih (L.drop (stepL L).1) t (by rw [List.length_drop]; omega) ht
    rw [enc_step L hne, List.append_assoc]
    by_cases hb : bt L 0 < 128
    · have hs : stepL L = (1, escB (bt L 0)) := by unfold stepL; rw [if_pos hb]
      rw [hs] at h1 h2 ⊢
      have ha := esc_asc _ hb
      cases he : escB (bt L 0) with
      | some es =>
        rw [he] at ha
        exact ⟨h1.asciis _ fun c hc => by have := (ha c hc).2; omega, fun c hc => (List.mem_append.1 hc).elim (fun h => ⟨(ha c h).1, by have := (ha c h).2; omega⟩) (h2 c)⟩
      | none =>
        have hn := none_asc _ hb he
        cases L with
        | nil => exact absurd rfl hne
        | cons x r =>
          refine ⟨OkU.ascii hb h1, fun c hc => ?_⟩
          rcases List.mem_append.1 hc with h | h
          · simp at h; subst h; exact hn
          · exact h2 c h
    · by_cases hq : seqL L = 0
      · have hs : stepL L = (1, some bad6) := by unfold stepL; rw [if_neg hb, if_pos hq]
        rw [hs] at h1 h2 ⊢
        exact ⟨h1.asciis _ fun c hc => by have := (bad_asc c hc).2; omega, fun c hc => (List.mem_append.1 hc).elim (fun h => ⟨(bad_asc c h).1, by have := (bad_asc c h).2; omega⟩) (h2 c)⟩
      · have hs : stepL L = (seqL L, none) := by unfold stepL; rw [if_neg hb, if_neg hq]
        rw [hs] at h1 h2 ⊢
        refine ⟨h1.kept hq, fun c hc => (List.mem_append.1 hc).elim (fun h => ?_) (h2 c)⟩
        obtain ⟨i, hi, he⟩ := List.getElem_of_mem (show c ∈ L.take (seqL L) from h)
        rw [List.length_take] at hi
        rw [List.getElem_take] at he
        have h3 := seq_high hq i (by omega)
        unfold bt at h3
        rw [List.getElem?_eq_getElem (by omega), he] at h3
        have h3 : 128 ≤ c.toNat := h3
        omega
theorem out_ok (L : List UInt8) : OkU ([34] ++ enc L ++ [34]) := OkU.ascii (by decide) (enc_ok _ L [34] (Nat.le_refl _) (OkU.ascii (by decide) OkU.nil)).1
end Go.Proofs.YtbjjcampiknnpaaDoor
