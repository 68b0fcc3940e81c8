/- The encoding of a string, on plain lists of bytes: well-formed sequences, escapes, the whole text. -/
import Derived.Test.YtbjjcampiknnpaaDoorAst
import Derived.Shelf.Unicode.DecodeSlow
import Derived.Lib.LaidU8
namespace Go.Proofs.YtbjjcampiknnpaaDoor
open Go.RowKit
set_option linter.unusedVariables false
set_option linter.unusedSimpArgs false
def bt (l : List UInt8) (k : Nat) : Nat := match l[k]? with
  | some x => x.toNat
  | none => 0
theorem bt_lt (l : List UInt8) (k : Nat) : bt l k < 256 := by
  unfold bt
  cases l[k]? with
  | none => show 0 < 256; omega
  | some x => exact x.toNat_lt
theorem bt_none (l : List UInt8) (k : Nat) (h : l.length ≤ k) : bt l k = 0 := by unfold bt; rw [List.getElem?_eq_none h]
def lo3 (b : Nat) : Nat := if b = 224 then 160 else 128
def hi3 (b : Nat) : Nat := if b = 237 then 159 else 191
def lo4 (b : Nat) : Nat := if b = 240 then 144 else 128
def hi4 (b : Nat) : Nat := if b = 244 then 143 else 191
/-- the length of the well-formed sequence of several bytes at the head, or nought -/
def seqL (l : List UInt8) : Nat :=
  if 194 ≤ bt l 0 ∧ bt l 0 ≤ 223 then (if 128 ≤ bt l 1 ∧ bt l 1 ≤ 191 then 2 else 0)
  else if 224 ≤ bt l 0 ∧ bt l 0 ≤ 239 then (if (lo3 (bt l 0) ≤ bt l 1 ∧ bt l 1 ≤ hi3 (bt l 0)) ∧ (128 ≤ bt l 2 ∧ bt l 2 ≤ 191) then 3 else 0)
  else if 240 ≤ bt l 0 ∧ bt l 0 ≤ 244 then (if (lo4 (bt l 0) ≤ bt l 1 ∧ bt l 1 ≤ hi4 (bt l 0)) ∧ (128 ≤ bt l 2 ∧ bt l 2 ≤ 191) ∧ (128 ≤ bt l 3 ∧ bt l 3 ≤ 191) then 4 else 0)
  else 0
/-- the decoder on four numbers -/
def dec4 (b0 b1 b2 b3 : Nat) (c1 c2 c3 : Bool) : Nat × Nat :=
  if b0 < 0x80 then (b0, 1)
  else if b0 / 32 == 6 && c1 then
    if (b0 % 32) * 64 + b1 % 64 ≥ 0x80 then ((b0 % 32) * 64 + b1 % 64, 2) else (65533, 1)
  else if b0 / 16 == 14 && c1 && c2 then
    if (b0 % 16) * 4096 + (b1 % 64) * 64 + b2 % 64 ≥ 0x800 && Utf8.valid (((b0 % 16) * 4096 + (b1 % 64) * 64 + b2 % 64 : Nat) : Int) then ((b0 % 16) * 4096 + (b1 % 64) * 64 + b2 % 64, 3) else (65533, 1)
  else if b0 / 8 == 30 && c1 && c2 && c3 then
    if (b0 % 8) * 262144 + (b1 % 64) * 4096 + (b2 % 64) * 64 + b3 % 64 ≥ 0x10000 && Utf8.valid (((b0 % 8) * 262144 + (b1 % 64) * 4096 + (b2 % 64) * 64 + b3 % 64 : Nat) : Int) then ((b0 % 8) * 262144 + (b1 % 64) * 4096 + (b2 % 64) * 64 + b3 % 64, 4) else (65533, 1)
  else (65533, 1)
theorem valid_iff (n : Nat) : Utf8.valid (n : Int) = true ↔ (n < 55296 ∨ 57344 ≤ n) ∧ n ≤ 1114111 := by
  unfold Utf8.valid
  simp only [Bool.or_eq_true, Bool.and_eq_true, decide_eq_true_eq]
  omega
theorem dec4_seq (b0 b1 b2 b3 : Nat) (c1 c2 c3 : Bool) (g0 : b0 < 256) (h0 : 128 ≤ b0) (h1 : c1 = true ↔ 128 ≤ b1 ∧ b1 ≤ 191) (h2 : c2 = true ↔ 128 ≤ b2 ∧ b2 ≤ 191) (h3 : c3 = true ↔ 128 ≤ b3 ∧ b3 ≤ 191) (k : Nat)
    (hk : k = if 194 ≤ b0 ∧ b0 ≤ 223 then (if 128 ≤ b1 ∧ b1 ≤ 191 then 2 else 0)
      else if 224 ≤ b0 ∧ b0 ≤ 239 then (if (lo3 b0 ≤ b1 ∧ b1 ≤ hi3 b0) ∧ (128 ≤ b2 ∧ b2 ≤ 191) then 3 else 0)
      else if 240 ≤ b0 ∧ b0 ≤ 244 then (if (lo4 b0 ≤ b1 ∧ b1 ≤ hi4 b0) ∧ (128 ≤ b2 ∧ b2 ≤ 191) ∧ (128 ≤ b3 ∧ b3 ≤ 191) then 4 else 0)
      else 0) :
    (k = 0 → dec4 b0 b1 b2 b3 c1 c2 c3 = (65533, 1)) ∧ (k ≠ 0 → (dec4 b0 b1 b2 b3 c1 c2 c3).2 = k) := by
  have v3 := valid_iff ((b0 % 16) * 4096 + (b1 % 64) * 64 + b2 % 64)
  have v4 := valid_iff ((b0 % 8) * 262144 + (b1 % 64) * 4096 + (b2 % 64) * 64 + b3 % 64)
  unfold lo3 hi3 lo4 hi4 at hk
  unfold dec4
  rw [if_neg (by omega)]
  by_cases a1 : b0 / 32 = 6 ∧ c1 = true
  · obtain ⟨e1, e2⟩ := a1
    have r1 := h1.1 e2
    rw [if_pos (by simp [e1, e2])]
    by_cases a2 : b0 % 32 * 64 + b1 % 64 ≥ 128
    · rw [if_pos a2]
      rw [if_pos (by omega), if_pos (by omega)] at hk
      exact ⟨fun h => by omega, fun _ => hk.symm⟩
    · rw [if_neg a2]
      rw [if_neg (by omega), if_neg (by omega), if_neg (by omega)] at hk
      exact ⟨fun _ => rfl, fun h => absurd hk h⟩
  · rw [if_neg (by simpa using a1)]
    by_cases a2 : b0 / 16 = 14 ∧ c1 = true ∧ c2 = true
    · obtain ⟨e1, e2, e3⟩ := a2
      have r1 := h1.1 e2
      have r2 := h2.1 e3
      rw [if_pos (by simp [e1, e2, e3])]
      rw [if_neg (by omega), if_pos (by omega)] at hk
      by_cases a3 : b0 % 16 * 4096 + b1 % 64 * 64 + b2 % 64 ≥ 2048 ∧ Utf8.valid (((b0 % 16) * 4096 + (b1 % 64) * 64 + b2 % 64 : Nat) : Int) = true
      · rw [if_pos (by rw [Bool.and_eq_true, decide_eq_true_eq]; exact a3)]
        obtain ⟨p1, p2⟩ := a3
        have p3 := v3.1 p2
        rw [if_pos (by refine ⟨⟨?_, ?_⟩, r2⟩ <;> split <;> omega)] at hk
        exact ⟨fun h => by omega, fun _ => hk.symm⟩
      · rw [if_neg (by rw [Bool.and_eq_true, decide_eq_true_eq]; exact a3)]
        have : k = 0 := by
          rw [hk]
          apply if_neg
          rintro ⟨⟨q1, q2⟩, _⟩
          apply a3
          refine ⟨?_, v3.2 ?_⟩
          · split at q1 <;> omega
          · split at q1 <;> split at q2 <;> omega
        exact ⟨fun _ => rfl, fun h => absurd this h⟩
    · rw [if_neg (by simpa using a2)]
      by_cases a3 : b0 / 8 = 30 ∧ c1 = true ∧ c2 = true ∧ c3 = true
      · obtain ⟨e1, e2, e3, e4⟩ := a3
        have r1 := h1.1 e2
        have r2 := h2.1 e3
        have r3 := h3.1 e4
        rw [if_pos (by simp [e1, e2, e3, e4])]
        rw [if_neg (by omega), if_neg (by omega)] at hk
        by_cases a4 : b0 % 8 * 262144 + b1 % 64 * 4096 + b2 % 64 * 64 + b3 % 64 ≥ 65536 ∧ Utf8.valid (((b0 % 8) * 262144 + (b1 % 64) * 4096 + (b2 % 64) * 64 + b3 % 64 : Nat) : Int) = true
        · rw [if_pos (by rw [Bool.and_eq_true, decide_eq_true_eq]; exact a4)]
          obtain ⟨p1, p2⟩ := a4
          have p3 := v4.1 p2
          rw [if_pos (by omega), if_pos (by refine ⟨⟨?_, ?_⟩, r2, r3⟩ <;> split <;> omega)] at hk
          exact ⟨fun h => by omega, fun _ => hk.symm⟩
        · rw [if_neg (by rw [Bool.and_eq_true, decide_eq_true_eq]; exact a4)]
          have : k = 0 := by
            rw [hk]
            by_cases q0 : 240 ≤ b0 ∧ b0 ≤ 244
            · rw [if_pos q0]
              apply if_neg
              rintro ⟨⟨q1, q2⟩, _, _⟩
              apply a4
              refine ⟨?_, v4.2 ?_⟩
              · split at q1 <;> omega
              · split at q1 <;> split at q2 <;> omega
            · rw [if_neg q0]
          exact ⟨fun _ => rfl, fun h => absurd this h⟩
      · rw [if_neg (by simpa using a3)]
        have : k = 0 := by
          rw [hk]
          by_cases q0 : 194 ≤ b0 ∧ b0 ≤ 223
          · rw [if_pos q0]
            apply if_neg
            intro q1
            exact a1 ⟨by omega, h1.2 q1⟩
          · rw [if_neg q0]
            by_cases q1 : 224 ≤ b0 ∧ b0 ≤ 239
            · rw [if_pos q1]
              apply if_neg
              rintro ⟨⟨q2, q3⟩, q4⟩
              exact a2 ⟨by omega, h1.2 (by split at q2 <;> split at q3 <;> omega), h2.2 q4⟩
            · rw [if_neg q1]
              by_cases q2 : 240 ≤ b0 ∧ b0 ≤ 244
              · rw [if_pos q2]
                apply if_neg
                rintro ⟨⟨q3, q4⟩, q5, q6⟩
                exact a3 ⟨by omega, h1.2 (by split at q3 <;> split at q4 <;> omega), h2.2 q5, h3.2 q6⟩
              · rw [if_neg q2]
        exact ⟨fun _ => rfl, fun h => absurd this h⟩
theorem bt_get (s : ByteArray) (k : Nat) : bt s.data.toList k = (s.get! k).toNat := by
  unfold bt
  by_cases h : k < s.size
  · have hl : k < s.data.toList.length := by rw [Array.length_toList]; exact h
    rw [List.getElem?_eq_getElem hl, Utf8W.get!_of_lt s k h]
    rfl
  · have hl : ¬ k < s.data.toList.length := by rw [Array.length_toList]; exact h
    rw [List.getElem?_eq_none (by omega)]
    obtain ⟨d⟩ := s
    show 0 = (d[k]!).toNat
    rw [getElem!_neg d k h]
    rfl
theorem decode_dec4 (s : ByteArray) : Utf8.decode s 0 = dec4 (bt s.data.toList 0) (bt s.data.toList 1) (bt s.data.toList 2) (bt s.data.toList 3) (decide (1 < s.size) && (bt s.data.toList 1 / 64 == 2)) (decide (2 < s.size) && (bt s.data.toList 2 / 64 == 2)) (decide (3 < s.size) && (bt s.data.toList 3 / 64 == 2)) := by
  simp only [bt_get]
  unfold Utf8.decode dec4
  simp only [Nat.zero_add, Utf8.runeError]
theorem cont_iff (s : ByteArray) (k : Nat) : (decide (k < s.size) && (bt s.data.toList k / 64 == 2)) = true ↔ 128 ≤ bt s.data.toList k ∧ bt s.data.toList k ≤ 191 := by
  rw [Bool.and_eq_true, decide_eq_true_eq, beq_iff_eq]
  constructor
  · rintro ⟨_, h⟩; omega
  · rintro ⟨h1, h2⟩
    refine ⟨?_, by omega⟩
    by_cases h : k < s.size
    · exact h
    · rw [bt_none _ _ (by rw [Array.length_toList]; exact Nat.le_of_not_lt h)] at h1
      omega
/-- what Go's decoder hands back, by the length of the sequence -/
theorem decodeGo_seq (s : ByteArray) (h0 : 0 < s.size) (hb : 128 ≤ bt s.data.toList 0) : (seqL s.data.toList = 0 → Lib.decodeGo s = (65533, 1)) ∧ (seqL s.data.toList ≠ 0 → (Lib.decodeGo s).2 = seqL s.data.toList) := by
  unfold Lib.decodeGo
  rw [if_neg (by omega), decode_dec4]
  exact dec4_seq _ _ _ _ _ _ _ (bt_lt _ 0) hb (cont_iff s 1) (cont_iff s 2) (cont_iff s 3) _ rfl
theorem seqL_cases (l : List UInt8) : seqL l = 0 ∨ (2 ≤ seqL l ∧ seqL l ≤ 4 ∧ seqL l ≤ l.length) := by
  have hb : ∀ k, 128 ≤ bt l k → k < l.length := by
    intro k h
    by_cases hk : k < l.length
    · exact hk
    · rw [bt_none _ _ (by omega)] at h; omega
  unfold seqL
  split
  · split
    · rename_i h1 h2
      have := hb 1 h2.1
      right; omega
    · left; rfl
  · split
    · split
      · rename_i h1 h2 h3
        have := hb 2 h3.2.1
        right; omega
      · left; rfl
    · split
      · split
        · rename_i h1 h2 h3 h4
          have := hb 3 h4.2.2.1
          right; omega
        · left; rfl
      · left; rfl
def hxd (n : Nat) : UInt8 := if n < 10 then UInt8.ofNat (48 + n) else UInt8.ofNat (87 + n)
def escB (b : Nat) : Option (List UInt8) :=
  if b = 34 then some [92, 34] else if b = 92 then some [92, 92] else if b = 8 then some [92, 98] else if b = 12 then some [92, 102] else if b = 10 then some [92, 110] else if b = 13 then some [92, 114] else if b = 9 then some [92, 116]
  else if b < 32 ∨ b = 127 then some [92, 117, 48, 48, hxd (b / 16), hxd (b % 16)] else none
def bad6 : List UInt8 := [92, 117, 102, 102, 102, 100]
def stepL (l : List UInt8) : Nat × Option (List UInt8) := if bt l 0 < 128 then (1, escB (bt l 0)) else if seqL l = 0 then (1, some bad6) else (seqL l, none)
theorem stepL_pos (l : List UInt8) : 1 ≤ (stepL l).1 := by
  unfold stepL
  split
  · exact Nat.le_refl _
  · split
    · exact Nat.le_refl _
    · rcases seqL_cases l with h | h
      · contradiction
      · omega
def encF : Nat → List UInt8 → List UInt8
  | 0, _ => []
  | f + 1, l => if l = [] then [] else (stepL l).2.getD (l.take (stepL l).1) ++ encF f (l.drop (stepL l).1)
theorem encF_fuel : ∀ (n f : Nat) (l : List UInt8), l.length ≤ n → l.length ≤ f → encF f l = encF l.length l := by
  intro n
  induction n with
  | zero =>
    intro f l hn hf
    have : l = [] := List.eq_nil_of_length_eq_zero (by omega)
    subst this
    cases f <;> simp [encF]
  | succ n ih =>
    intro f l hn hf
    by_cases hl : l = []
    · subst hl; cases f <;> simp [encF]
    · have hpos : 0 < l.length := List.length_pos_iff.2 hl
      have hp := stepL_pos l
      obtain ⟨f', rfl⟩ : ∃ f', f = f' + 1 := ⟨f - 1, by omega⟩
      obtain ⟨m, hm⟩ : ∃ m, l.length = m + 1 := ⟨l.length - 1, by omega⟩
      have hd : (l.drop (stepL l).1).length ≤ m := by rw [List.length_drop]; omega
      rw [hm]
      simp only [encF, if_neg hl]
      rw [ih f' _ (by omega) (by omega), ih m _ (by omega) hd]
def enc (l : List UInt8) : List UInt8 := encF l.length l
theorem enc_nil : enc [] = [] := rfl
theorem enc_step (l : List UInt8) (h : l ≠ []) : enc l = (stepL l).2.getD (l.take (stepL l).1) ++ enc (l.drop (stepL l).1) := by
  have hpos : 0 < l.length := List.length_pos_iff.2 h
  have hp := stepL_pos l
  unfold enc
  obtain ⟨m, hm⟩ : ∃ m, l.length = m + 1 := ⟨l.length - 1, by omega⟩
  rw [hm]
  simp only [encF, if_neg h]
  rw [encF_fuel m m _ (by rw [List.length_drop]; omega) (by rw [List.length_drop]; omega)]
theorem enc_len : ∀ (n : Nat) (l : List UInt8), l.length ≤ n → (enc l).length ≤ 6 * l.length := by
  intro n
  induction n with
  | zero =>
    intro l hn
    have : l = [] := List.eq_nil_of_length_eq_zero (by omega)
    subst this
    simp [enc_nil]
  | succ n ih =>
    intro l hn
    by_cases hl : l = []
    · subst hl; simp [enc_nil]
    · have hpos : 0 < l.length := List.length_pos_iff.2 hl
      have hp := stepL_pos l
      rw [enc_step l hl, List.length_append]
      have h1 := ih (l.drop (stepL l).1) (by rw [List.length_drop]; omega)
      rw [List.length_drop] at h1
      have h2 : ((stepL l).2.getD (l.take (stepL l).1)).length ≤ 6 ∧ ((stepL l).2.getD (l.take (stepL l).1)).length ≤ 6 * (stepL l).1 ∧ (stepL l).1 ≤ l.length := by
        unfold stepL
        split
        · unfold escB
          repeat' split
          all_goals simp
          all_goals omega
        · split
          · simp [bad6]; omega
          · rcases seqL_cases l with h | h
            · contradiction
            · simp; omega
      omega
/-- the bytes from one place up to another -/
def seg (L : List UInt8) (a b : Nat) : List UInt8 := (L.drop a).take (b - a)
theorem seg_self (L : List UInt8) (a : Nat) : seg L a a = [] := by simp [seg]
theorem seg_add (L : List UInt8) (a j k : Nat) (h : a ≤ j) : seg L a (j + k) = seg L a j ++ (L.drop j).take k := by
  unfold seg
  rw [show j + k - a = (j - a) + k by omega, List.take_add, List.drop_drop, show a + (j - a) = j by omega]
/-- one round that keeps the bytes -/
theorem inv_keep {L D : List UInt8} {a j k : Nat} (haj : a ≤ j) (hj : j < L.length) (hs : stepL (L.drop j) = (k, none)) (h : D ++ seg L a j ++ enc (L.drop j) = enc L) : D ++ seg L a (j + k) ++ enc (L.drop (j + k)) = enc L := by
  have hne : L.drop j ≠ [] := by intro e; have := congrArg List.length e; rw [List.length_drop] at this; simp at this; omega
  rw [← h, enc_step _ hne, hs, seg_add L a j k haj]
  simp only [Option.getD_none, List.drop_drop, List.append_assoc]
/-- one round that writes a text in their place -/
theorem inv_esc {L D e : List UInt8} {a j : Nat} (haj : a ≤ j) (hj : j < L.length) (hs : stepL (L.drop j) = (1, some e)) (h : D ++ seg L a j ++ enc (L.drop j) = enc L) : (D ++ seg L a j ++ e) ++ seg L (j + 1) (j + 1) ++ enc (L.drop (j + 1)) = enc L := by
  have hne : L.drop j ≠ [] := by intro e; have := congrArg List.length e; rw [List.length_drop] at this; simp at this; omega
  rw [← h, enc_step _ hne, hs, seg_self]
  simp only [Option.getD_some, List.drop_drop, List.append_assoc, List.nil_append]
end Go.Proofs.YtbjjcampiknnpaaDoor
