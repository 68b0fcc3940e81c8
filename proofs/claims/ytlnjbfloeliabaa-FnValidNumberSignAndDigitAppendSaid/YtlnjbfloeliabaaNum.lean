/- Plain facts on the number grammar: what scanNumber and validNumber answer, as functions of a string's bytes. No program in sight. -/
import Derived.PlainAid
import Derived.WalkKit
import Derived.ProofKit
namespace Go.Proofs.Ytlnjbfloeliabaa
open Go.PlainAid
def dg (c : Int) : Bool := decide (48 ≤ c) && decide (c ≤ 57)
def lt (c : Int) : Bool := (decide (97 ≤ c) && decide (c ≤ 122)) || (decide (65 ≤ c) && decide (c ≤ 90)) || c == 95
def sg (c : Int) : Bool := c == 43 || c == 45
def ee (c : Int) : Bool := c == 101 || c == 69
/-- the first place from i on that holds no digit -/
def skF (s : ByteArray) : Nat → Nat → Nat
  | 0, i => i
  | n + 1, i => if dg (bt s i) = true then skF s n (i + 1) else i
def sk (s : ByteArray) (i : Nat) : Nat := skF s (s.size - i) i
theorem dg_zero : dg 0 = false := rfl
theorem dg_lt (s : ByteArray) (i : Nat) (h : dg (bt s i) = true) : i < s.size := by
  rcases Nat.lt_or_ge i s.size with h1 | h1
  · exact h1
  · rw [bt_end s h1, dg_zero] at h; cases h
theorem sk_yes (s : ByteArray) (i : Nat) (h : dg (bt s i) = true) : sk s i = sk s (i + 1) := by
  have hl := dg_lt s i h
  unfold sk
  obtain ⟨n, hn⟩ : ∃ n, s.size - i = n + 1 := ⟨s.size - i - 1, by omega⟩
  rw [hn, show s.size - (i + 1) = n by omega]
  simp [skF, h]
theorem sk_no (s : ByteArray) (i : Nat) (h : dg (bt s i) = false) : sk s i = i := by
  unfold sk
  cases hn : s.size - i with
  | zero => rfl
  | succ n => simp [skF, h]
theorem skF_ge (s : ByteArray) : ∀ n i, i ≤ skF s n i
  | 0, i => Nat.le_refl _
  | n + 1, i => by
    simp only [skF]; split
    · have := skF_ge s n (i + 1); omega
    · exact Nat.le_refl _
theorem sk_ge (s : ByteArray) (i : Nat) : i ≤ sk s i := skF_ge s _ i
theorem skF_stop (s : ByteArray) : ∀ n i, s.size - i = n → dg (bt s (skF s n i)) = false
  | 0, i, h => by simp only [skF]; rw [bt_end s (by omega)]; rfl
  | n + 1, i, h => by
    simp only [skF]; split
    · exact skF_stop s n (i + 1) (by omega)
    · rename_i h1; simpa using h1
theorem sk_stop (s : ByteArray) (i : Nat) : dg (bt s (sk s i)) = false := skF_stop s _ i rfl
theorem skF_le (s : ByteArray) : ∀ n i, i ≤ s.size → s.size - i = n → skF s n i ≤ s.size
  | 0, i, h, _ => by simp only [skF]; exact h
  | n + 1, i, h, h2 => by
    simp only [skF]; split
    · rename_i h1; have := dg_lt s i h1; exact skF_le s n (i + 1) (by omega) (by omega)
    · exact h
theorem sk_le (s : ByteArray) (i : Nat) (h : i ≤ s.size) : sk s i ≤ s.size := skF_le s _ i h rfl
/-- the exponent's digits from i on, in state st -/
def ex (s : ByteArray) (i st : Nat) : Int := if lt (bt s (sk s i)) = true then -((sk s i : Int) + 1) else if (sk s i == i && st == 2) = true then -(sk s i : Int) else (sk s i : Int)
def expAt (s : ByteArray) (i : Nat) : Nat := if sg (bt s (i + 1)) = true then i + 1 + 1 else i + 1
/-- what follows the digits and the fraction -/
def tl (s : ByteArray) (i : Nat) : Int :=
  if bt s i = 46 then -((i : Int) + 1) else if ee (bt s i) = true then ex s (expAt s i) 2 else if lt (bt s i) = true then -((i : Int) + 1) else (i : Int)
def fracEnd (s : ByteArray) (i : Nat) : Nat := if bt s i = 46 then sk s (i + 1) else i
def scanM (s : ByteArray) : Nat → Nat → Int
  | 0, p => tl s (fracEnd s (sk s p))
  | 1, p => tl s (sk s p)
  | st, p => ex s p st
theorem scan0_dig (s : ByteArray) (p : Nat) (h : dg (bt s p) = true) : scanM s 0 p = scanM s 0 (p + 1) := by simp only [scanM, sk_yes s p h]
theorem scan1_dig (s : ByteArray) (p : Nat) (h : dg (bt s p) = true) : scanM s 1 p = scanM s 1 (p + 1) := by simp only [scanM, sk_yes s p h]
theorem scan0_dot (s : ByteArray) (p : Nat) (h : bt s p = 46) : scanM s 0 p = scanM s 1 (p + 1) := by
  have hd : dg (bt s p) = false := by rw [h]; rfl
  simp only [scanM, sk_no s p hd, fracEnd, if_pos h]
theorem scan1_dot (s : ByteArray) (p : Nat) (h : bt s p = 46) : scanM s 1 p = -((p : Int) + 1) := by
  have hd : dg (bt s p) = false := by rw [h]; rfl
  simp only [scanM, sk_no s p hd, tl, if_pos h]
theorem scan01_e (s : ByteArray) (st p : Nat) (hst : st ≤ 1) (h : ee (bt s p) = true) : scanM s st p = scanM s 2 (expAt s p) := by
  have hc : bt s p = 101 ∨ bt s p = 69 := by simpa [ee] using h
  have hd : dg (bt s p) = false := by rcases hc with h | h <;> rw [h] <;> rfl
  have hn : ¬ bt s p = 46 := by rcases hc with h | h <;> omega
  obtain rfl | rfl : st = 0 ∨ st = 1 := by omega
  · simp only [scanM, sk_no s p hd, fracEnd, if_neg hn, tl, h, if_true]
  · simp only [scanM, sk_no s p hd, if_neg hn, tl, h, if_true]
theorem scan01_end (s : ByteArray) (st p : Nat) (hst : st ≤ 1) (hd : dg (bt s p) = false) (hn : ¬ bt s p = 46) (he : ee (bt s p) = false) : scanM s st p = if lt (bt s p) = true then -((p : Int) + 1) else (p : Int) := by
  obtain rfl | rfl : st = 0 ∨ st = 1 := by omega
  · simp [scanM, sk_no s p hd, fracEnd, if_neg hn, tl, he]
  · simp [scanM, sk_no s p hd, if_neg hn, tl, he]
theorem scan23_dig (s : ByteArray) (st p : Nat) (hst : st = 2 ∨ st = 3) (h : dg (bt s p) = true) : scanM s st p = scanM s 3 (p + 1) := by
  have hg := sk_ge s (p + 1)
  have e1 : (sk s (p + 1) == p) = false := by rw [beq_eq_false_iff_ne]; omega
  have e2 : ((3 : Nat) == 2) = false := rfl
  rcases hst with rfl | rfl <;> simp [scanM, ex, sk_yes s p h, e1]
theorem scan23_end (s : ByteArray) (st p : Nat) (hst : st = 2 ∨ st = 3) (h : dg (bt s p) = false) : scanM s st p = if lt (bt s p) = true then -((p : Int) + 1) else if st = 2 then -(p : Int) else (p : Int) := by
  rcases hst with rfl | rfl <;> simp [scanM, ex, sk_no s p h]
end Go.Proofs.Ytlnjbfloeliabaa
