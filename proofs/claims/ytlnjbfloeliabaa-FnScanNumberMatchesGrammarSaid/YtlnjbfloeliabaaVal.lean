/- Plain facts on number texts: the lexer's validNumber and the grammar's matchNumber are one function of the bytes. No program in sight. -/
import Derived.Test.YtlnjbfloeliabaaNum
namespace Go.Proofs.Ytlnjbfloeliabaa
open Go.PlainAid
def vEnd (s : ByteArray) (i : Nat) : Bool :=
  if ee (bt s i) = true then (if sk s (expAt s i) = expAt s i then false else sk s (expAt s i) == s.size) else i == s.size
def validFrom (s : ByteArray) (q : Nat) : Bool :=
  if q < sk s q then vEnd s (fracEnd s (sk s q)) else if bt s q = 46 then (if sk s (q + 1) = q + 1 then false else vEnd s (sk s (q + 1))) else false
def validM (s : ByteArray) : Bool := validFrom s (if sg (bt s 0) = true then 1 else 0)
/-- what validNumber answers from place q on -/
def lexFrom (s : ByteArray) (q : Nat) : Bool :=
  if bt s q = 46 then dg (bt s (q + 1)) && (scanM s 1 (q + 1) == (s.size : Int)) else dg (bt s q) && (scanM s 0 q == (s.size : Int))
theorem lt_lt (s : ByteArray) (i : Nat) (h : lt (bt s i) = true) : i < s.size := by
  rcases Nat.lt_or_ge i s.size with h1 | h1
  · exact h1
  · rw [bt_end s h1] at h; cases h
theorem expAt_pos (s : ByteArray) (i : Nat) : 1 ≤ expAt s i := by unfold expAt; split <;> omega
theorem ex_eq (s : ByteArray) (q : Nat) (hq : 1 ≤ q) : (ex s q 2 == (s.size : Int)) = if sk s q = q then false else sk s q == s.size := by
  unfold ex
  by_cases hl : lt (bt s (sk s q)) = true
  · have := lt_lt s _ hl
    have e1 : (sk s q == s.size) = false := by rw [beq_eq_false_iff_ne]; omega
    rw [if_pos hl, e1]
    have e2 : ((-((sk s q : Int) + 1)) == (s.size : Int)) = false := by rw [beq_eq_false_iff_ne]; omega
    rw [e2]; split <;> rfl
  · rw [if_neg hl]
    by_cases he : sk s q = q
    · have e2 : ((-(q : Int)) == (s.size : Int)) = false := by rw [beq_eq_false_iff_ne]; omega
      simp [he, e2]
    · have e3 : (sk s q == q && (2 : Nat) == 2) = false := by simp [he]
      rw [e3, if_neg he]
      rw [Bool.eq_iff_iff]; simp; omega
theorem tl_eq (s : ByteArray) (i : Nat) : (tl s i == (s.size : Int)) = vEnd s i := by
  unfold tl vEnd
  by_cases h46 : bt s i = 46
  · have hl : i < s.size := by rcases Nat.lt_or_ge i s.size with h | h; exact h; rw [bt_end s h] at h46; omega
    have e1 : ee (bt s i) = false := by rw [h46]; rfl
    have e2 : (i == s.size) = false := by rw [beq_eq_false_iff_ne]; omega
    have e3 : ((-((i : Int) + 1)) == (s.size : Int)) = false := by rw [beq_eq_false_iff_ne]; omega
    rw [if_pos h46, e1, e2, e3]; rfl
  · rw [if_neg h46]
    by_cases he : ee (bt s i) = true
    · rw [if_pos he, if_pos he]; exact ex_eq s _ (expAt_pos s i)
    · rw [if_neg he, if_neg he]
      by_cases hl : lt (bt s i) = true
      · have := lt_lt s i hl
        have e2 : (i == s.size) = false := by rw [beq_eq_false_iff_ne]; omega
        have e3 : ((-((i : Int) + 1)) == (s.size : Int)) = false := by rw [beq_eq_false_iff_ne]; omega
        rw [if_pos hl, e2, e3]
      · rw [if_neg hl, Bool.eq_iff_iff]; simp; omega
theorem sk_pos (s : ByteArray) (i : Nat) (h : dg (bt s i) = true) : i < sk s i := by rw [sk_yes s i h]; have := sk_ge s (i + 1); omega
theorem lex_eq (s : ByteArray) (q : Nat) : lexFrom s q = validFrom s q := by
  unfold lexFrom validFrom
  by_cases h46 : bt s q = 46
  · have hd : dg (bt s q) = false := by rw [h46]; rfl
    rw [if_pos h46, sk_no s q hd, if_neg (Nat.lt_irrefl q), if_pos h46]
    cases hx : dg (bt s (q + 1))
    · rw [if_pos (sk_no s (q + 1) hx)]; rfl
    · have := sk_pos s (q + 1) hx
      rw [if_neg (by omega), ← tl_eq]; rfl
  · rw [if_neg h46]
    cases hx : dg (bt s q)
    · rw [sk_no s q hx, if_neg (Nat.lt_irrefl q), if_neg h46]; rfl
    · rw [if_pos (sk_pos s q hx), ← tl_eq]; rfl
end Go.Proofs.Ytlnjbfloeliabaa
