/- Tail calls on plain numbers: the open scopes, the way of the jumps, which calls turn. -/
namespace Go.Proofs.Ytaeficfjocinaaa
/-- the open scopes ahead of place i, innermost first -/
def stk (o : Nat → Int) : Nat → List Nat
  | 0 => []
  | i + 1 => if o i = 23 then i :: stk o i else if o i = 24 then (stk o i).tail else stk o i
/-- from place p, along jumps: a return? (by fuel) -/
def tl (n : Nat) (o x : Nat → Int) : Nat → Nat → Bool
  | 0, _ => false
  | f + 1, p => if p < n then (if o p = 15 then tl n o x f (x p).toNat else o p == 24) else false
def tail_ (n : Nat) (o x : Nat → Int) (i : Nat) : Bool := tl n o x (n - i) (i + 1)
/-- does the call at i turn? (its target, where it does) -/
def rew (n : Nat) (o x z : Nat → Int) (i : Nat) : Bool :=
  match stk o i with
  | [] => false
  | k :: _ => o i == 19 && z i == 0 && x i == (k : Int) && z k == 0 && tail_ n o x i
def finO (n : Nat) (o x y z : Nat → Int) (i : Nat) : Int := if rew n o x z i then (if y (x i).toNat = 0 then 15 else 20) else o i
def finX (n : Nat) (o x y z : Nat → Int) (i : Nat) : Int := if rew n o x z i ∧ y (x i).toNat = 0 then x i + 1 else x i
def stopAt (o : Nat → Int) (i : Nat) : Prop := o i = 24 ∧ stk o i = []
def isT (o z : Nat → Int) (i : Nat) : Bool := o i == 23 || (o i == 19 && z i != 0)
def FwdJ (n : Nat) (o x : Nat → Int) : Prop := ∀ p, p < n → o p = 15 → (p : Int) < x p
/-- where the pass stops -/
def IsStop (n : Nat) (o : Nat → Int) (st : Nat) : Prop := st ≤ n ∧ (∀ j, j < st → ¬ stopAt o j) ∧ (st < n → stopAt o st)
section
variable {n : Nat} {o x y z : Nat → Int}
theorem IsStop.uniq {a b : Nat} (ha : IsStop n o a) (hb : IsStop n o b) : a = b := by
  rcases Nat.lt_trichotomy a b with h | h | h
  · exact absurd (ha.2.2 (Nat.lt_of_lt_of_le h hb.1)) (hb.2.1 a h)
  · exact h
  · exact absurd (hb.2.2 (Nat.lt_of_lt_of_le h ha.1)) (ha.2.1 b h)
theorem stk_mem : ∀ (i k : Nat), k ∈ stk o i → k < i ∧ o k = 23
  | 0, k, h => by simp [stk] at h
  | i + 1, k, h => by
    unfold stk at h
    split at h
    · rename_i h1
      rcases List.mem_cons.1 h with h | h
      · subst h; exact ⟨by omega, h1⟩
      · have := stk_mem i k h; exact ⟨by omega, this.2⟩
    · split at h
      · have := stk_mem i k (List.mem_of_mem_tail h); exact ⟨by omega, this.2⟩
      · have := stk_mem i k h; exact ⟨by omega, this.2⟩
theorem stk_push {i : Nat} (h : o i = 23) : stk o (i + 1) = i :: stk o i := by
  conv => lhs; unfold stk
  rw [if_pos h]
theorem stk_pop {i : Nat} (h : o i = 24) : stk o (i + 1) = (stk o i).tail := by
  conv => lhs; unfold stk
  rw [if_neg (by omega), if_pos h]
theorem stk_keep {i : Nat} (h1 : o i ≠ 23) (h2 : o i ≠ 24) : stk o (i + 1) = stk o i := by
  conv => lhs; unfold stk
  rw [if_neg h1, if_neg h2]
/-- looking back with d returns pending -/
theorem back_ret {i d : Nat} (h : o i = 24) : (stk o (i + 1))[d]? = (stk o i)[d + 1]? := by
  rw [stk_pop h, List.getElem?_tail]
theorem back_hit {i : Nat} (h : o i = 23) : (stk o (i + 1))[0]? = some i := by rw [stk_push h]; rfl
theorem back_scope {i d : Nat} (h : o i = 23) : (stk o (i + 1))[d + 1]? = (stk o i)[d]? := by rw [stk_push h]; rfl
theorem back_other {i d : Nat} (h1 : o i ≠ 23) (h2 : o i ≠ 24) : (stk o (i + 1))[d]? = (stk o i)[d]? := by rw [stk_keep h1 h2]
theorem tl_more (hF : FwdJ n o x) : ∀ (f p : Nat), n ≤ p + f → tl n o x f p = tl n o x (n - p) p
  | 0, p, h => by rw [show n - p = 0 by omega]
  | f + 1, p, h => by
    by_cases hp : p < n
    · obtain ⟨d, hd⟩ : ∃ d, n - p = d + 1 := ⟨n - p - 1, by omega⟩
      rw [hd]
      unfold tl
      rw [if_pos hp, if_pos hp]
      by_cases hj : o p = 15
      · have h1 := hF p hp hj
        rw [if_pos hj, if_pos hj, tl_more hF f (x p).toNat (by omega), tl_more hF d (x p).toNat (by omega)]
      · rw [if_neg hj, if_neg hj]
    · rw [show n - p = 0 by omega]
      unfold tl
      rw [if_neg hp]
termination_by f => f
/-- one step along -/
theorem tl_out {p : Nat} (h : n ≤ p) : tl n o x (n - p) p = false := by rw [show n - p = 0 by omega]; rfl
theorem tl_jump (hF : FwdJ n o x) {p : Nat} (hp : p < n) (hj : o p = 15) : tl n o x (n - p) p = tl n o x (n - (x p).toNat) (x p).toNat := by
  obtain ⟨d, hd⟩ : ∃ d, n - p = d + 1 := ⟨n - p - 1, by omega⟩
  have h1 := hF p hp hj
  rw [hd]
  conv => lhs; unfold tl
  rw [if_pos hp, if_pos hj, tl_more hF d (x p).toNat (by omega)]
theorem tl_end {p : Nat} (hp : p < n) (hj : o p ≠ 15) : tl n o x (n - p) p = (o p == 24) := by
  obtain ⟨d, hd⟩ : ∃ d, n - p = d + 1 := ⟨n - p - 1, by omega⟩
  rw [hd]
  unfold tl
  rw [if_pos hp, if_neg hj]
theorem tail_eq (hF : FwdJ n o x) (i : Nat) : tail_ n o x i = tl n o x (n - (i + 1)) (i + 1) := by
  unfold tail_
  exact tl_more hF _ _ (by omega)
theorem rew_no {i : Nat} (h : o i ≠ 19) : rew n o x z i = false := by
  unfold rew
  split
  · rfl
  · have : (o i == 19) = false := by simp [h]
    simp [this]
theorem rew_iff {i : Nat} : rew n o x z i = true ↔ ∃ k t, stk o i = k :: t ∧ o i = 19 ∧ z i = 0 ∧ x i = (k : Int) ∧ z k = 0 ∧ tail_ n o x i = true := by
  unfold rew
  split
  · rename_i h; rw [h]; simp
  · rename_i k t h
    rw [h]
    simp only [Bool.and_eq_true, beq_iff_eq]
    constructor
    · rintro ⟨⟨⟨⟨a, b⟩, c⟩, d⟩, e⟩; exact ⟨k, t, rfl, a, b, c, d, e⟩
    · rintro ⟨k', t', he, a, b, c, d, e⟩
      injection he with h1 h2
      subst h1
      exact ⟨⟨⟨⟨a, b⟩, c⟩, d⟩, e⟩
theorem fin_keep {i : Nat} (h : rew n o x z i = false) : finO n o x y z i = o i ∧ finX n o x y z i = x i := by
  unfold finO finX
  rw [h]
  simp
end
end Go.Proofs.Ytaeficfjocinaaa
