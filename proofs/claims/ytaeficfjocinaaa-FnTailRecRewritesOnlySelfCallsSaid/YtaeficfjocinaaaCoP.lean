/- The peephole pass on plain numbers: what it leaves, stage by stage; where the jumps end. -/
namespace Go.Proofs.Ytaeficfjocinaaa
def isP (o : Int) : Bool := o == 1 || o == 3 || o == 5
def isJ (o : Int) : Bool := o == 15 || o == 16
theorem isP_iff {o : Int} : isP o = true ↔ o = 1 ∨ o = 3 ∨ o = 5 := by simp [isP, or_assoc]
theorem isJ_iff {o : Int} : isJ o = true ↔ o = 15 ∨ o = 16 := by simp [isJ]
theorem isP_no {o : Int} : isP o = false ↔ ¬ (o = 1 ∨ o = 3 ∨ o = 5) := by rw [← isP_iff]; simp
theorem isJ_no {o : Int} : isJ o = false ↔ ¬ (o = 15 ∨ o = 16) := by rw [← isJ_iff]; simp
/-- one place of the table of final targets, read off the places behind it -/
def finEq (o x f : Nat → Int) (p : Nat) : Int :=
  if isJ (o p) = false ∨ x p = p + 1 then x p
  else if x p ≤ p then (if o (x p).toNat = 15 then x (x p).toNat else x p)
  else if o (x p).toNat = 15 ∧ x (x p).toNat ≠ x p + 1 then f (x p).toNat else x p
def FinOK (n : Nat) (o x f : Nat → Int) : Prop := ∀ p, p < n → f p = finEq o x f p
def Guard (n : Nat) (o x : Nat → Int) : Prop := (∀ p, p + 1 = n → isP (o p) = false) ∧ ∀ p, p < n → isJ (o p) = true → x p = p + 1 ∨ (0 ≤ x p ∧ x p < n)
def Fwd (n : Nat) (o x : Nat → Int) : Prop := ∀ p, p < n → isJ (o p) = true → (p : Int) < x p
/-- the table by fuel from the back -/
def finF (o x : Nat → Int) : Nat → Nat → Int
  | 0, p => x p
  | n + 1, p => finEq o x (finF o x n) p
theorem finF_more (n : Nat) (o x : Nat → Int) (hg : Guard n o x) : ∀ (m p : Nat), p < n → n - p ≤ m → finF o x m p = finF o x (n - p) p
  | 0, _, hp, h => absurd h (by omega)
  | m + 1, p, hp, h => by
    obtain ⟨d, hd⟩ : ∃ d, n - p = d + 1 := ⟨n - p - 1, by omega⟩
    rw [hd]
    show finEq o x (finF o x m) p = finEq o x (finF o x d) p
    unfold finEq
    split
    · rfl
    · rename_i h1
      split
      · rfl
      · rename_i h2
        split
        · have hj : isJ (o p) = true := by
            cases hh : isJ (o p) with
            | true => rfl
            | false => exact absurd (Or.inl hh) h1
          have hr := (hg.2 p hp hj).resolve_left (fun e => h1 (.inr e))
          rw [finF_more n o x hg m (x p).toNat (by omega) (by omega)]
          have : d = n - p - 1 := by omega
          rw [finF_more n o x hg d (x p).toNat (by omega) (by omega)]
        · rfl
termination_by m => m
theorem fin_exists (n : Nat) (o x : Nat → Int) (hg : Guard n o x) : ∃ f, FinOK n o x f := by
  refine ⟨fun p => finF o x (n - p) p, fun p hp => ?_⟩
  obtain ⟨d, hd⟩ : ∃ d, n - p = d + 1 := ⟨n - p - 1, by omega⟩
  show finF o x (n - p) p = _
  rw [hd]
  show finEq o x (finF o x d) p = _
  unfold finEq
  split
  · rfl
  · rename_i h1
    split
    · rfl
    · rename_i h2
      split
      · have hj : isJ (o p) = true := by
          cases hh : isJ (o p) with
          | true => rfl
          | false => exact absurd (Or.inl hh) h1
        have hr := (hg.2 p hp hj).resolve_left (fun e => h1 (.inr e))
        exact finF_more n o x hg d (x p).toNat (by omega) (by omega)
      · rfl
/-- behind the op's ownR round -/
def ownR (o x : Nat → Int) (p : Nat) : Int :=
  if isP (o p) = true ∧ (o (p + 1) = 2 ∨ o (p + 1) = 4) then 0
  else if isJ (o p) = true ∧ x p = p + 1 then 0 else o p
/-- behind all rounds -/
def want (n : Nat) (o x : Nat → Int) (p : Nat) : Int :=
  if isP (o p) = true ∧ p + 1 < n ∧ (o (p + 1) = 2 ∨ o (p + 1) = 4) then 0
  else if o p = 2 ∧ 0 < p ∧ isP (o (p - 1)) = true then 0
  else if o p = 4 ∧ 0 < p ∧ isP (o (p - 1)) = true then 1
  else if isJ (o p) = true ∧ x p = p + 1 then 0 else o p
def opA (n : Nat) (o x : Nat → Int) (k q : Nat) : Int := if q < k then o q else if q = k then ownR o x q else want n o x q
def valA (x f : Nat → Int) (k q : Nat) : Int := if q < k then x q else f q
def upd (A : Nat → Int) (k : Nat) (v : Int) (q : Nat) : Int := if q = k then v else A q
section
variable {n : Nat} {o x f : Nat → Int}
theorem own_2 {p : Nat} : ownR o x p = 2 ↔ o p = 2 := by
  unfold ownR
  constructor
  · intro h
    split at h
    · cases h
    · split at h
      · cases h
      · exact h
  · intro h
    have h1 : isP (o p) = false := by rw [h]; rfl
    have h2 : isJ (o p) = false := by rw [h]; rfl
    rw [if_neg (by rw [h1]; simp), if_neg (by rw [h2]; simp), h]
theorem own_4 {p : Nat} : ownR o x p = 4 ↔ o p = 4 := by
  unfold ownR
  constructor
  · intro h
    split at h
    · cases h
    · split at h
      · cases h
      · exact h
  · intro h
    have h1 : isP (o p) = false := by rw [h]; rfl
    have h2 : isJ (o p) = false := by rw [h]; rfl
    rw [if_neg (by rw [h1]; simp), if_neg (by rw [h2]; simp), h]
theorem want_15 {p : Nat} : want n o x p = 15 ↔ o p = 15 ∧ x p ≠ p + 1 := by
  unfold want
  constructor
  · intro h
    split at h
    · cases h
    · split at h
      · cases h
      · split at h
        · cases h
        · split at h
          · cases h
          · rename_i h1 h2 h3 h4
            refine ⟨h, fun e => h4 ⟨by rw [h]; rfl, e⟩⟩
  · intro ⟨h, h'⟩
    have h1 : isP (o p) = false := by rw [h]; rfl
    rw [if_neg (by rw [h1]; simp), if_neg (by rw [h]; simp), if_neg (by rw [h]; simp), if_neg (fun e => h' e.2), h]
/-- want is ownR where no push stands ahead -/
theorem want_own {p : Nat} (hp : p < n) (hg : Guard n o x) (h : 0 < p → isP (o (p - 1)) = true → o p ≠ 2 ∧ o p ≠ 4) : want n o x p = ownR o x p := by
  have hl : isP (o p) = true → p + 1 < n := fun h1 => by
    rcases Nat.lt_or_ge (p + 1) n with h2 | h2
    · exact h2
    · have := hg.1 p (by omega)
      rw [h1] at this
      cases this
  unfold want ownR
  by_cases h1 : isP (o p) = true
  · have := hl h1
    have h2 : isJ (o p) = false := by rw [isJ_no]; rw [isP_iff] at h1; omega
    by_cases h3 : o (p + 1) = 2 ∨ o (p + 1) = 4
    · simp [h1, h3, this]
    · have h4 : o p ≠ 2 := by rw [isP_iff] at h1; omega
      have h5 : o p ≠ 4 := by rw [isP_iff] at h1; omega
      simp [h3, h2, h4, h5]
  · by_cases h2 : 0 < p ∧ isP (o (p - 1)) = true
    · have := h h2.1 h2.2
      simp [h1, this.1, this.2]
    · have h3 : ¬ (o p = 2 ∧ 0 < p ∧ isP (o (p - 1)) = true) := fun e => h2 e.2
      have h4 : ¬ (o p = 4 ∧ 0 < p ∧ isP (o (p - 1)) = true) := fun e => h2 e.2
      have a1 : ¬ (isP (o p) = true ∧ p + 1 < n ∧ (o (p + 1) = 2 ∨ o (p + 1) = 4)) := fun e => h1 e.1
      have a2 : ¬ (isP (o p) = true ∧ (o (p + 1) = 2 ∨ o (p + 1) = 4)) := fun e => h1 e.1
      rw [if_neg a1, if_neg h3, if_neg h4, if_neg a2]
/-- a round that changes nothing but by the op's ownR -/
theorem stage_own {k : Nat} (hk : k < n) (hg : Guard n o x) (h : isP (o k) = true → o (k + 1) ≠ 2 ∧ o (k + 1) ≠ 4) : ∀ q, q < n → upd (opA n o x (k + 1)) k (ownR o x k) q = opA n o x k q := by
  intro q hq
  unfold upd opA
  by_cases h1 : q = k
  · subst h1; simp
  · rw [if_neg h1]
    by_cases h2 : q < k
    · rw [if_pos (by omega), if_pos h2]
    · rw [if_neg (by omega), if_neg h2, if_neg h1]
      by_cases h3 : q = k + 1
      · subst h3
        rw [if_pos rfl, want_own hq hg]
        intro _ hp
        exact h hp
      · rw [if_neg h3]
theorem stage_same {k : Nat} (hk : k < n) (hg : Guard n o x) (h : isP (o k) = true → o (k + 1) ≠ 2 ∧ o (k + 1) ≠ 4) (hj : isJ (o k) = true → x k ≠ k + 1) : ∀ q, q < n → opA n o x (k + 1) q = opA n o x k q := by
  intro q hq
  rw [← stage_own hk hg h q hq]
  unfold upd
  by_cases h1 : q = k
  · subst h1
    rw [if_pos rfl]
    unfold opA ownR
    rw [if_pos (by omega), if_neg (fun e => by have := h e.1; omega), if_neg (fun e => hj e.1 e.2)]
  · rw [if_neg h1]
theorem stage_pop {k : Nat} (hk : k + 1 < n) (hp : isP (o k) = true) (h : o (k + 1) = 2) : ∀ q, q < n → upd (upd (opA n o x (k + 1)) k 0) (k + 1) 0 q = opA n o x k q := by
  intro q hq
  unfold upd opA
  by_cases h1 : q = k + 1
  · subst h1
    rw [if_pos rfl, if_neg (by omega), if_neg (by omega)]
    unfold want
    have h2 : isP (o (k + 1)) = false := by rw [h]; rfl
    rw [if_neg (by rw [h2]; simp), if_pos ⟨h, by omega, hp⟩]
  · rw [if_neg h1]
    by_cases h2 : q = k
    · subst h2
      rw [if_pos rfl, if_neg (by omega), if_pos rfl]
      unfold ownR
      simp [hp, h]
    · rw [if_neg h2]
      by_cases h3 : q < k
      · rw [if_pos (by omega), if_pos h3]
      · rw [if_neg (by omega), if_neg h1, if_neg h3, if_neg h2]
theorem stage_const {k : Nat} (hk : k + 1 < n) (hp : isP (o k) = true) (h : o (k + 1) = 4) : ∀ q, q < n → upd (upd (opA n o x (k + 1)) k 0) (k + 1) 1 q = opA n o x k q := by
  intro q hq
  unfold upd opA
  by_cases h1 : q = k + 1
  · subst h1
    rw [if_pos rfl, if_neg (by omega), if_neg (by omega)]
    unfold want
    have h2 : isP (o (k + 1)) = false := by rw [h]; rfl
    rw [if_neg (by rw [h2]; simp), if_neg (by rw [h]; simp), if_pos ⟨h, by omega, hp⟩]
  · rw [if_neg h1]
    by_cases h2 : q = k
    · subst h2
      rw [if_pos rfl, if_neg (by omega), if_pos rfl]
      unfold ownR
      simp [hp, h]
    · rw [if_neg h2]
      by_cases h3 : q < k
      · rw [if_pos (by omega), if_pos h3]
      · rw [if_neg (by omega), if_neg h1, if_neg h3, if_neg h2]
/-- the values: a round that is no jump that goes on -/
theorem val_same {k : Nat} (hk : k < n) (hf : FinOK n o x f) (h : finEq o x f k = x k) : ∀ q, q < n → valA x f (k + 1) q = valA x f k q := by
  intro q hq
  unfold valA
  by_cases h1 : q < k
  · rw [if_pos (by omega), if_pos h1]
  · rw [if_neg h1]
    by_cases h2 : q = k
    · subst h2
      rw [if_pos (by omega), hf q hk, h]
    · rw [if_neg (by omega)]
theorem val_set {k : Nat} (hk : k < n) (hf : FinOK n o x f) {v : Int} (h : finEq o x f k = v) : ∀ q, q < n → upd (valA x f (k + 1)) k v q = valA x f k q := by
  intro q hq
  unfold upd valA
  by_cases h2 : q = k
  · subst h2
    rw [if_pos rfl, if_neg (by omega), hf q hk, h]
  · rw [if_neg h2]
    by_cases h1 : q < k
    · rw [if_pos (by omega), if_pos h1]
    · rw [if_neg (by omega), if_neg h1]
theorem fin_no {k : Nat} (h : isJ (o k) = false ∨ x k = k + 1) : finEq o x f k = x k := by unfold finEq; rw [if_pos h]
/-- a jump's target, read at its round -/
theorem fin_jump {k j : Nat} (hj : isJ (o k) = true) (hne : x k ≠ k + 1) (hx : x k = j) : finEq o x f k = if opA n o x (k + 1) j = 15 then valA x f (k + 1) j else x k := by
  unfold finEq
  have a0 : ¬ (isJ (o k) = false ∨ x k = k + 1) := by rw [hj]; simp [hne]
  rw [if_neg a0, hx]
  simp only [Int.toNat_natCast]
  unfold opA valA
  by_cases h1 : j < k + 1
  · have a1 : (j : Int) ≤ k := by omega
    rw [if_pos a1, if_pos h1, if_pos h1]
  · have a1 : ¬ (j : Int) ≤ k := by omega
    have a2 : ¬ j = k + 1 := by omega
    rw [if_neg a1, if_neg h1, if_neg a2, if_neg h1]
    by_cases h2 : o j = 15 ∧ x j ≠ j + 1
    · rw [if_pos h2, if_pos (want_15.2 h2)]
    · rw [if_neg h2, if_neg (fun e => h2 (want_15.1 e))]
theorem opA_end (hg : Guard n o x) {q : Nat} (hq : q < n) : opA n o x 0 q = want n o x q := by
  unfold opA
  rw [if_neg (by omega)]
  by_cases h : q = 0
  · subst h
    rw [if_pos rfl, want_own hq hg (fun h => absurd h (by omega))]
  · rw [if_neg h]
/-- forward jumps: a surviving jump never lands on a jump -/
theorem fin_lands (hg : Guard n o x) (hw : Fwd n o x) (hf : FinOK n o x f) : ∀ (m p : Nat), n - p ≤ m → p < n → isJ (o p) = true → x p ≠ p + 1 →
    x p ≤ f p ∧ (p : Int) < f p ∧ f p < n ∧ want n o x (f p).toNat ≠ 15
  | 0, p, h, hp, _, _ => absurd h (by omega)
  | m + 1, p, h, hp, hj, hne => by
    have h1 := hw p hp hj
    have h2 := (hg.2 p hp hj).resolve_left hne
    rw [hf p hp]
    unfold finEq
    rw [if_neg (by rw [hj]; simp [hne]), if_neg (by omega)]
    by_cases h3 : o (x p).toNat = 15 ∧ x (x p).toNat ≠ x p + 1
    · rw [if_pos h3]
      have hj' : isJ (o (x p).toNat) = true := by rw [h3.1]; rfl
      have h4 := hw (x p).toNat (by omega) hj'
      obtain ⟨h5, h6, h7, h8⟩ := fin_lands hg hw hf m (x p).toNat (by omega) (by omega) hj' (by omega)
      exact ⟨by omega, by omega, h7, h8⟩
    · rw [if_neg h3]
      refine ⟨by omega, by omega, by omega, fun e => ?_⟩
      have := want_15.1 e
      exact h3 ⟨this.1, by omega⟩
theorem want_J {p : Nat} (h : isJ (want n o x p) = true) : isJ (o p) = true ∧ x p ≠ p + 1 ∧ want n o x p = o p := by
  unfold want at h ⊢
  split at h
  · cases h
  · rename_i h1
    split at h
    · cases h
    · rename_i h2
      split at h
      · cases h
      · rename_i h3
        split at h
        · cases h
        · rename_i h4
          rw [if_neg h1, if_neg h2, if_neg h3, if_neg h4]
          exact ⟨h, fun e => h4 ⟨h, e⟩, rfl⟩
theorem want_noJ (hf : FinOK n o x f) {p : Nat} (hp : p < n) (h : isJ (want n o x p) = false) : f p = x p := by
  rw [hf p hp]
  refine fin_no ?_
  by_cases h1 : isJ (o p) = true
  · refine .inr ?_
    by_cases h2 : x p = p + 1
    · exact h2
    · have h3 : want n o x p = o p := by
        unfold want
        have h4 : isP (o p) = false := by rw [isP_no]; rw [isJ_iff] at h1; omega
        have h5 : o p ≠ 2 := by rw [isJ_iff] at h1; omega
        have h6 : o p ≠ 4 := by rw [isJ_iff] at h1; omega
        simp [h4, h5, h6, h2]
      rw [h3, h1] at h
      cases h
  · exact .inl (by cases hh : isJ (o p) <;> simp_all)
theorem want_kind {p : Nat} : want n o x p = o p ∨ want n o x p = 0 ∨ (want n o x p = 1 ∧ o p = 4) := by
  unfold want
  split
  · exact .inr (.inl rfl)
  · split
    · exact .inr (.inl rfl)
    · split
      · rename_i h
        exact .inr (.inr ⟨rfl, h.1⟩)
      · split
        · exact .inr (.inl rfl)
        · exact .inl rfl
end
end Go.Proofs.Ytaeficfjocinaaa
