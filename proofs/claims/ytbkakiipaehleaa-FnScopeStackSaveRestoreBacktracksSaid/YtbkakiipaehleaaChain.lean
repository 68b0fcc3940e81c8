/- A stack kept as blocks with back links, and what a save protects: plain lemmas, no program in sight. -/
namespace Go.Proofs.Ytbkakiipaehleaa
/-- the content (oldest first) that hangs at place i of the blocks d -/
inductive Chain {α : Type} (d : Nat → Option (α × Int)) : Int → List α → Prop
  | nil : Chain d (-1) []
  | cons (i : Nat) (x : α) (j : Int) (m : List α) : d i = some (x, j) → j < i → Chain d j m → Chain d i (m ++ [x])
theorem Chain.lo {α : Type} {d : Nat → Option (α × Int)} {i : Int} {m : List α} (h : Chain d i m) : -1 ≤ i := by
  cases h <;> omega
theorem Chain.keep {α : Type} {d d' : Nat → Option (α × Int)} {i : Int} {m : List α} (h : Chain d i m) (hk : ∀ k : Nat, (k : Int) ≤ i → d' k = d k) : Chain d' i m := by
  induction h with
  | nil => exact .nil
  | cons i x j m hd hj _ ih =>
    refine .cons i x j m ?_ hj (ih fun k hki => hk k (by omega))
    rw [hk i (by omega)]; exact hd
theorem Chain.neg {α : Type} {d : Nat → Option (α × Int)} {i : Int} {m : List α} (h : Chain d i m) : decide (i < 0) = decide (m.length = 0) := by
  cases h with
  | nil => rfl
  | cons i x j m hd hj _ => simp
theorem Chain.pop {α : Type} {d : Nat → Option (α × Int)} {i : Int} {m : List α} (h : Chain d i m) (hm : m ≠ []) :
    ∃ (k : Nat) (x : α) (j : Int) (m' : List α), i = k ∧ d k = some (x, j) ∧ j < i ∧ -1 ≤ j ∧ m = m' ++ [x] ∧ Chain d j m' := by
  cases h with
  | nil => exact absurd rfl hm
  | cons i x j m hd hj hc => exact ⟨i, x, j, m, rfl, hd, hj, hc.lo, rfl, hc⟩
/-- the blocks behind a push at place k -/
def put {α : Type} (ds : List (α × Int)) (k : Nat) (b : α × Int) : List (α × Int) := if k < ds.length then ds.set k b else ds ++ [b]
theorem put_at {α : Type} (ds : List (α × Int)) (k : Nat) (b : α × Int) (h : k ≤ ds.length) : (put ds k b)[k]? = some b := by
  unfold put
  by_cases hk : k < ds.length
  · rw [if_pos hk]; simp [hk]
  · rw [if_neg hk]; have : k = ds.length := by omega
    subst this; simp
theorem put_below {α : Type} (ds : List (α × Int)) (k : Nat) (b : α × Int) (h : k ≤ ds.length) (i : Nat) (hi : i < k) : (put ds k b)[i]? = ds[i]? := by
  unfold put
  by_cases hk : k < ds.length
  · rw [if_pos hk, List.getElem?_set_ne (by omega)]
  · rw [if_neg hk, List.getElem?_append_left (by omega)]
theorem put_len {α : Type} (ds : List (α × Int)) (k : Nat) (b : α × Int) : ds.length ≤ (put ds k b).length ∧ (put ds k b).length ≤ ds.length + 1 := by
  unfold put
  by_cases hk : k < ds.length
  · rw [if_pos hk]; simp
  · rw [if_neg hk]; simp
theorem put_lt {α : Type} (ds : List (α × Int)) (k : Nat) (b : α × Int) (h : k ≤ ds.length) : k < (put ds k b).length := by
  unfold put
  by_cases hk : k < ds.length
  · rw [if_pos hk]; simpa using hk
  · rw [if_neg hk]; simp; omega
/-- a save: the index and the limit as they were, and the content then -/
structure Sv (α : Type) where
  idx : Int
  lim : Int
  snap : List α
/-- the saves (the latest first) hold under the limit L -/
def Held {α : Type} (ds : List (α × Int)) : Int → List (Sv α) → Prop
  | _, [] => True
  | L, s :: r => s.idx ≤ L ∧ s.lim ≤ L ∧ -1 ≤ s.lim ∧ Chain (fun k => ds[k]?) s.idx s.snap ∧ Held ds s.lim r
theorem Held.keep {α : Type} {ds ds' : List (α × Int)} : ∀ {sv : List (Sv α)} {L : Int}, Held ds L sv → (∀ k : Nat, (k : Int) ≤ L → ds'[k]? = ds[k]?) → Held ds' L sv
  | [], _, _, _ => trivial
  | _ :: _, _, ⟨h1, h2, h3, h4, h5⟩, hk => ⟨h1, h2, h3, h4.keep fun k hki => hk k (by omega), Held.keep h5 fun k hki => hk k (by omega)⟩
theorem Held.mono {α : Type} {ds : List (α × Int)} : ∀ {sv : List (Sv α)} {L L' : Int}, Held ds L sv → L ≤ L' → Held ds L' sv
  | [], _, _, _, _ => trivial
  | _ :: _, _, _, ⟨h1, h2, h3, h4, h5⟩, hL => ⟨by omega, by omega, h3, h4, h5⟩
/-- what holds of the stack between two steps -/
structure Stk {α : Type} (ds : List (α × Int)) (i L : Int) (m : List α) (sv : List (Sv α)) : Prop where
  chain : Chain (fun k => ds[k]?) i m
  ilt : i < ds.length
  llt : L < ds.length
  llo : -1 ≤ L
  held : Held ds L sv
theorem Stk.start {α : Type} : Stk ([] : List (α × Int)) (-1) (-1) [] [] := ⟨.nil, by simp, by simp, by omega, trivial⟩
theorem Stk.push {α : Type} {ds : List (α × Int)} {i L : Int} {m : List α} {sv : List (Sv α)} (h : Stk ds i L m sv) (x : α) (k : Nat) (hk : (k : Int) = max i L + 1) :
    k ≤ ds.length ∧ Stk (put ds k (x, i)) k L (m ++ [x]) sv := by
  have h1 := h.ilt; have h2 := h.llt; have h3 := h.chain.lo; have h4 := h.llo
  have hle : k ≤ ds.length := by omega
  have hb : ∀ j : Nat, (j : Int) ≤ max i L → (put ds k (x, i))[j]? = ds[j]? := fun j hj => put_below ds k _ hle j (by omega)
  have hl := put_lt ds k (x, i) hle
  have hn := put_len ds k (x, i)
  refine ⟨hle, .cons k x i m (put_at ds k _ hle) (by omega) (h.chain.keep fun j hj => hb j (by omega)), by omega, by omega, h4, h.held.keep fun j hj => hb j (by omega)⟩
theorem Stk.pop {α : Type} {ds : List (α × Int)} {i L : Int} {m : List α} {x : α} {sv : List (Sv α)} (h : Stk ds i L (m ++ [x]) sv) :
    ∃ (k : Nat) (j : Int), i = k ∧ k < ds.length ∧ ds[k]? = some (x, j) ∧ -1 ≤ j ∧ j < i ∧ Stk ds j L m sv := by
  obtain ⟨k, y, j, m', hi, hd, hj, hlo, hm, hc⟩ := h.chain.pop (by simp)
  obtain ⟨rfl, hxy⟩ := List.append_inj' hm rfl
  injection hxy with hxy
  subst hxy
  have h1 := h.ilt
  exact ⟨k, j, hi, by omega, hd, hlo, hj, hc, by omega, h.llt, h.llo, h.held⟩
theorem Stk.save {α : Type} {ds : List (α × Int)} {i L : Int} {m : List α} {sv : List (Sv α)} (h : Stk ds i L m sv) : Stk ds i (max i L) m (⟨i, L, m⟩ :: sv) :=
  ⟨h.chain, h.ilt, by have := h.ilt; have := h.llt; omega, by have := h.llo; omega, by show i ≤ max i L; omega, by show L ≤ max i L; omega, h.llo, h.chain, h.held⟩
theorem Stk.restore {α : Type} {ds : List (α × Int)} {i L : Int} {m : List α} {s : Sv α} {sv : List (Sv α)} (h : Stk ds i L m (s :: sv)) : Stk ds s.idx s.lim s.snap sv := by
  obtain ⟨h1, h2, h3, h4, h5⟩ := h.held
  have := h.llt
  exact ⟨h4, by omega, by omega, h3, h5⟩
theorem Stk.empty {α : Type} {ds : List (α × Int)} {i L : Int} {m : List α} {sv : List (Sv α)} (h : Stk ds i L m sv) : decide (i < 0) = decide (m.length = 0) := h.chain.neg
end Go.Proofs.Ytbkakiipaehleaa
