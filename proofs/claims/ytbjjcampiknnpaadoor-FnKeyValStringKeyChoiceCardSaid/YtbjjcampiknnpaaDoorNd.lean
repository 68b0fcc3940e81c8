/- Constant trees: their size, their text, how they lie in memory. -/
import Derived.Test.YtbjjcampiknnpaaDoorArr
import Derived.Test.YtbjjcampiknnpaaDoorSar
namespace Go.Proofs.YtbjjcampiknnpaaDoor
open Go.RowKit
set_option maxRecDepth 100000
set_option linter.unusedVariables false
set_option linter.unusedSimpArgs false
inductive Nd where
  | mk (k : Nat) (num key : ByteArray) (kids : List Nd)
def Nd.key : Nd → ByteArray
  | .mk _ _ key _ => key
/-- a sum over the first things of a list -/
def szs {α : Type} (f : α → Nat) : List α → Nat
  | [] => 0
  | x :: r => 64 + f x + szs f r
theorem szs_append {α : Type} (f : α → Nat) (a b : List α) : szs f (a ++ b) = szs f a + szs f b := by
  induction a with
  | nil => simp [szs]
  | cons x r ih => simp only [List.cons_append, szs, ih]; omega
theorem szs_take {α : Type} (f : α → Nat) {l : List α} {j : Nat} {x : α} (h : l[j]? = some x) : szs f (l.take (j + 1)) = szs f (l.take j) + (64 + f x) := by
  rw [List.take_add_one, h, szs_append]
  rfl
theorem szs_le {α : Type} (f : α → Nat) (l : List α) (j : Nat) : szs f (l.take j) ≤ szs f l := by
  have h := szs_append f (l.take j) (l.drop j)
  rw [List.take_append_drop] at h
  omega
theorem szs_len {α : Type} (f : α → Nat) (l : List α) : 64 * l.length ≤ szs f l := by
  induction l with
  | nil => simp [szs]
  | cons x r ih => simp only [szs, List.length_cons]; omega
theorem szs_mem {α : Type} (f : α → Nat) {l : List α} {x : α} (h : x ∈ l) : 64 + f x ≤ szs f l := by
  induction l with
  | nil => cases h
  | cons y r ih =>
    simp only [szs]
    rcases List.mem_cons.1 h with h | h
    · subst h; omega
    · have := ih h; omega
/-- the bytes that a tree unfolds into -/
def sz : Nat → Nd → Nat
  | 0, .mk _ num key _ => num.size + key.size
  | n + 1, .mk _ num key kids => num.size + key.size + szs (sz n) kids
/-- texts with ', ' between -/
def joinL : List (List UInt8) → List UInt8
  | [] => []
  | [s] => s
  | s :: r => s ++ [44, 32] ++ joinL r
theorem joinL_snoc (xs : List (List UInt8)) (s : List UInt8) : joinL (xs ++ [s]) = if xs = [] then s else joinL xs ++ [44, 32] ++ s := by
  induction xs with
  | nil => rfl
  | cons x r ih =>
    rw [if_neg (by simp)]
    cases r with
    | nil => simp [joinL]
    | cons y q =>
      rw [if_neg (by simp)] at ih
      show x ++ [44, 32] ++ joinL ((y :: q) ++ [s]) = _
      rw [ih]
      simp [joinL]
theorem joinL_take {α : Type} (f : α → List UInt8) {xs : List α} {j : Nat} {s : α} (h : xs[j]? = some s) : joinL ((xs.take (j + 1)).map f) = if j = 0 then f s else joinL ((xs.take j).map f) ++ [44, 32] ++ f s := by
  have hj := lt_of_some h
  rw [List.take_add_one, h]
  show joinL ((xs.take j ++ [s]).map f) = _
  rw [List.map_append]
  show joinL (_ ++ [f s]) = _
  rw [joinL_snoc]
  by_cases h0 : j = 0
  · subst h0; rw [if_pos rfl, if_pos (by simp)]
  · rw [if_neg h0, if_neg]
    intro e
    have := congrArg List.length e
    rw [List.length_map, List.length_take, List.length_nil] at this
    omega
def keyT (k : ByteArray) : List UInt8 := if k.size = 0 then [34, 34] else k.data.toList
theorem keyT_len (k : ByteArray) : (keyT k).length ≤ k.size + 2 := by
  unfold keyT
  split
  · simp
  · rw [size_list]; omega
theorem qT_nil : qT ⟨#[]⟩ = [34, 34] := by simp [qT, enc_nil]
theorem keyT_eq (k : ByteArray) : keyT k = if k.size = 0 then qT k else k.data.toList := by
  unfold keyT
  split
  · rename_i h
    obtain rfl : k = ⟨#[]⟩ := by
      obtain ⟨d⟩ := k
      have : d.size = 0 := h
      rw [Array.eq_empty_of_size_eq_zero this]
    rw [qT_nil]
  · rfl
/-- the text of a tree -/
def jT : Nat → Nd → List UInt8
  | 0, _ => []
  | n + 1, .mk k num _ kids =>
    if k % 6 = 0 then [110, 117, 108, 108] else if k % 6 = 1 then [116, 114, 117, 101] else if k % 6 = 2 then [102, 97, 108, 115, 101] else if k % 6 = 3 then keyT num
    else if k % 6 = 4 then [91] ++ joinL (kids.map (jT n)) ++ [93]
    else if kids = [] then [123, 125] else [123, 32] ++ joinL (kids.map fun x => keyT x.key ++ [58, 32] ++ jT n x) ++ [32, 125]
theorem joinL_le {α : Type} (f : α → List UInt8) (g : α → Nat) : ∀ xs : List α, (∀ x ∈ xs, (f x).length + 2 ≤ 64 + g x) → (joinL (xs.map f)).length ≤ szs g xs
  | [], _ => by simp [joinL]
  | [x], h => by
    have := h x List.mem_cons_self
    simp only [List.map_cons, List.map_nil, joinL, szs]
    omega
  | x :: y :: r, h => by
    have h1 := h x List.mem_cons_self
    have h2 := joinL_le f g (y :: r) (fun z hz => h z (List.mem_cons_of_mem _ hz))
    simp only [List.map_cons, joinL, szs, List.length_append, List.length_cons, List.length_nil] at h2 ⊢
    omega
theorem jT_len : ∀ (n : Nat) (T : Nd), (jT n T).length + T.key.size ≤ sz n T + 8
  | 0, .mk k num key kids => by simp only [jT, sz, Nd.key, List.length_nil]; omega
  | n + 1, .mk k num key kids => by
    have ih := jT_len n
    have hk := keyT_len num
    simp only [jT, sz]
    rw [show (Nd.mk k num key kids).key = key from rfl]
    have h1 : (joinL (kids.map (jT n))).length ≤ szs (sz n) kids := joinL_le _ _ _ fun x _ => by
      have := ih x
      omega
    have h2 : (joinL (kids.map fun x => keyT x.key ++ [58, 32] ++ jT n x)).length ≤ szs (sz n) kids := joinL_le _ _ _ fun x _ => by
      have h3 := ih x
      have h4 := keyT_len x.key
      simp only [List.length_append, List.length_cons, List.length_nil]
      omega
    split
    · simp only [List.length_cons, List.length_nil]; omega
    split
    · simp only [List.length_cons, List.length_nil]; omega
    split
    · simp only [List.length_cons, List.length_nil]; omega
    split
    · omega
    split
    · simp only [List.length_append, List.length_cons, List.length_nil]; omega
    split
    · simp only [List.length_cons, List.length_nil]; omega
    · simp only [List.length_append, List.length_cons, List.length_nil]; omega
/-- how a tree lies in memory as it came in -/
def NdAt (W : World) (B : Nat) : Nat → Value → Nd → Prop
  | 0, _, _ => False
  | n + 1, v, .mk k num key kids => ∃ A cap, v = .agg #[.int .u8 k, .string num, .string key, .slice A kids.length cap] ∧ k < 256 ∧ kids.length ≤ 140737488355328 ∧ num.size ≤ 140737488355328 ∧ key.size ≤ 140737488355328 ∧
    ∀ (i k' : Nat) (num' key' : ByteArray) (kids' : List Nd), kids[i]? = some (.mk k' num' key' kids') → ∃ g o A' cap', A = some ⟨g, o, none⟩ ∧ g < B ∧ W.cell? ⟨g, o + i * 4, none⟩ = some (.int .u8 k') ∧ W.cell? ⟨g, o + i * 4 + 1, none⟩ = some (.string num') ∧
      W.cell? ⟨g, o + i * 4 + 2, none⟩ = some (.string key') ∧ W.cell? ⟨g, o + i * 4 + 3, none⟩ = some (.slice A' kids'.length cap') ∧ NdAt W B n (.agg #[.int .u8 k', .string num', .string key', .slice A' kids'.length cap']) (.mk k' num' key' kids')
theorem NdAt.below {W W' : World} {B : Nat} (hb : Below B W W') : ∀ {n : Nat} {v : Value} {T : Nd}, NdAt W B n v T → NdAt W' B n v T
  | 0, _, _, h => h
  | n + 1, v, .mk k num key kids, h => by
    obtain ⟨A, cap, h1, h2, h3, h4, h5, h6⟩ := h
    refine ⟨A, cap, h1, h2, h3, h4, h5, fun i k' num' key' kids' hi => ?_⟩
    obtain ⟨g, o, A', cap', a1, a2, a3, a4, a5, a6, a7⟩ := h6 i k' num' key' kids' hi
    exact ⟨g, o, A', cap', a1, a2, (hb.cell (p := ⟨g, _, none⟩) a2).trans a3, (hb.cell (p := ⟨g, _, none⟩) a2).trans a4, (hb.cell (p := ⟨g, _, none⟩) a2).trans a5, (hb.cell (p := ⟨g, _, none⟩) a2).trans a6, NdAt.below hb a7⟩
theorem NdAt.mono {W : World} {B B' : Nat} (hB : B ≤ B') : ∀ {n : Nat} {v : Value} {T : Nd}, NdAt W B n v T → NdAt W B' n v T
  | 0, _, _, h => h
  | n + 1, v, .mk k num key kids, h => by
    obtain ⟨A, cap, h1, h2, h3, h4, h5, h6⟩ := h
    refine ⟨A, cap, h1, h2, h3, h4, h5, fun i k' num' key' kids' hi => ?_⟩
    obtain ⟨g, o, A', cap', a1, a2, a3, a4, a5, a6, a7⟩ := h6 i k' num' key' kids' hi
    exact ⟨g, o, A', cap', a1, by omega, a3, a4, a5, a6, NdAt.mono hB a7⟩
def ctv (O A : Option Addr) (num : ByteArray) (a b c : Bool) : Array Value := #[.pointer O, .pointer A, .string num, .string ⟨#[]⟩, .bool a, .bool b, .bool c]
/-- how the constant term of a tree lies in memory, in blocks from L on and below B -/
def TermAt (w : World) (L B : Nat) : Nat → Nat → Nd → Prop
  | 0, _, _ => False
  | n + 1, t, .mk k num key kids => L ≤ t ∧ t < B ∧
    ((k % 6 = 0 ∧ Blk w t 73 (ctv none none ⟨#[]⟩ true false false)) ∨ (k % 6 = 1 ∧ Blk w t 73 (ctv none none ⟨#[]⟩ false true false)) ∨ (k % 6 = 2 ∧ Blk w t 73 (ctv none none ⟨#[]⟩ false false true)) ∨
     (k % 6 = 3 ∧ Blk w t 73 (ctv none none num false false false)) ∨
     (k % 6 = 4 ∧ ∃ (a R : Nat) (arr : Array Value), Blk w t 73 (ctv none (some ⟨a, 0, none⟩) ⟨#[]⟩ false false false) ∧ L ≤ a ∧ a < B ∧ Blk w a 75 #[.slice (some ⟨R, 0, none⟩) kids.length kids.length] ∧ L ≤ R ∧ R < B ∧ Blk w R 57 arr ∧
       ∀ (i : Nat) (x : Nd), kids[i]? = some x → ∃ u : Nat, arr[i]? = some (.pointer (some ⟨u, 0, none⟩)) ∧ TermAt w L B n u x) ∨
     (k % 6 = 5 ∧ ∃ (a R : Nat) (arr : Array Value), Blk w t 73 (ctv (some ⟨a, 0, none⟩) none ⟨#[]⟩ false false false) ∧ L ≤ a ∧ a < B ∧ Blk w a 84 #[.slice (some ⟨R, 0, none⟩) kids.length kids.length] ∧ L ≤ R ∧ R < B ∧ Blk w R 28 arr ∧
       ∀ (i : Nat) (x : Nd), kids[i]? = some x → ∃ c u : Nat, arr[i]? = some (.pointer (some ⟨c, 0, none⟩)) ∧ L ≤ c ∧ c < B ∧ Blk w c 60 #[.string x.key, .string ⟨#[]⟩, .pointer (some ⟨u, 0, none⟩)] ∧ TermAt w L B n u x))
/-- whatever keeps the blocks from L on and below B keeps the term, and the bounds may widen -/
theorem TermAt.keep {W W' : World} {L B L' B' : Nat} (hL : L' ≤ L) (hB : B ≤ B') (hk : ∀ g t cs, L ≤ g → g < B → Blk W g t cs → Blk W' g t cs) : ∀ {n : Nat} {t : Nat} {T : Nd}, TermAt W L B n t T → TermAt W' L' B' n t T
  | 0, _, _, h => h.elim
  | n + 1, t, .mk k num key kids, h => by
    obtain ⟨hl, ht, h⟩ := h
    refine ⟨by omega, by omega, ?_⟩
    rcases h with ⟨h1, h2⟩ | ⟨h1, h2⟩ | ⟨h1, h2⟩ | ⟨h1, h2⟩ | ⟨h1, a, R, arr, h2, h3, h4, h5, h6, h7, h8, h9⟩ | ⟨h1, a, R, arr, h2, h3, h4, h5, h6, h7, h8, h9⟩
    · exact .inl ⟨h1, hk _ _ _ hl ht h2⟩
    · exact .inr (.inl ⟨h1, hk _ _ _ hl ht h2⟩)
    · exact .inr (.inr (.inl ⟨h1, hk _ _ _ hl ht h2⟩))
    · exact .inr (.inr (.inr (.inl ⟨h1, hk _ _ _ hl ht h2⟩)))
    · refine .inr (.inr (.inr (.inr (.inl ⟨h1, a, R, arr, hk _ _ _ hl ht h2, by omega, by omega, hk _ _ _ h3 h4 h5, by omega, by omega, hk _ _ _ h6 h7 h8, fun i x hi => ?_⟩))))
      obtain ⟨u, a1, a2⟩ := h9 i x hi
      exact ⟨u, a1, TermAt.keep hL hB hk a2⟩
    · refine .inr (.inr (.inr (.inr (.inr ⟨h1, a, R, arr, hk _ _ _ hl ht h2, by omega, by omega, hk _ _ _ h3 h4 h5, by omega, by omega, hk _ _ _ h6 h7 h8, fun i x hi => ?_⟩))))
      obtain ⟨c, u, a1, a2, a3, a4, a5⟩ := h9 i x hi
      exact ⟨c, u, a1, by omega, by omega, hk _ _ _ a2 a3 a4, TermAt.keep hL hB hk a5⟩
theorem TermAt.below {W W' : World} {L B : Nat} (hb : Below B W W') {n t : Nat} {T : Nd} (h : TermAt W L B n t T) : TermAt W' L B n t T :=
  h.keep (Nat.le_refl _) (Nat.le_refl _) fun _ _ _ _ h2 h3 => h3.below hb h2
theorem TermAt.wide {W : World} {L B L' B' : Nat} (hL : L' ≤ L) (hB : B ≤ B') {n t : Nat} {T : Nd} (h : TermAt W L B n t T) : TermAt W L' B' n t T :=
  h.keep hL hB fun _ _ _ _ _ h3 => h3
theorem TermAt.set_ {W : World} {L B : Nat} {p : Addr} (v : Value) (hp : p.block < L) {n t : Nat} {T : Nd} (h : TermAt W L B n t T) : TermAt (W.setCell p v) L B n t T :=
  h.keep (Nat.le_refl _) (Nat.le_refl _) fun _ _ _ h1 _ h3 => h3.far (by omega) v
theorem TermAt.alloc {W : World} {L B : Nat} (o : Obj) {n t : Nat} {T : Nd} (h : TermAt W L B n t T) : TermAt (W.alloc o) L B n t T :=
  h.keep (Nat.le_refl _) (Nat.le_refl _) fun _ _ _ _ _ h3 => h3.alloc o
theorem TermAt.drew {W : World} {L B : Nat} {n t : Nat} {T : Nd} (h : TermAt W L B n t T) : TermAt W.drew L B n t T :=
  TermAt.keep (W := W) (W' := W.drew) (Nat.le_refl _) (Nat.le_refl _) (fun _ _ _ _ _ h3 => h3) h
end Go.Proofs.YtbjjcampiknnpaaDoor
