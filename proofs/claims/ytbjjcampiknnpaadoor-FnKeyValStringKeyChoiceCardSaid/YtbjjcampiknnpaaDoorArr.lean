/- What jsonEncodeString, (*ConstTerm).writeTo of a string and (*ConstArray).writeTo and String of strings write. -/
import Derived.Test.YtbjjcampiknnpaaDoorLawS
namespace Go.Proofs.YtbjjcampiknnpaaDoor
open Go.RowKit
set_option maxRecDepth 100000
set_option linter.unusedVariables false
set_option linter.unusedSimpArgs false
def qT (s : ByteArray) : List UInt8 := [34] ++ enc s.data.toList ++ [34]
theorem qT_len (s : ByteArray) : (qT s).length ≤ 6 * s.size + 2 := by
  have h := enc_len s.data.toList.length s.data.toList (Nat.le_refl _)
  rw [size_list] at h
  simp only [qT, List.length_append, List.length_cons, List.length_nil]
  omega
set_option maxHeartbeats 1000000 in
theorem jsonG (B b : Nat) (l : List UInt8) (s : ByteArray) (w : World) (h : Bd B b l w) (hB : 2 ≤ B) (hT : Lib.Utf8Tabs 0 1 w) (hl : l.length + 6 * s.size + 20 ≤ 70368744177664) :
    Calls Tryd.prog 43 #[.pointer (some ⟨b, 0, none⟩), .string s] w (Wrote B b (l ++ qT s) w) := by
  have hE := Lib.hid fun (cs : Array Value) (h0 : cs[0]? = some (.iface 45 (.pointer (some ⟨b, 0, none⟩)))) => encG B b w.heap.size cs l s (w.alloc (.cells cs 53)) (h.alloc _) (Blk.new w _ _) h0 (by have := h.blt; omega) hB (tabs_below hB ((Below.refl B w).alloc h.2 _) hT) hl
  have hb0 := Lib.hid h.2
  have hzv := fun W => zero_enc W
  clear h hT
  go_enter Tryd.func43, Tryd.ntmps43
  go_wp2_with fail
  with_reducible refine (hE.out _ ?h0).mono ?_
  case h0 => rfl
  rintro e1 w1 ⟨rfl, h1, hb1⟩
  go_wp2_with fail
  go_end0
  exact ⟨rfl, h1.of_eq (by simp [qT]), ((Below.refl B w).alloc hb0.out _).trans hb1⟩
def ctS (s : ByteArray) : Array Value := #[.pointer none, .pointer none, .string ⟨#[]⟩, .string s, .bool false, .bool false, .bool false]
set_option maxHeartbeats 1000000 in
theorem termG (B b t : Nat) (l : List UInt8) (s : ByteArray) (w : World) (h : Bd B b l w) (hB : 2 ≤ B) (hTb : Lib.Utf8Tabs 0 1 w) (hl : l.length + 6 * s.size + 20 ≤ 70368744177664) (hT : Blk w t 73 (ctS s)) :
    Calls Tryd.prog 44 #[.pointer (some ⟨t, 0, none⟩), .pointer (some ⟨b, 0, none⟩)] w (Wrote B b (l ++ qT s) w) := by
  have c0 : w.cell? ⟨t, 0, none⟩ = some (.pointer none) := hT.cell 0
  have c1 : w.cell? ⟨t, 1, none⟩ = some (.pointer none) := hT.cell 1
  have c2 : w.cell? ⟨t, 2, none⟩ = some (.string ⟨#[]⟩) := hT.cell 2
  have c3 : w.cell? ⟨t, 3, none⟩ = some (.string s) := hT.cell 3
  have c4 : w.cell? ⟨t, 4, none⟩ = some (.bool false) := hT.cell 4
  have c5 : w.cell? ⟨t, 5, none⟩ = some (.bool false) := hT.cell 5
  have c6 : w.cell? ⟨t, 6, none⟩ = some (.bool false) := hT.cell 6
  have hj := Lib.hid (jsonG B b l s w h hB hTb hl)
  clear hT h hTb
  go_enter Tryd.func44, Tryd.ntmps44
  go_wp2_with fail
  with_reducible refine (hj.out).mono ?_
  rintro e1 w1 ⟨rfl, h1, hb1⟩
  go_wp2_with fail
  go_end0
  exact ⟨rfl, h1, hb1⟩
/-- the row of an array of strings -/
def ElsAt (w : World) (B : Nat) (A : Option Addr) (xs : List ByteArray) : Prop := ∀ i s, xs[i]? = some s → ∃ g t, A = some ⟨g, 0, none⟩ ∧ g < B ∧ w.cell? ⟨g, i, none⟩ = some (.pointer (some ⟨t, 0, none⟩)) ∧ t < B ∧ Blk w t 73 (ctS s)
theorem ElsAt.below {w w' : World} {B : Nat} {A : Option Addr} {xs : List ByteArray} (hb : Below B w w') (h : ElsAt w B A xs) : ElsAt w' B A xs := fun i s hs => by
  obtain ⟨g, t, h1, h2, h3, h4, h5⟩ := h i s hs
  exact ⟨g, t, h1, h2, (hb.cell (p := ⟨g, i, none⟩) h2).trans h3, h4, h5.below hb h4⟩
theorem ElsAt.mono {w : World} {B B' : Nat} {A : Option Addr} {xs : List ByteArray} (hB : B ≤ B') (h : ElsAt w B A xs) : ElsAt w B' A xs := fun i s hs => by
  obtain ⟨g, t, h1, h2, h3, h4, h5⟩ := h i s hs
  exact ⟨g, t, h1, by omega, h3, by omega, h5⟩
/-- the elements, with ', ' between -/
def joinQ : List ByteArray → List UInt8
  | [] => []
  | [s] => qT s
  | s :: r => qT s ++ [44, 32] ++ joinQ r
def arrT (xs : List ByteArray) : List UInt8 := [91] ++ joinQ xs ++ [93]
theorem joinQ_snoc (xs : List ByteArray) (s : ByteArray) : joinQ (xs ++ [s]) = if xs = [] then qT s else joinQ xs ++ [44, 32] ++ qT s := by
  induction xs with
  | nil => rfl
  | cons x r ih =>
    rw [if_neg (by simp)]
    cases r with
    | nil => simp [joinQ]
    | cons y q =>
      rw [if_neg (by simp)] at ih
      show qT x ++ [44, 32] ++ joinQ ((y :: q) ++ [s]) = _
      rw [ih]
      simp [joinQ]
theorem joinQ_append (xs ys : List ByteArray) : joinQ (xs ++ ys) = if xs = [] then joinQ ys else if ys = [] then joinQ xs else joinQ xs ++ [44, 32] ++ joinQ ys := by
  induction xs with
  | nil => rfl
  | cons x r ih =>
    rw [if_neg (by simp)]
    cases r with
    | nil =>
      cases ys with
      | nil => simp [joinQ]
      | cons y q => simp [joinQ]
    | cons z q =>
      rw [if_neg (by simp)] at ih
      show qT x ++ [44, 32] ++ joinQ ((z :: q) ++ ys) = _
      rw [ih]
      by_cases hy : ys = []
      · rw [if_pos hy, if_pos hy]; rfl
      · rw [if_neg hy, if_neg hy]; simp [joinQ]
theorem joinQ_take {xs : List ByteArray} {j : Nat} {s : ByteArray} (h : xs[j]? = some s) : joinQ (xs.take (j + 1)) = if j = 0 then qT s else joinQ (xs.take j) ++ [44, 32] ++ qT s := by
  have hj : j < xs.length := by
    rcases Nat.lt_or_ge j xs.length with h1 | h1
    · exact h1
    · rw [List.getElem?_eq_none h1] at h; cases h
  rw [List.take_add_one, h]
  show joinQ (xs.take j ++ [s]) = _
  rw [joinQ_snoc]
  by_cases h0 : j = 0
  · subst h0; rw [if_pos rfl, if_pos (by simp)]
  · rw [if_neg h0, if_neg]
    intro e
    have := congrArg List.length e
    rw [List.length_take, List.length_nil] at this
    omega
theorem joinQ_len (xs : List ByteArray) (h : ∀ s ∈ xs, s.size ≤ 1048576) : (joinQ xs).length ≤ 6291500 * xs.length := by
  induction xs with
  | nil => simp [joinQ]
  | cons x r ih =>
    have h1 := ih (fun y hy => h y (List.mem_cons_of_mem _ hy))
    have h2 := qT_len x
    have h3 := h x List.mem_cons_self
    cases r with
    | nil => simp only [joinQ, List.length_cons, List.length_nil]; omega
    | cons y q =>
      show (qT x ++ [44, 32] ++ joinQ (y :: q)).length ≤ _
      simp only [List.length_append, List.length_cons, List.length_nil] at h1 ⊢
      omega
end Go.Proofs.YtbjjcampiknnpaaDoor
