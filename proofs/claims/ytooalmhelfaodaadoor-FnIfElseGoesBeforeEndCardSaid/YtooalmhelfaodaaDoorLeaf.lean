/- What (*Term).writeTo and (*Query).writeTo write for the small terms; what (*Index).writeTo and (*Func).writeTo write. -/
import Derived.Test.YtooalmhelfaodaaDoorAst
import Derived.LoopTactic
namespace Go.Proofs.YtooalmhelfaodaaDoor
open Go.RowKit
set_option maxRecDepth 100000
/-- what is written of a small term -/
inductive Leaf
  | ident | null | tru | fls
  | num (s : ByteArray)
  | func (s : ByteArray)
  | brk (s : ByteArray)
  | idx (s : ByteArray)
def tcells (ty : Int) (ix fn : Value) (num brk : ByteArray) : Array Value :=
  #[.int .i64 ty, ix, fn, .pointer none, .pointer none, .string num, .pointer none, .string ⟨#[]⟩, .pointer none, .pointer none, .pointer none, .pointer none, .pointer none, .pointer none, .string brk, .pointer none, .slice none 0 0]
/-- block t is the term x; all of it lies below B -/
def TermIs (w : World) (B t : Nat) : Leaf → Prop
  | .ident => t < B ∧ Blk w t 139 (tcells 1 (.pointer none) (.pointer none) ⟨#[]⟩ ⟨#[]⟩)
  | .null => t < B ∧ Blk w t 139 (tcells 3 (.pointer none) (.pointer none) ⟨#[]⟩ ⟨#[]⟩)
  | .tru => t < B ∧ Blk w t 139 (tcells 4 (.pointer none) (.pointer none) ⟨#[]⟩ ⟨#[]⟩)
  | .fls => t < B ∧ Blk w t 139 (tcells 5 (.pointer none) (.pointer none) ⟨#[]⟩ ⟨#[]⟩)
  | .num s => t < B ∧ Blk w t 139 (tcells 10 (.pointer none) (.pointer none) s ⟨#[]⟩)
  | .func s => t < B ∧ ∃ i, i < B ∧ Blk w t 139 (tcells 7 (.pointer none) (.pointer (some ⟨i, 0, none⟩)) ⟨#[]⟩ ⟨#[]⟩) ∧ Blk w i 142 #[.string s, .slice none 0 0]
  | .brk s => t < B ∧ Blk w t 139 (tcells 19 (.pointer none) (.pointer none) ⟨#[]⟩ s)
  | .idx s => s.size ≠ 0 ∧ t < B ∧ ∃ i, i < B ∧ Blk w t 139 (tcells 6 (.pointer (some ⟨i, 0, none⟩)) (.pointer none) ⟨#[]⟩ ⟨#[]⟩) ∧ Blk w i 144 #[.string s, .pointer none, .pointer none, .pointer none, .bool false]
theorem TermIs.lt {w : World} {B t : Nat} : ∀ {x : Leaf}, TermIs w B t x → t < B
  | .ident, h => h.1 | .null, h => h.1 | .tru, h => h.1 | .fls, h => h.1 | .num _, h => h.1 | .func _, h => h.1 | .brk _, h => h.1 | .idx _, h => h.2.1
theorem TermIs.below {w w' : World} {B t : Nat} (hb : Below B w w') : ∀ {x : Leaf}, TermIs w B t x → TermIs w' B t x
  | .ident, h => ⟨h.1, h.2.below hb h.1⟩ | .null, h => ⟨h.1, h.2.below hb h.1⟩ | .tru, h => ⟨h.1, h.2.below hb h.1⟩ | .fls, h => ⟨h.1, h.2.below hb h.1⟩ | .num _, h => ⟨h.1, h.2.below hb h.1⟩ | .brk _, h => ⟨h.1, h.2.below hb h.1⟩
  | .func _, ⟨h1, i, h2, h3, h4⟩ => ⟨h1, i, h2, h3.below hb h1, h4.below hb h2⟩
  | .idx _, ⟨h0, h1, i, h2, h3, h4⟩ => ⟨h0, h1, i, h2, h3.below hb h1, h4.below hb h2⟩
theorem TermIs.mono {w : World} {B B' t : Nat} (hB : B ≤ B') : ∀ {x : Leaf}, TermIs w B t x → TermIs w B' t x
  | .ident, h => ⟨Nat.lt_of_lt_of_le h.1 hB, h.2⟩ | .null, h => ⟨Nat.lt_of_lt_of_le h.1 hB, h.2⟩ | .tru, h => ⟨Nat.lt_of_lt_of_le h.1 hB, h.2⟩ | .fls, h => ⟨Nat.lt_of_lt_of_le h.1 hB, h.2⟩ | .num _, h => ⟨Nat.lt_of_lt_of_le h.1 hB, h.2⟩ | .brk _, h => ⟨Nat.lt_of_lt_of_le h.1 hB, h.2⟩
  | .func _, ⟨h1, i, h2, h3, h4⟩ => ⟨Nat.lt_of_lt_of_le h1 hB, i, Nat.lt_of_lt_of_le h2 hB, h3, h4⟩
  | .idx _, ⟨h0, h1, i, h2, h3, h4⟩ => ⟨h0, Nat.lt_of_lt_of_le h1 hB, i, Nat.lt_of_lt_of_le h2 hB, h3, h4⟩
/-- does a text end in a dot or a digit? -/
def fuse (l : List UInt8) : Bool := match l.getLast? with
  | some c => c == 46 || (decide (48 ≤ c) && decide (c ≤ 57))
  | none => false
/-- the blank ahead of an index -/
def gap (l : List UInt8) : List UInt8 := if fuse l then [32] else []
/-- what stands in the builder behind the term -/
def outL (x : Leaf) (l : List UInt8) : List UInt8 := match x with
  | .ident => l ++ [46]
  | .null => l ++ [110, 117, 108, 108]
  | .tru => l ++ [116, 114, 117, 101]
  | .fls => l ++ [102, 97, 108, 115, 101]
  | .num s => l ++ s.data.toList
  | .func s => l ++ s.data.toList
  | .brk s => l ++ [98, 114, 101, 97, 107, 32] ++ s.data.toList
  | .idx s => l ++ gap l ++ [46] ++ s.data.toList
def Leaf.wt : Leaf → Nat
  | .num s => s.size + 8 | .func s => s.size + 8 | .brk s => s.size + 8 | .idx s => s.size + 8 | _ => 8
theorem size_list (s : ByteArray) : s.data.toList.length = s.size := Array.length_toList
theorem gap_len (l : List UInt8) : (gap l).length ≤ 1 := by unfold gap; by_cases h : fuse l = true <;> simp [h]
theorem outL_len (x : Leaf) (l : List UInt8) : (outL x l).length ≤ l.length + x.wt := by
  have := gap_len l
  cases x <;> simp only [outL, Leaf.wt, List.length_append, List.length_cons, List.length_nil, size_list] <;> omega
/-- the fixed texts -/
def Wrote (B b : Nat) (l : List UInt8) (w : World) (e : Ending) (w' : World) : Prop := e = .returned (.tuple #[]) ∧ Bd B b l w' ∧ Below B w w'
set_option maxHeartbeats 1000000 in
theorem term_ident (B b t : Nat) (l : List UInt8) (w : World) (h : Bd B b l w) (hl : l.length + 8 ≤ 70368744177664) (ht : t < B)
    (c0 : w.cell? ⟨t, 0, none⟩ = some (.int .i64 1)) (c16 : w.cell? ⟨t, 16, none⟩ = some (.slice none 0 0)) :
    Calls Tryd.prog 77 #[.pointer (some ⟨t, 0, none⟩), .pointer (some ⟨b, 0, none⟩)] w (Wrote B b (l ++ [46]) w) := by
  go_enter Tryd.func77, Tryd.ntmps77
  go_wp2_with (go_at_call 70; ((with_reducible refine (wByte B b l 46 _ _ (by decide) h (by omega)).mono ?_); rintro e w1 ⟨rfl, h1, hb1⟩; obtain ⟨hc1, hf1⟩ := bcell hb1; rw [← hc1 t 16 ht] at c16; clear hc1 hf1))
  refine wp_loop_rounds 1 ?_
  rw [rounds_succ]
  go_wp2
  go_end0
  exact ⟨rfl, h1, hb1⟩
set_option maxHeartbeats 1000000 in
theorem term_null (B b t : Nat) (l : List UInt8) (w : World) (h : Bd B b l w) (hl : l.length + 8 ≤ 70368744177664) (ht : t < B)
    (c0 : w.cell? ⟨t, 0, none⟩ = some (.int .i64 3)) (c16 : w.cell? ⟨t, 16, none⟩ = some (.slice none 0 0)) :
    Calls Tryd.prog 77 #[.pointer (some ⟨t, 0, none⟩), .pointer (some ⟨b, 0, none⟩)] w (Wrote B b (l ++ [110, 117, 108, 108]) w) := by
  have hsz : l.length + (⟨#[110, 117, 108, 108]⟩ : ByteArray).size ≤ 70368744177664 := by show l.length + 4 ≤ _; omega
  go_enter Tryd.func77, Tryd.ntmps77
  go_wp2_with (go_at_call 59; ((with_reducible refine (wStr B b l ⟨#[110, 117, 108, 108]⟩ _ h hsz).mono ?_); rintro e w1 ⟨rfl, h1, hb1⟩; obtain ⟨hc1, hf1⟩ := bcell hb1; rw [← hc1 t 16 ht] at c16; clear hc1 hf1))
  refine wp_loop_rounds 1 ?_
  rw [rounds_succ]
  go_wp2
  go_end0
  exact ⟨rfl, h1, hb1⟩
set_option maxHeartbeats 1000000 in
theorem term_tru (B b t : Nat) (l : List UInt8) (w : World) (h : Bd B b l w) (hl : l.length + 8 ≤ 70368744177664) (ht : t < B)
    (c0 : w.cell? ⟨t, 0, none⟩ = some (.int .i64 4)) (c16 : w.cell? ⟨t, 16, none⟩ = some (.slice none 0 0)) :
    Calls Tryd.prog 77 #[.pointer (some ⟨t, 0, none⟩), .pointer (some ⟨b, 0, none⟩)] w (Wrote B b (l ++ [116, 114, 117, 101]) w) := by
  have hsz : l.length + (⟨#[116, 114, 117, 101]⟩ : ByteArray).size ≤ 70368744177664 := by show l.length + 4 ≤ _; omega
  go_enter Tryd.func77, Tryd.ntmps77
  go_wp2_with (go_at_call 59; ((with_reducible refine (wStr B b l ⟨#[116, 114, 117, 101]⟩ _ h hsz).mono ?_); rintro e w1 ⟨rfl, h1, hb1⟩; obtain ⟨hc1, hf1⟩ := bcell hb1; rw [← hc1 t 16 ht] at c16; clear hc1 hf1))
  refine wp_loop_rounds 1 ?_
  rw [rounds_succ]
  go_wp2
  go_end0
  exact ⟨rfl, h1, hb1⟩
set_option maxHeartbeats 1000000 in
theorem term_fls (B b t : Nat) (l : List UInt8) (w : World) (h : Bd B b l w) (hl : l.length + 8 ≤ 70368744177664) (ht : t < B)
    (c0 : w.cell? ⟨t, 0, none⟩ = some (.int .i64 5)) (c16 : w.cell? ⟨t, 16, none⟩ = some (.slice none 0 0)) :
    Calls Tryd.prog 77 #[.pointer (some ⟨t, 0, none⟩), .pointer (some ⟨b, 0, none⟩)] w (Wrote B b (l ++ [102, 97, 108, 115, 101]) w) := by
  have hsz : l.length + (⟨#[102, 97, 108, 115, 101]⟩ : ByteArray).size ≤ 70368744177664 := by show l.length + 5 ≤ _; omega
  go_enter Tryd.func77, Tryd.ntmps77
  go_wp2_with (go_at_call 59; ((with_reducible refine (wStr B b l ⟨#[102, 97, 108, 115, 101]⟩ _ h hsz).mono ?_); rintro e w1 ⟨rfl, h1, hb1⟩; obtain ⟨hc1, hf1⟩ := bcell hb1; rw [← hc1 t 16 ht] at c16; clear hc1 hf1))
  refine wp_loop_rounds 1 ?_
  rw [rounds_succ]
  go_wp2
  go_end0
  exact ⟨rfl, h1, hb1⟩
set_option maxHeartbeats 1000000 in
theorem term_num (B b t : Nat) (l : List UInt8) (s : ByteArray) (w : World) (h : Bd B b l w) (hl : l.length + s.size ≤ 70368744177664) (ht : t < B)
    (c0 : w.cell? ⟨t, 0, none⟩ = some (.int .i64 10)) (c5 : w.cell? ⟨t, 5, none⟩ = some (.string s)) (c16 : w.cell? ⟨t, 16, none⟩ = some (.slice none 0 0)) :
    Calls Tryd.prog 77 #[.pointer (some ⟨t, 0, none⟩), .pointer (some ⟨b, 0, none⟩)] w (Wrote B b (l ++ s.data.toList) w) := by
  go_enter Tryd.func77, Tryd.ntmps77
  go_wp2_with (go_at_call 59; ((with_reducible refine (wStr B b l s _ h hl).mono ?_); rintro e w1 ⟨rfl, h1, hb1⟩; obtain ⟨hc1, hf1⟩ := bcell hb1; rw [← hc1 t 16 ht] at c16; clear hc1 hf1))
  refine wp_loop_rounds 1 ?_
  rw [rounds_succ]
  go_wp2
  go_end0
  exact ⟨rfl, h1, hb1⟩
set_option maxHeartbeats 1000000 in
theorem term_brk (B b t : Nat) (l : List UInt8) (s : ByteArray) (w : World) (h : Bd B b l w) (hl : l.length + (s.size + 8) ≤ 70368744177664) (ht : t < B)
    (c0 : w.cell? ⟨t, 0, none⟩ = some (.int .i64 19)) (c14 : w.cell? ⟨t, 14, none⟩ = some (.string s)) (c16 : w.cell? ⟨t, 16, none⟩ = some (.slice none 0 0)) :
    Calls Tryd.prog 77 #[.pointer (some ⟨t, 0, none⟩), .pointer (some ⟨b, 0, none⟩)] w (Wrote B b (l ++ [98, 114, 101, 97, 107, 32] ++ s.data.toList) w) := by
  go_enter Tryd.func77, Tryd.ntmps77
  have hsz : l.length + (⟨#[98, 114, 101, 97, 107, 32]⟩ : ByteArray).size ≤ 70368744177664 := by show l.length + 6 ≤ _; omega
  go_wp2_with fail
  with_reducible refine (wStr B b l ⟨#[98, 114, 101, 97, 107, 32]⟩ _ h hsz).mono ?_
  rintro e w1 ⟨rfl, h1, hb1⟩
  obtain ⟨hc1, hf1⟩ := bcell hb1
  rw [← hc1 t 16 ht] at c16
  rw [← hc1 t 14 ht] at c14
  clear hc1 hf1
  go_wp2_with fail
  with_reducible refine (wStr B b _ s _ h1 (by simp; omega)).mono ?_
  rintro e w2 ⟨rfl, h2, hb2⟩
  obtain ⟨hc1, hf1⟩ := bcell hb2
  rw [← hc1 t 16 ht] at c16
  clear hc1 hf1
  go_wp2_with fail
  refine wp_loop_rounds 1 ?_
  rw [rounds_succ]
  go_wp2
  go_end0
  exact ⟨rfl, h2, hb1.trans hb2⟩
set_option maxHeartbeats 1000000 in
theorem func_name (B b i : Nat) (l : List UInt8) (s : ByteArray) (w : World) (h : Bd B b l w) (hl : l.length + s.size ≤ 70368744177664) (hi : i < B)
    (c0 : w.cell? ⟨i, 0, none⟩ = some (.string s)) (c1 : w.cell? ⟨i, 1, none⟩ = some (.slice none 0 0)) :
    Calls Tryd.prog 85 #[.pointer (some ⟨i, 0, none⟩), .pointer (some ⟨b, 0, none⟩)] w (Wrote B b (l ++ s.data.toList) w) := by
  go_enter Tryd.func85, Tryd.ntmps85
  go_wp2_with (go_at_call 59; ((with_reducible refine (wStr B b l s _ h hl).mono ?_); rintro e w1 ⟨rfl, h1, hb1⟩; obtain ⟨hc1, hf1⟩ := bcell hb1; rw [← hc1 i 1 hi] at c1; clear hc1 hf1))
  go_end0
  exact ⟨rfl, h1, hb1⟩
set_option maxHeartbeats 1000000 in
theorem term_func (B b t i : Nat) (l : List UInt8) (s : ByteArray) (w : World) (h : Bd B b l w) (hl : l.length + s.size ≤ 70368744177664) (ht : t < B) (hi : i < B)
    (c0 : w.cell? ⟨t, 0, none⟩ = some (.int .i64 7)) (c2 : w.cell? ⟨t, 2, none⟩ = some (.pointer (some ⟨i, 0, none⟩))) (c16 : w.cell? ⟨t, 16, none⟩ = some (.slice none 0 0))
    (d0 : w.cell? ⟨i, 0, none⟩ = some (.string s)) (d1 : w.cell? ⟨i, 1, none⟩ = some (.slice none 0 0)) :
    Calls Tryd.prog 77 #[.pointer (some ⟨t, 0, none⟩), .pointer (some ⟨b, 0, none⟩)] w (Wrote B b (l ++ s.data.toList) w) := by
  go_enter Tryd.func77, Tryd.ntmps77
  go_wp2_with (go_at_call 85; ((with_reducible refine (func_name B b i l s _ h hl hi d0 d1).mono ?_); rintro e w1 ⟨rfl, h1, hb1⟩; obtain ⟨hc1, hf1⟩ := bcell hb1; rw [← hc1 t 16 ht] at c16; clear hc1 hf1))
  refine wp_loop_rounds 1 ?_
  rw [rounds_succ]
  go_wp2
  go_end0
  exact ⟨rfl, h1, hb1⟩
end Go.Proofs.YtooalmhelfaodaaDoor
