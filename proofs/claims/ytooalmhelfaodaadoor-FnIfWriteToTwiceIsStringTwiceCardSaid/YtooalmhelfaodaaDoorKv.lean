/- What (*Query).writeTo writes for a query that is one small term; what (*ObjectKeyVal).writeTo and String write. -/
import Derived.Test.YtooalmhelfaodaaDoorLeaf
namespace Go.Proofs.YtooalmhelfaodaaDoor
open Go.RowKit
set_option maxRecDepth 100000
theorem Blk.at_ {w : World} {k : Nat} (t : TypeId) (cs : Array Value) (h : w.heap.size = k) : Blk (w.alloc (.cells cs t)) k t cs := h ▸ Blk.new w t cs
def qcells (t : Nat) : Array Value := #[.pointer none, .slice none 0 0, .slice none 0 0, .pointer (some ⟨t, 0, none⟩), .pointer none, .pointer none, .slice none 0 0, .int .i64 0]
/-- block q is the query that is just the term x -/
def QIs (w : World) (B q : Nat) (x : Leaf) : Prop := q < B ∧ ∃ t, Blk w q 119 (qcells t) ∧ TermIs w B t x
theorem QIs.below {w w' : World} {B q : Nat} {x : Leaf} (hb : Below B w w') (h : QIs w B q x) : QIs w' B q x := by
  obtain ⟨h1, t, h2, h3⟩ := h
  exact ⟨h1, t, h2.below hb h1, h3.below hb⟩
theorem QIs.mono {w : World} {B B' q : Nat} {x : Leaf} (hB : B ≤ B') (h : QIs w B q x) : QIs w B' q x := by
  obtain ⟨h1, t, h2, h3⟩ := h
  exact ⟨Nat.lt_of_lt_of_le h1 hB, t, h2, h3.mono hB⟩
/-- the small terms other than an index (its text hangs on what stands before it) -/
def Leaf.plain : Leaf → Bool
  | .idx _ => false
  | _ => true
theorem term_plain (B b t : Nat) (x : Leaf) (l : List UInt8) (w : World) (h : Bd B b l w) (hx : TermIs w B t x) (hp : x.plain = true) (hl : l.length + x.wt ≤ 70368744177664) :
    Calls Tryd.prog 77 #[.pointer (some ⟨t, 0, none⟩), .pointer (some ⟨b, 0, none⟩)] w (Wrote B b (outL x l) w) := by
  cases x with
  | ident => exact term_ident B b t l w h hl hx.1 (hx.2.cell 0) (hx.2.cell 16)
  | null => exact term_null B b t l w h hl hx.1 (hx.2.cell 0) (hx.2.cell 16)
  | tru => exact term_tru B b t l w h hl hx.1 (hx.2.cell 0) (hx.2.cell 16)
  | fls => exact term_fls B b t l w h hl hx.1 (hx.2.cell 0) (hx.2.cell 16)
  | num s => exact term_num B b t l s w h (by simp only [Leaf.wt] at hl; omega) hx.1 (hx.2.cell 0) (hx.2.cell 5) (hx.2.cell 16)
  | brk s => exact term_brk B b t l s w h hl hx.1 (hx.2.cell 0) (hx.2.cell 14) (hx.2.cell 16)
  | func s =>
    obtain ⟨h1, i, h2, h3, h4⟩ := hx
    exact term_func B b t i l s w h (by simp only [Leaf.wt] at hl; omega) h1 h2 (h3.cell 0) (h3.cell 2) (h3.cell 16) (h4.cell 0) (h4.cell 1)
  | idx s => cases hp
set_option maxHeartbeats 1000000 in
/-- a query that is one term: whatever the term's own contract gives -/
theorem query_term (B b q t : Nat) (l' : List UInt8) (w : World) (hB : Blk w q 119 (qcells t))
    (hT : Hid (Calls Tryd.prog 77 #[.pointer (some ⟨t, 0, none⟩), .pointer (some ⟨b, 0, none⟩)] w (Wrote B b l' w))) :
    Calls Tryd.prog 66 #[.pointer (some ⟨q, 0, none⟩), .pointer (some ⟨b, 0, none⟩)] w (Wrote B b l' w) := by
  have c0 : w.cell? ⟨q, 0, none⟩ = some (.pointer none) := hB.cell 0
  have c1 : w.cell? ⟨q, 1, none⟩ = some (.slice none 0 0) := hB.cell 1
  have c2 : w.cell? ⟨q, 2, none⟩ = some (.slice none 0 0) := hB.cell 2
  have c3 : w.cell? ⟨q, 3, none⟩ = some (.pointer (some ⟨t, 0, none⟩)) := hB.cell 3
  clear hB
  go_enter Tryd.func66, Tryd.ntmps66
  go_wp2_with fail
  refine wp_loop_rounds 1 ?_
  rw [rounds_succ]
  go_wp2_with fail
  refine wp_loop_rounds 1 ?_
  rw [rounds_succ]
  go_wp2_with fail
  with_reducible refine (hT.out).mono ?_
  rintro e w1 ⟨rfl, h1, hb1⟩
  go_wp2_with fail
  go_end0
  exact ⟨rfl, h1, hb1⟩
theorem query_plain (B b q : Nat) (x : Leaf) (l : List UInt8) (w : World) (h : Bd B b l w) (hx : QIs w B q x) (hp : x.plain = true) (hl : l.length + x.wt ≤ 70368744177664) :
    Calls Tryd.prog 66 #[.pointer (some ⟨q, 0, none⟩), .pointer (some ⟨b, 0, none⟩)] w (Wrote B b (outL x l) w) := by
  obtain ⟨_, t, h2, h3⟩ := hx
  exact query_term B b q t _ w h2 (Lib.hid (term_plain B b t x l w h h3 hp hl))
/-- a query or nil -/
def OptQ (w : World) (B : Nat) (v : Value) : Option Leaf → Prop
  | none => v = .pointer none
  | some x => x.plain = true ∧ ∃ q, v = .pointer (some ⟨q, 0, none⟩) ∧ QIs w B q x
theorem OptQ.below {w w' : World} {B : Nat} {v : Value} (hb : Below B w w') : ∀ {x : Option Leaf}, OptQ w B v x → OptQ w' B v x
  | none, h => h
  | some _, ⟨h1, q, h2, h3⟩ => ⟨h1, q, h2, h3.below hb⟩
theorem OptQ.mono {w : World} {B B' : Nat} {v : Value} (hB : B ≤ B') : ∀ {x : Option Leaf}, OptQ w B v x → OptQ w B' v x
  | none, h => h
  | some _, ⟨h1, q, h2, h3⟩ => ⟨h1, q, h2, h3.mono hB⟩
/-- block e is a pair: key text, key query, value -/
def KvIs (w : World) (B e : Nat) (key : ByteArray) (kq val : Option Leaf) : Prop :=
  e < B ∧ ∃ p v, Blk w e 89 #[.string key, .pointer none, p, v] ∧ OptQ w B p kq ∧ OptQ w B v val
theorem KvIs.below {w w' : World} {B e : Nat} {key : ByteArray} {kq val : Option Leaf} (hb : Below B w w') (h : KvIs w B e key kq val) : KvIs w' B e key kq val := by
  obtain ⟨h1, p, v, h2, h3, h4⟩ := h
  exact ⟨h1, p, v, h2.below hb h1, h3.below hb, h4.below hb⟩
theorem KvIs.mono {w : World} {B B' e : Nat} {key : ByteArray} {kq val : Option Leaf} (hB : B ≤ B') (h : KvIs w B e key kq val) : KvIs w B' e key kq val := by
  obtain ⟨h1, p, v, h2, h3, h4⟩ := h
  exact ⟨Nat.lt_of_lt_of_le h1 hB, p, v, h2, h3.mono hB, h4.mono hB⟩
def wtO : Option Leaf → Nat
  | none => 0
  | some x => x.wt
def outK (key : ByteArray) (kq : Option Leaf) (l : List UInt8) : List UInt8 := if key.size ≠ 0 then l ++ key.data.toList else match kq with
  | none => l
  | some x => outL x (l ++ [40]) ++ [41]
def outKV (key : ByteArray) (kq val : Option Leaf) (l : List UInt8) : List UInt8 := match val with
  | none => outK key kq l
  | some x => outL x (outK key kq l ++ [58, 32])
theorem outK_len (key : ByteArray) (kq : Option Leaf) (l : List UInt8) : (outK key kq l).length ≤ l.length + key.size + wtO kq + 2 := by
  unfold outK
  by_cases h : key.size ≠ 0
  · rw [if_pos h, List.length_append, size_list]; omega
  · rw [if_neg h]
    cases kq with
    | none => show l.length ≤ _; omega
    | some x => have h2 := outL_len x (l ++ [40]); show (outL x (l ++ [40]) ++ [41]).length ≤ l.length + key.size + x.wt + 2; rw [List.length_append] at h2 ⊢; simp only [List.length_cons, List.length_nil] at h2 ⊢; omega
theorem outKV_len (key : ByteArray) (kq val : Option Leaf) (l : List UInt8) : (outKV key kq val l).length ≤ l.length + key.size + wtO kq + wtO val + 4 := by
  have h := outK_len key kq l
  cases val with
  | none => show (outK key kq l).length ≤ l.length + key.size + wtO kq + 0 + 4; omega
  | some x => have h2 := outL_len x (outK key kq l ++ [58, 32]); show (outL x (outK key kq l ++ [58, 32])).length ≤ l.length + key.size + wtO kq + x.wt + 4; rw [List.length_append] at h2; simp only [List.length_cons, List.length_nil] at h2; omega
theorem eq_empty {s : ByteArray} (h : s.size = 0) : s = ⟨#[]⟩ := by
  cases s with | mk d => congr; exact Array.eq_empty_of_size_eq_zero h
end Go.Proofs.YtooalmhelfaodaaDoor
