/- Blocks known whole; a builder that holds a list of bytes; the writers' contracts over it. -/
import Derived.Test.YtbjjcampiknnpaaDoorBld
import Derived.Laws.OwnMore
import Derived.Deep.Draws
import Derived.Laws.Rows
import Derived.Lib.Hide
import Derived.Outline
namespace Go.Proofs.YtbjjcampiknnpaaDoor
open Go.RowKit
def Blk (w : World) (g : Nat) (t : TypeId) (cs : Array Value) : Prop := w.heap[g]? = some (.cells cs t (0, 0))
section
variable {w w' : World} {g : Nat} {t : TypeId} {cs : Array Value}
theorem Blk.lt (h : Blk w g t cs) : g < w.heap.size := by
  rcases Nat.lt_or_ge g w.heap.size with hlt | hge
  · exact hlt
  · unfold Blk at h; rw [Array.getElem?_eq_none hge] at h; cases h
theorem Blk.cell (h : Blk w g t cs) (i : Nat) : w.cell? ⟨g, i, none⟩ = cs[i]? := cell_of_row w g i cs t (0, 0) h
theorem Blk.frozen (h : Blk w g t cs) (i : Nat) : w.frozen? ⟨g, i, none⟩ = false := by
  unfold Blk at h
  simp [World.frozen?, h]
theorem Blk.new (w : World) (t : TypeId) (cs : Array Value) : Blk (w.alloc (.cells cs t)) w.heap.size t cs := heap_alloc_new w _
theorem Blk.drew (h : Blk w g t cs) : Blk w.drew g t cs := h
theorem Blk.drewN (h : Blk w g t cs) (n : Nat) : Blk (w.drewN n) g t cs := h
theorem Blk.alloc (h : Blk w g t cs) (o : Obj) : Blk (w.alloc o) g t cs := (Below.heap_alloc w o g h.lt).trans h
theorem Blk.set_ (h : Blk w g t cs) (i : Nat) (u : Value) : Blk (w.setCell ⟨g, i, none⟩ u) g t (cs.setIfInBounds i u) := by
  unfold Blk at h ⊢
  simp [World.setCell, Array.getElem?_modify, h]
theorem Blk.far (h : Blk w g t cs) {p : Addr} (hp : g ≠ p.block) (u : Value) : Blk (w.setCell p u) g t cs := (Below.heap_setCell w p u g hp).trans h
theorem Blk.below {B : Nat} (h : Blk w g t cs) (hb : Below B w w') (hg : g < B) : Blk w' g t cs := (hb.block g hg).trans h
end
/-- builder b (its rows from block B on) holds the bytes l -/
def Bd (B b : Nat) (l : List UInt8) (w : World) : Prop := Lib.IsBuilderF 48 5 B b (Lib.byteCells l) w ∧ B ≤ w.heap.size
theorem Bd.fresh (w : World) : Bd w.heap.size w.heap.size [] (w.alloc (.cells #[.pointer none, .slice none 0 0] 48)) :=
  ⟨Lib.IsBuilderF.of (Lib.fresh_isBuilder 48 5 w), by simp⟩
theorem wStr (B b : Nat) (l : List UInt8) (s : ByteArray) (w : World) (h : Bd B b l w) (hl : l.length + s.size ≤ 70368744177664) :
    Calls Tryd.prog 36 #[.pointer (some ⟨b, 0, none⟩), .string s] w fun e w' => e = .returned (.tuple #[.int .i64 s.size, .nilIface]) ∧ Bd B b (l ++ s.data.toList) w' ∧ Below B w w' := by
  refine (writeString_k B b _ s w h.1 (by rw [Lib.byteCells_length]; omega) h.2).mono ?_
  rintro e w' ⟨rfl, h1, h2, _⟩
  refine ⟨rfl, ⟨?_, Nat.le_trans h.2 h2.size⟩, h2⟩
  rw [Lib.byteCells_append]
  exact Or.inr h1
theorem wByte (B b : Nat) (l : List UInt8) (x : UInt8) (c : Int) (w : World) (hx : c = (x.toNat : Int)) (h : Bd B b l w) (hl : l.length + 1 ≤ 70368744177664) :
    Calls Tryd.prog 47 #[.pointer (some ⟨b, 0, none⟩), .int .u8 c] w fun e w' => e = .returned .nilIface ∧ Bd B b (l ++ [x]) w' ∧ Below B w w' := by
  refine (writeByte_k B b _ c w h.1 (by rw [Lib.byteCells_length]; omega) h.2).mono ?_
  rintro e w' ⟨rfl, h1, h2, _⟩
  refine ⟨rfl, ⟨?_, Nat.le_trans h.2 h2.size⟩, h2⟩
  rw [Lib.byteCells_append]
  subst hx
  exact Or.inr h1
theorem bStr (B b : Nat) (l : List UInt8) (w : World) (h : Bd B b l w) :
    Calls Tryd.prog 29 #[.pointer (some ⟨b, 0, none⟩)] w fun e w' => e = .returned (.string ⟨l.toArray⟩) ∧ Bd B b l w' ∧ Below B w w' := by
  refine (Tryd.Builder_String_any_k B b l w h.1 h.2).mono ?_
  rintro e w' ⟨rfl, h1, h2, _⟩
  exact ⟨rfl, ⟨h1, Nat.le_trans h.2 h2.size⟩, h2⟩
theorem bcell {B : Nat} {W w1 : World} (hb : Below B W w1) : (∀ b o, b < B → w1.cell? ⟨b, o, none⟩ = W.cell? ⟨b, o, none⟩) ∧ (∀ b o, b < B → w1.frozen? ⟨b, o, none⟩ = W.frozen? ⟨b, o, none⟩) :=
  ⟨fun b o h => hb.cell (p := ⟨b, o, none⟩) h, fun b o h => hb.frozen (p := ⟨b, o, none⟩) h⟩
end Go.Proofs.YtbjjcampiknnpaaDoor
