/- Blocks known whole; slices of one-cell elements that are read; small endings. -/
import Derived.Test.YtbkakiipaehleaaFmtProg
import Derived.WalkKit
import Derived.Below
import Derived.Laws.OwnMore
import Derived.Deep.Draws
import Derived.Laws.Rows
import Derived.Laws.MakeOwn
import Derived.Laws.Entries
import Derived.Lib.Hide
import Derived.Lib.OthersKept
import Derived.Deep.AppendLies
import Derived.WalkSpells
import Derived.Outline
import Derived.LoopTactic
namespace Go.Proofs.YtbkakiipaehleaaFmt
open Go.RowKit
def Blk (w : World) (g : Nat) (t : TypeId) (cs : Array Value) : Prop := w.heap[g]? = some (.cells cs t (0, 0))
section
variable {w w' : World} {g : Nat} {t : TypeId} {cs : Array Value}
theorem Blk.lt (h : Blk w g t cs) : g < w.heap.size := by
  rcases Nat.lt_or_ge g w.heap.size with hlt | hge
  · exact hlt
  · unfold Blk at h; rw [Array.getElem?_eq_none hge] at h; cases h
theorem Blk.cell (h : Blk w g t cs) (i : Nat) : w.cell? ⟨g, i, none⟩ = cs[i]? := cell_of_row w g i cs t (0, 0) h
theorem Blk.frozen (h : Blk w g t cs) (i : Nat) : w.frozen? ⟨g, i, none⟩ = false := by
  unfold Blk at h
  simp [World.frozen?, h]
theorem Blk.new (w : World) (t : TypeId) (cs : Array Value) : Blk (w.alloc (.cells cs t)) w.heap.size t cs := heap_alloc_new w _
theorem Blk.at_ {w : World} {k : Nat} (t : TypeId) (cs : Array Value) (h : w.heap.size = k) : Blk (w.alloc (.cells cs t)) k t cs := h ▸ Blk.new w t cs
theorem Blk.drew (h : Blk w g t cs) : Blk w.drew g t cs := h
theorem Blk.drewN (h : Blk w g t cs) (n : Nat) : Blk (w.drewN n) g t cs := h
theorem Blk.alloc (h : Blk w g t cs) (o : Obj) : Blk (w.alloc o) g t cs := (Below.heap_alloc w o g h.lt).trans h
theorem Blk.set_ (h : Blk w g t cs) (i : Nat) (u : Value) : Blk (w.setCell ⟨g, i, none⟩ u) g t (cs.setIfInBounds i u) := by
  unfold Blk at h ⊢
  simp [World.setCell, Array.getElem?_modify, h]
theorem Blk.far (h : Blk w g t cs) {p : Addr} (hp : g ≠ p.block) (u : Value) : Blk (w.setCell p u) g t cs := (Below.heap_setCell w p u g hp).trans h
theorem Blk.below {B : Nat} (h : Blk w g t cs) (hb : Below B w w') (hg : g < B) : Blk w' g t cs := (hb.block g hg).trans h
theorem Blk.grown {row : Option Nat} (h : Blk w g t cs) (hb : w.grownBy w' row) (hg : some g ≠ row) : Blk w' g t cs := (hb.block g h.lt hg).trans h
theorem Blk.ne_ {g' : Nat} {t' : TypeId} {cs' : Array Value} (h : Blk w g t cs) (h' : Blk w g' t' cs') (hne : t ≠ t') : g ≠ g' := by
  rintro rfl
  unfold Blk at h h'
  rw [h] at h'
  injection h' with h'
  injection h' with _ ht
  exact hne ht
theorem Blk.kept {e : TypeId} {b : Option Nat} (h : Blk w g t cs) (hk : Lib.OthersKept e b w w') (hb : some g ≠ b) (ht : t ≠ e) : Blk w' g t cs :=
  hk g _ h hb (fun c fz hc => by injection hc with _ hc; exact ht hc)
theorem own_blk_ne {base : Nat} {e : TypeId} {size n : Nat} {v : Value} {xs : List Value} (h : w.ownsRow base e size v n xs) (hg : Blk w g t cs) (hne : e ≠ t) : v.ownBlock ≠ some g := by
  rcases h.2 with ⟨rfl, _⟩ | ⟨g', cap, cur, rfl, _, hh, _⟩
  · simp [Value.ownBlock]
  · intro he
    have : g' = g := by simpa [Value.ownBlock] using he
    subst this
    exact Blk.ne_ (t := e) hh hg hne rfl
theorem own_kind {base : Nat} {e : TypeId} {size n : Nat} {v : Value} {xs : List Value} (h : w.ownsRow base e size v n xs) : ∀ g, v.ownBlock = some g → ∃ c fz, w.heap[g]? = some (.cells c e fz) := by
  intro g hg
  rcases h.2 with ⟨rfl, _⟩ | ⟨g', cap, cur, rfl, _, hh, _⟩
  · simp [Value.ownBlock] at hg
  · simp [Value.ownBlock] at hg
    subst hg
    exact ⟨cur, _, hh⟩
end
theorem ret_bool {a b : Bool} (h : a = b) : Ending.returned (.bool a) = .returned (.bool b) := by rw [h]
theorem ret_int {k : IntKind} {a b : Int} (h : a = b) : Ending.returned (.int k a) = .returned (.int k b) := by rw [h]
theorem bcell {B : Nat} {W w1 : World} (hb : Below B W w1) : (∀ b o, b < B → w1.cell? ⟨b, o, none⟩ = W.cell? ⟨b, o, none⟩) ∧ (∀ b o, b < B → w1.frozen? ⟨b, o, none⟩ = W.frozen? ⟨b, o, none⟩) :=
  ⟨fun b o h => hb.cell (p := ⟨b, o, none⟩) h, fun b o h => hb.frozen (p := ⟨b, o, none⟩) h⟩
theorem below_drewN {B : Nat} {a w : World} (h : Below B a w) (n : Nat) : Below B a (w.drewN n) := ⟨h.os, h.tape, h.output, h.size, h.block⟩
theorem grown_of_below {a w : World} (h : Below a.heap.size a w) : a.grownBy w none := ⟨h.os, h.tape, h.output, h.size, fun i hi _ => h.block i hi⟩
theorem owns_below {base : Nat} {e : TypeId} {size n : Nat} {v : Value} {xs : List Value} {w w' : World} (h : w.ownsRow base e size v n xs) (hb : Below w.heap.size w w') : w'.ownsRow base e size v n xs :=
  h.kept (grown_of_below hb) (by cases v.ownBlock <;> simp)
theorem owns_far {base : Nat} {e : TypeId} {size n : Nat} {v : Value} {xs : List Value} {w : World} (h : w.ownsRow base e size v n xs) {p : Addr} (hp : v.ownBlock ≠ some p.block) (u : Value) : (w.setCell p u).ownsRow base e size v n xs :=
  h.kept (row := some p.block) ⟨rfl, rfl, rfl, by simp [World.setCell], fun i hi hne => Below.heap_setCell w p u i (by rintro rfl; exact hne rfl)⟩ (.inr hp)
theorem set_at (arr : Array Value) (p : Nat) (v : Value) (h : p < arr.size) : (arr.setIfInBounds p v)[p]? = some v := by
  rw [Array.getElem?_setIfInBounds_self_of_lt h]
/-- a slice of one-cell elements below block B that reads as xs -/
def RdAt (w : World) (B : Nat) (A : Option Addr) (xs : List Value) : Prop := ∀ i v, xs[i]? = some v → ∃ g o, A = some ⟨g, o, none⟩ ∧ g < B ∧ w.cell? ⟨g, o + i, none⟩ = some v
theorem RdAt.below {w w' : World} {B : Nat} {A : Option Addr} {xs : List Value} (hb : Below B w w') (h : RdAt w B A xs) : RdAt w' B A xs := fun i x hx => by
  obtain ⟨g, o, h1, h2, h3⟩ := h i x hx
  exact ⟨g, o, h1, h2, (hb.cell (p := ⟨g, o + i, none⟩) h2).trans h3⟩
theorem RdAt.mono {w : World} {B B' : Nat} {A : Option Addr} {xs : List Value} (hB : B ≤ B') (h : RdAt w B A xs) : RdAt w B' A xs := fun i x hx => by
  obtain ⟨g, o, h1, h2, h3⟩ := h i x hx
  exact ⟨g, o, h1, Nat.lt_of_lt_of_le h2 hB, h3⟩
theorem run_make_rowN {P : Program} (t e : TypeId) (i : TypeInfo) (z : Value) (ht : P.underlying t = some (.slice e)) (hi : P.info? e = some i) (hz : i.zero = some z)
    (kl kc : IntKind) (n c : Nat) (hnc : n ≤ c) (hbytes : i.bytes * c ≤ 281474976710656) (h63 : c ≤ 9223372036854775807) (w : World) :
    (Instr.makeSlice t (.int kl (n : Int)) (.int kc (c : Int))).run P w = .ok (.slice (some ⟨w.heap.size, 0, none⟩) n c) (w.alloc (.cells (madeCells z.cells (c * i.size)) e)) := by
  have hb : (i.bytes : Int) * (c : Int) ≤ 281474976710656 := by
    have h : ((i.bytes * c : Nat) : Int) ≤ 281474976710656 := by omega
    rwa [Int.natCast_mul] at h
  have hr := run_make (P := P) w t e i z ht hi hz kl kc n c (by omega) (by omega) hb (by omega)
  simp only [Int.toNat_natCast] at hr
  exact hr
/-- a new row whose first j cells are those of xs -/
def Fill1 (arr : Array Value) (xs : List Value) (j : Nat) : Prop := ∀ i v, i < j → xs[i]? = some v → arr[i]? = some v
theorem Fill1.next {arr : Array Value} {xs : List Value} {j : Nat} {x : Value} (h : Fill1 arr xs j) (hx : xs[j]? = some x) (hs : j < arr.size) : Fill1 (arr.setIfInBounds j x) xs (j + 1) := by
  intro i y hi hy
  by_cases hij : i = j
  · subst hij
    rw [hx] at hy
    injection hy with hy
    subst hy
    exact set_at _ _ _ hs
  · rw [Array.getElem?_setIfInBounds_ne (by omega)]
    exact h i y (by omega) hy
theorem lt_of_some {α : Type} {xs : List α} {i : Nat} {x : α} (hx : xs[i]? = some x) : i < xs.length := by
  rcases Nat.lt_or_ge i xs.length with hlt | hge
  · exact hlt
  · rw [List.getElem?_eq_none hge] at hx; cases hx
theorem Fill1.at_ {w : World} {G : Nat} {arr : Array Value} {xs : List Value} {t : TypeId} (hB : Blk w G t arr) (h : Fill1 arr xs xs.length) (B : Nat) (hG : G < B) : RdAt w B (some ⟨G, 0, none⟩) xs := by
  intro i x hx
  refine ⟨G, 0, rfl, hG, ?_⟩
  rw [Nat.zero_add]
  exact (hB.cell _).trans (h i x (lt_of_some hx) hx)
/-- the copy -/
def Copied (xs : List Value) (w : World) (e : Ending) (w' : World) : Prop :=
  ∃ A c, e = .returned (.slice A xs.length c) ∧ RdAt w' w'.heap.size A xs ∧ Below w.heap.size w w'
end Go.Proofs.YtbkakiipaehleaaFmt
