/- The scope stack: pop. -/
import Derived.Test.YtbkakiipaehleaaStk3
namespace Go.Proofs.Ytbkakiipaehleaa
open Go.RowKit
set_option maxRecDepth 100000
set_option linter.unusedVariables false
/-- behind a pop: the block's content is the answer, its link the index -/
def SPopped (base SB : Nat) (D : Value) (ds : List (Sc × Int)) (x : Sc) (j L : Int) (w : World) (e : Ending) (w' : World) : Prop :=
  e = .returned (.agg #[.int .i64 x.a, .int .i64 x.b, .int .i64 x.c, .int .i64 x.d, .int .i64 x.e]) ∧ SS w' base SB D ds j L ∧ Below base w w' ∧ Lib.OthersKept 161 (some SB) w w'
set_option maxHeartbeats 4000000 in
theorem pop_any (base SB g cap k : Nat) (ds : List (Sc × Int)) (L : Int) (x : Sc) (j : Int) (w : World) (hs : SS w base SB (.slice (some ⟨g, 0, none⟩) ds.length cap) ds k L) (hb : base ≤ SB) (hk : ds[k]? = some (x, j)) (hn : ds.length ≤ 10000000) :
    Calls Try.prog 90 #[.pointer (some ⟨SB, 0, none⟩)] w (SPopped base SB (.slice (some ⟨g, 0, none⟩) ds.length cap) ds x j L w) := by
  have hSl := hs.s.lt
  have hkl : k < ds.length := lt_of_some hk
  have c0 : w.cell? ⟨SB, 0, none⟩ = some (.slice (some ⟨g, 0, none⟩) ds.length cap) := hs.s.cell 0
  have c1 : w.cell? ⟨SB, 1, none⟩ = some (.int .i64 k) := hs.s.cell 1
  have f1 := hs.s.frozen 1
  have hne := own_blk_ne hs.o hs.s (by decide)
  have hgN : g < w.heap.size := (hs.o.lt g rfl).2
  have hgS : g ≠ SB := fun e => hne (by rw [e]; rfl)
  have row : ∀ o, o < 6 → w.cell? ⟨g, k * 6 + o, none⟩ = (sb6 (x, j))[o]? := by
    intro o ho
    have h1 := flat_at sb6 6 sb6_len ds k (x, j) hk o ho
    have h2 : (sb6 (x, j))[o]? = some (sb6 (x, j))[o] := List.getElem?_eq_getElem (by rw [sb6_len]; exact ho)
    rw [h2] at h1 ⊢
    have h3 := hs.o.cells (g := g) rfl _ _ h1
    rw [Go.WideShapes.add_plain] at h3
    rw [Nat.zero_add] at h3
    exact h3
  have r0 : w.cell? ⟨g, k * 6, none⟩ = some (.int .i64 x.a) := row 0 (by omega)
  have r1 : w.cell? ⟨g, k * 6 + 1, none⟩ = some (.int .i64 x.b) := row 1 (by omega)
  have r2 : w.cell? ⟨g, k * 6 + 2, none⟩ = some (.int .i64 x.c) := row 2 (by omega)
  have r3 : w.cell? ⟨g, k * 6 + 3, none⟩ = some (.int .i64 x.d) := row 3 (by omega)
  have r4 : w.cell? ⟨g, k * 6 + 4, none⟩ = some (.int .i64 x.e) := row 4 (by omega)
  have r5 : w.cell? ⟨g, k * 6 + 5, none⟩ = some (.int .i64 j) := row 5 (by omega)
  have HS := Lib.hid hs
  clear hs row hk
  go_enter Try.func90, Try.ntmps90
  go_wp2_with fail
  go_region
  go_wp2_with fail
  refine bodyPost_ret (v := .agg #[.int .i64 x.a, .int .i64 x.b, .int .i64 x.c, .int .i64 x.d, .int .i64 x.e]) (by simp [results, Try.results90, go_sem]) rfl ?_
  refine ⟨rfl, ⟨((HS.out.s.set_ 1 (.int .i64 j)).alloc _).alloc _, ((owns_far HS.out.o (p := ⟨SB, 1, none⟩) hne (.int .i64 j)).alloc _).alloc _⟩, ?_, ?_⟩
  · exact ((((Below.refl base w).setCell (p := ⟨SB, 1, none⟩) hb (.int .i64 j)).alloc (by simp [World.setCell]; omega) _).alloc (by simp [World.setCell]; omega) _).drew
  · exact ((((Lib.OthersKept.refl _ _ w).setCell ⟨SB, 1, none⟩ rfl (.int .i64 j)).alloc _).alloc _).drew
end Go.Proofs.Ytbkakiipaehleaa
