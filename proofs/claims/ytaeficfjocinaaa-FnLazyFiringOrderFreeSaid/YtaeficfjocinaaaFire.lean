/- The function that fills a kept slot: its contract. -/
import Derived.Test.YtaeficfjocinaaaLaz
import Derived.Deep.RegionWith
namespace Go.Proofs.Ytaeficfjocinaaa
open Go.RowKit
set_option maxRecDepth 100000
set_option linter.unusedVariables false
set_option maxHeartbeats 1000000 in
theorem inner_any (C n0 m cap : Nat) (A : Option Addr) (op : Int) (w : World) (c0 : w.cell? ⟨n0, 0, none⟩ = some (.pointer (some ⟨C, 0, none⟩))) (c1 : w.cell? ⟨n0 + 1, 0, none⟩ = some (.int .i64 op)) (c5 : w.cell? ⟨C, 5, none⟩ = some (.slice A m cap)) (l0 : n0 + 1 < w.heap.size) (lC : C < w.heap.size) :
    Calls Try.prog 50 #[.pointer (some ⟨n0 + 1, 0, none⟩), .pointer (some ⟨n0, 0, none⟩)] w fun e w' => e = .returned (.pointer (some ⟨w.heap.size, 0, none⟩)) ∧ w' = (w.alloc (.cells #[.iface 3 (.int .i64 m), .int .i64 op] 90)).drew := by
  go_enter Try.func50, Try.ntmps50
  go_wp2_with fail
  go_region
  all_goals
    go_wp2_with fail
    go_ret
    exact ⟨rfl, rfl⟩
/-- behind the firing -/
def Fired (base C i : Nat) (cs : List (Option Cd)) (op : Int) (w : World) (e : Ending) (w' : World) : Prop :=
  e = .returned (.tuple #[]) ∧ CSx w' base C (cs.set i (ic w.heap.size op cs.length)) ∧ Below base w w' ∧ Lib.OthersKept 35 (some C) w w'
theorem fired_of {w : World} {base C g i cap : Nat} {cc cur : Array Value} {cs : List (Option Cd)} {op : Int} (h : CS w base C cc (.slice (some ⟨g, 0, none⟩) cs.length cap) cs) (hg : Blk w g 35 cur) (hb : base ≤ g) :
    Fired base C i cs op w (.returned (.tuple #[])) ((w.setCell ⟨g, i, none⟩ (.pointer (some ⟨w.heap.size, 0, none⟩))).alloc (.cells #[.iface 3 (.int .i64 cs.length), .int .i64 op] 90)).drew.drew := by
  have hgl := hg.lt
  have hle := h.le
  have hlt := h.c.lt
  rw [← World.setCell_alloc_past _ g i _ hgl]
  have h1 := h.alloc (.cells #[.iface 3 (.int .i64 cs.length), .int .i64 op] 90)
  have g1 := hg.alloc (.cells #[.iface 3 (.int .i64 cs.length), .int .i64 op] 90)
  have h2 := h1.setAt (i := i) (x := ⟨w.heap.size, .iface 3 (.int .i64 cs.length), op⟩) (Blk.new w _ _) (by show base ≤ w.heap.size; omega)
  exact ⟨rfl, ⟨_, _, h2.drew.drew⟩, ((((Below.refl _ _).alloc (by omega) _).setCell (p := ⟨g, i, none⟩) hb _).drew).drew, ((kept_set ((Lib.OthersKept.refl _ _ w).alloc _) g1 _).drew).drew⟩
set_option maxHeartbeats 2000000 in
theorem fire_any (base C n0 i : Nat) (cs : List (Option Cd)) (op : Int) (w : World) (h : CSx w base C cs) (hs : Setter w C n0 op i) (hi : i < cs.length) (hn : cs.length ≤ 10000000) :
    Calls Try.prog 52 #[.pointer (some ⟨n0 + 3, 0, none⟩), .pointer (some ⟨n0 + 2, 0, none⟩), .pointer (some ⟨n0 + 4, 0, none⟩)] w (Fired base C i cs op w) := by
  have hle := h.le
  have hlt := h.lt
  obtain ⟨cc, V, h⟩ := h
  obtain ⟨A, cap, hV, hA⟩ := own_open2 h.o
  subst hV
  obtain ⟨g, rfl⟩ := hA (by omega)
  have c5 : w.cell? ⟨C, 5, none⟩ = some (.slice (some ⟨g, 0, none⟩) cs.length cap) := (h.c.cell 5).trans h.h5
  obtain ⟨cur, hg, hcap, hcs⟩ := owns_row h.o
  have hgb : base ≤ g := (h.o.lt g rfl).1
  have hgl := hg.lt
  have c0 : w.cell? ⟨n0, 0, none⟩ = some (.pointer (some ⟨C, 0, none⟩)) := hs.b0.cell 0
  have c1 : w.cell? ⟨n0 + 1, 0, none⟩ = some (.int .i64 op) := hs.b1.cell 0
  have c2 : w.cell? ⟨n0 + 2, 0, none⟩ = some (.pointer (some ⟨C, 0, none⟩)) := hs.b2.cell 0
  have c3 : w.cell? ⟨n0 + 3, 0, none⟩ = some (.func (.func 50) #[] #[.pointer (some ⟨n0 + 1, 0, none⟩), .pointer (some ⟨n0, 0, none⟩)]) := hs.b3.cell 0
  have c4 : w.cell? ⟨n0 + 4, 0, none⟩ = some (.int .i64 i) := hs.b4.cell 0
  have l4 := hs.b4.lt
  have l3 := hs.b3.lt
  have l2 := hs.b2.lt
  have l1 := hs.b1.lt
  have l0 := hs.b0.lt
  have i0 : (0 : Int) ≤ i := by omega
  have i1 : (i : Int) < cs.length := by omega
  have gi : ∃ u, w.cell? ⟨g, i, none⟩ = some u := ⟨_, (hg.cell i).trans (Array.getElem?_eq_getElem (by rw [hcs]; omega))⟩
  obtain ⟨u, gi⟩ := gi
  have gf := hg.frozen i
  have hin := Lib.hid (inner_any C n0 cs.length cap (some ⟨g, 0, none⟩) op w.drew c0 c1 c5 (show n0 + 1 < w.heap.size by omega) hlt)
  have H := Lib.hid h
  have HG := Lib.hid hg
  clear h hs hcs hcap
  go_enter Try.func52, Try.ntmps52
  go_wp2_with fail
  go_region_with ((with_reducible refine (hin.out).mono ?_); rintro e7 w7 ⟨rfl, rfl⟩)
  all_goals
    go_wp2_with fail
    go_end0
    exact fired_of H.out HG.out hgb
end Go.Proofs.Ytaeficfjocinaaa
