/- The compiler's variables: createVariable. -/
import Derived.Test.YtbkakiipaehleaaCmp
import Derived.Deep.RegionLaw
import Derived.RegionTactic
namespace Go.Proofs.Ytbkakiipaehleaa
open Go.RowKit
set_option maxRecDepth 100000
set_option linter.unusedVariables false
theorem infoVar : (Try.prog.info? 153).map (fun i => (i.zero, i.size, i.bytes)) = some (some (.pointer none), 1, 8) := by kernel_rfl
/-- where the top scope lies: the compiler C, the list of scopes SL, the scope S -/
structure Top (w : World) (C SL S : Nat) : Prop where
  c : w.cell? ⟨C, 8, none⟩ = some (.slice (some ⟨SL, 0, none⟩) 1 1)
  l : w.cell? ⟨SL, 0, none⟩ = some (.pointer (some ⟨S, 0, none⟩))
/-- behind createVariable: the scope's list is one longer, its counter one more -/
def Created (base S k : Nat) (F : Value) (id d n : Int) (ps : List Value) (name : ByteArray) (w : World) (e : Ending) (w' : World) : Prop :=
  ∃ g cap p, e = .returned (.agg #[.int .i64 id, .int .i64 n]) ∧ Blk w' S 127 #[.slice (some ⟨g, 0, none⟩) (k + 1) cap, F, .int .i64 id, .int .i64 d, .int .i64 (n + 1)] ∧
    w'.ownsRow base 153 1 (.slice (some ⟨g, 0, none⟩) (k + 1) cap) (k + 1) (ps ++ [.pointer (some ⟨p, 0, none⟩)]) ∧ Blk w' p 155 #[.string name, .int .i64 id, .int .i64 n, .int .i64 d] ∧
    Below base w w' ∧ Lib.OthersKept 153 (some S) w w' ∧ w.heap.size ≤ p
theorem one_cell {w : World} {k : Nat} (x : Value) (t : TypeId) (h : w.heap.size = k) : ∀ j u, [x][j]? = some u → (w.alloc (.cells #[x] t)).cell? ((⟨k, 0, none⟩ : Addr).add j) = some u := by
  intro j u hj
  match j, hj with
  | 0, hj => simp at hj; subst hj; exact (Blk.at_ t #[x] h).cell 0
theorem one_one (p : Option Addr) : ∀ u ∈ [Value.pointer p], u.oneCell' = true := by
  intro u hu; simp at hu; subst hu; rfl
set_option maxHeartbeats 4000000 in
theorem create_any (base C SL S k : Nat) (V F : Value) (id d n : Int) (ps : List Value) (name : ByteArray) (w : World) (ht : Top w C SL S) (hS : Blk w S 127 #[V, F, .int .i64 id, .int .i64 d, .int .i64 n]) (hown : w.ownsRow base 153 1 V k ps) (hb : base ≤ S) (hk : k ≤ 10000000) (hn0 : 0 ≤ n) (hn1 : n ≤ 10000000) :
    Calls Try.prog 82 #[.pointer (some ⟨C, 0, none⟩), .string name] w (Created base S k F id d n ps name w) := by
  obtain ⟨i0, hi, hz0, hz1, hz2⟩ := info_parts infoVar
  obtain ⟨t1, t2⟩ := ht
  have c0 : w.cell? ⟨S, 0, none⟩ = some V := hS.cell 0
  have c2 : w.cell? ⟨S, 2, none⟩ = some (.int .i64 id) := hS.cell 2
  have c3 : w.cell? ⟨S, 3, none⟩ = some (.int .i64 d) := hS.cell 3
  have c4 : w.cell? ⟨S, 4, none⟩ = some (.int .i64 n) := hS.cell 4
  have f4 := hS.frozen 4
  have hSl := hS.lt
  have hCl : C < w.heap.size := World.block_lt_of_cell? w _ t1
  have hLl : SL < w.heap.size := World.block_lt_of_cell? w _ t2
  have hne := own_blk_ne hown hS (by decide)
  have HS := Lib.hid hS
  have HO := Lib.hid hown
  clear hS hown
  go_enter Try.func82, Try.ntmps82
  go_wp2_with fail
  go_quiet (fail)
  go_wp2_with fail
  go_region
  go_wp2_with fail
  have sX := HS.out.alloc (.cells #[.int .i64 0, .int .i64 0] 45)
  have sZ : Blk (((w.alloc (.cells #[.int .i64 0, .int .i64 0] 45)).drewN (nq + 1)).setCell ⟨S, 4, none⟩ (.int .i64 (n + 1))) S 127 #[V, F, .int .i64 id, .int .i64 d, .int .i64 (n + 1)] := (sX.drewN (nq + 1)).set_ 4 (.int .i64 (n + 1))
  have sW := sZ.alloc (.cells #[.int .i64 id, .int .i64 n] 45)
  have oX : ((w.alloc (.cells #[.int .i64 0, .int .i64 0] 45)).drewN (nq + 1)).ownsRow base 153 1 V k ps := HO.out.alloc _
  have oW := (owns_far oX (p := ⟨S, 4, none⟩) hne (.int .i64 (n + 1))).alloc (.cells #[.int .i64 id, .int .i64 n] 45)
  have rW : Blk ((((w.alloc (.cells #[.int .i64 0, .int .i64 0] 45)).drewN (nq + 1)).setCell ⟨S, 4, none⟩ (.int .i64 (n + 1))).alloc (.cells #[.int .i64 id, .int .i64 n] 45)) w.heap.size 45 #[.int .i64 0, .int .i64 0] :=
    ((((Blk.new w 45 #[.int .i64 0, .int .i64 0]).drewN (nq + 1)).far (p := ⟨S, 4, none⟩) (by show w.heap.size ≠ S; omega) _).alloc _)
  have vW : Blk ((((w.alloc (.cells #[.int .i64 0, .int .i64 0] 45)).drewN (nq + 1)).setCell ⟨S, 4, none⟩ (.int .i64 (n + 1))).alloc (.cells #[.int .i64 id, .int .i64 n] 45)) (w.heap.size + 1) 45 #[.int .i64 id, .int .i64 n] := Blk.at_ _ _ (by simp [World.setCell, World.drewN])
  have bW : Below base w ((((w.alloc (.cells #[.int .i64 0, .int .i64 0] 45)).drewN (nq + 1)).setCell ⟨S, 4, none⟩ (.int .i64 (n + 1))).alloc (.cells #[.int .i64 id, .int .i64 n] 45)) :=
    ((below_drewN ((Below.refl base w).alloc (by omega) _) (nq + 1)).setCell (p := ⟨S, 4, none⟩) hb _).alloc (by simp [World.setCell, World.drewN]; omega) _
  have kW : Lib.OthersKept 153 (some S) w ((((w.alloc (.cells #[.int .i64 0, .int .i64 0] 45)).drewN (nq + 1)).setCell ⟨S, 4, none⟩ (.int .i64 (n + 1))).alloc (.cells #[.int .i64 id, .int .i64 n] 45)) := by
    have h1 : Lib.OthersKept 153 (some S) w ((w.alloc (.cells #[.int .i64 0, .int .i64 0] 45)).drewN (nq + 1)) := (Lib.OthersKept.refl _ _ w).alloc _
    exact (h1.setCell ⟨S, 4, none⟩ rfl _).alloc _
  have zW : ((((w.alloc (.cells #[.int .i64 0, .int .i64 0] 45)).drewN (nq + 1)).setCell ⟨S, 4, none⟩ (.int .i64 (n + 1))).alloc (.cells #[.int .i64 id, .int .i64 n] 45)).heap.size = w.heap.size + 2 := by simp [World.setCell, World.drewN]
  clear sX sZ oX c0 c2 c3 c4 f4 t1 t2
  generalize ((((w.alloc (.cells #[.int .i64 0, .int .i64 0] 45)).drewN (nq + 1)).setCell ⟨S, 4, none⟩ (.int .i64 (n + 1))).alloc (.cells #[.int .i64 id, .int .i64 n] 45)) = W at *
  have e0 : W.cell? ⟨S, 0, none⟩ = some V := sW.cell 0
  have e3 : W.cell? ⟨S, 3, none⟩ = some (.int .i64 d) := sW.cell 3
  have v0 : W.cell? ⟨w.heap.size + 1, 0, none⟩ = some (.int .i64 id) := vW.cell 0
  have v1 : W.cell? ⟨w.heap.size + 1, 1, none⟩ = some (.int .i64 n) := vW.cell 1
  have lS : S < W.heap.size := sW.lt
  have lV : w.heap.size + 1 < W.heap.size := vW.lt
  have SW := Lib.hid sW
  have OW := Lib.hid oW
  have RW := Lib.hid rW
  have VW := Lib.hid vW
  have BW := Lib.hid bW
  have KW := Lib.hid kW
  have ZW := Lib.hid zW
  have hbW : base ≤ W.heap.size := by omega
  have hne2 := own_blk_ne oW sW (by decide)
  clear sW oW rW vW bW kW zW
  go_region_law ((refine step_append_lies _ rfl (.tmp 39) (.tmp 48) 124 rfl base 153 i0 (.pointer none) 1 8 Try.underlying124 hi hz0 hz1 hz2 rfl (by decide) V k ps (by simp [Act.eval]) (((show W.drew.ownsRow base 153 1 V k ps from OW.out).alloc _).alloc _) ⟨W.heap.size + 1, 0, none⟩ 1 1 [.pointer (some ⟨W.heap.size, 0, none⟩)] (by simp [Act.eval]) rfl (one_cell _ _ (by simp)) (one_one _) (by omega) (by unfold maxLen; omega) (by omega) (by simp; omega) _ rfl ?_; intro g cap w1 hown1 hgrow hat hlt; have sw1 := ((SW.out.drew.alloc (.cells #[.string name, .int .i64 id, .int .i64 n, .int .i64 d] 155)).alloc (.cells #[.pointer (some ⟨W.heap.size, 0, none⟩)] 153)).grown hgrow (fun e => hne2 e.symm); have s10 : w1.cell? ⟨S, 0, none⟩ = some V := sw1.cell 0; have sf0 := sw1.frozen 0; have HSW1 := Lib.hid sw1; have HO1 := Lib.hid hown1; have HG1 := Lib.hid hgrow; clear sw1 hown1 hgrow hat))
  all_goals
    have nV := own_blk_ne OW.out VW.out (by decide)
    have nR := own_blk_ne OW.out RW.out (by decide)
    have sv1 := ((VW.out.drew.alloc (.cells #[.string name, .int .i64 id, .int .i64 n, .int .i64 d] 155)).alloc (.cells #[.pointer (some ⟨W.heap.size, 0, none⟩)] 153)).grown HG1.out (fun e => nV e.symm)
    have sr1 := ((RW.out.drew.alloc (.cells #[.string name, .int .i64 id, .int .i64 n, .int .i64 d] 155)).alloc (.cells #[.pointer (some ⟨W.heap.size, 0, none⟩)] 153)).grown HG1.out (fun e => nR e.symm)
    have g0 : w1.cell? ⟨w.heap.size + 1, 0, none⟩ = some (.int .i64 id) := sv1.cell 0
    have g1 : w1.cell? ⟨w.heap.size + 1, 1, none⟩ = some (.int .i64 n) := sv1.cell 1
    have r0 : w1.cell? ⟨w.heap.size, 0, none⟩ = some (.int .i64 0) := sr1.cell 0
    have r1 : w1.cell? ⟨w.heap.size, 1, none⟩ = some (.int .i64 0) := sr1.cell 1
    have q0 := sr1.frozen 0
    have q1 := sr1.frozen 1
    have lR : w.heap.size ≠ S := by omega
    have lR2 : w.heap.size + 1 ≠ S := by omega
    have SR1 := Lib.hid sr1
    clear sv1 sr1 nV nR e0 e3 v0 v1
    go_wp2_with fail
    refine bodyPost_ret (v := .agg #[.int .i64 id, .int .i64 n]) (by simp [results, Try.results82, go_sem, r0, r1]) rfl ?_
    have bx := (Blk.new W.drew 155 #[.string name, .int .i64 id, .int .i64 n, .int .i64 d]).alloc (.cells #[.pointer (some ⟨W.heap.size, 0, none⟩)] 153)
    have oL : ((W.drew.alloc (.cells #[.string name, .int .i64 id, .int .i64 n, .int .i64 d] 155)).alloc (.cells #[.pointer (some ⟨W.heap.size, 0, none⟩)] 153)).ownsRow base 153 1 V k ps := ((show W.drew.ownsRow base 153 1 V k ps from OW.out).alloc _).alloc _
    have nB := own_blk_ne oL bx (by decide)
    have bx1 := bx.grown HG1.out (fun e => nB e.symm)
    have nS1 := own_blk_ne HO1.out HSW1.out (by decide)
    have nR1 := own_blk_ne HO1.out SR1.out (by decide)
    have zz := ZW.out
    have hsw := (HSW1.out.set_ 0 (.slice (some ⟨g, 0, none⟩) (k + 1) cap))
    have hB1 : Below base w w1 := ((BW.out.drew.alloc hbW _).alloc (by simp; omega) _).grown HG1.out (by simp; omega) (fun j hj => (OW.out.lt j hj).1)
    have hK1 : Lib.OthersKept 153 (some S) w w1 := ((KW.out.drew.alloc _).alloc _).grown HG1.out (own_kind oL)
    have hg0 := HG1.out.size
    simp at hg0
    refine ⟨g, cap, W.heap.size, rfl, ((hsw.far (p := ⟨w.heap.size, 0, none⟩) (by show S ≠ w.heap.size; omega) _).far (p := ⟨w.heap.size, 1, none⟩) (by show S ≠ w.heap.size; omega) _), ?_, ?_, ?_, ?_, by omega⟩
    · exact owns_far (owns_far (owns_far HO1.out (p := ⟨S, 0, none⟩) nS1 _) (p := ⟨w.heap.size, 0, none⟩) nR1 _) (p := ⟨w.heap.size, 1, none⟩) nR1 _
    · exact ((bx1.far (p := ⟨S, 0, none⟩) (by show W.heap.size ≠ S; omega) _).far (p := ⟨w.heap.size, 0, none⟩) (by show W.heap.size ≠ w.heap.size; omega) _).far (p := ⟨w.heap.size, 1, none⟩) (by show W.heap.size ≠ w.heap.size; omega) _
    · exact ((hB1.setCell (p := ⟨S, 0, none⟩) hb _).setCell (p := ⟨w.heap.size, 0, none⟩) (by show base ≤ w.heap.size; omega) _).setCell (p := ⟨w.heap.size, 1, none⟩) (by show base ≤ w.heap.size; omega) _
    · intro i o hi hne3 hcc
      have h1 := (hK1.setCell ⟨S, 0, none⟩ rfl (.slice (some ⟨g, 0, none⟩) (k + 1) cap)) i o hi hne3 hcc
      have hil : i < w.heap.size := (Array.getElem?_eq_some_iff.1 hi).1
      rw [Below.heap_setCell _ _ _ _ (by show i ≠ w.heap.size; omega), Below.heap_setCell _ _ _ _ (by show i ≠ w.heap.size; omega)]
      exact h1
end Go.Proofs.Ytbkakiipaehleaa
