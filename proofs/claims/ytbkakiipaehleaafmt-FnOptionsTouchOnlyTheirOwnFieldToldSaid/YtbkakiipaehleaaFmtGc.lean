/- The option functions of n001_70: the map of custom functions, read and written. -/
import Derived.Test.YtbkakiipaehleaaFmtGb
namespace Go.Proofs.YtbkakiipaehleaaFmt
open Go.RowKit Go.MapKept Go.ChangeMaps
set_option maxRecDepth 100000
set_option linter.unusedVariables false
set_option linter.unusedSimpArgs false
/-- a compiler whose custom functions lie in block B -/
structure KAt (w : World) (C : Nat) (cc : Array Value) (B : Nat) (es : Array MapEntry) (clock : Nat) : Prop where
  c : Blk w C 76 cc
  h3 : cc[3]? = some (.map (some B))
  b : w.heap[B]? = some (.map es clock)
/-- a function value as the map may hold it -/
def FnV (x : Value) : Prop := x = .nilFunc ∨ ∃ caps, x = .func (.func 31) #[] caps
theorem st_nil (W : World) (a : Addr) : (store a .nilFunc).run Tryf.prog W = stored Tryf.prog W a .nilFunc .plain := run_store Tryf.prog W a _ _ rfl
theorem st_fn (W : World) (a : Addr) (f : FuncId) (caps : Array Value) : (store a (.func (.func f) #[] caps)).run Tryf.prog W = stored Tryf.prog W a (.func (.func f) #[] caps) .plain := run_store Tryf.prog W a _ _ rfl
theorem len_fact {W : World} {B : Nat} {es : Array MapEntry} {clock : Nat} (hb : W.heap[B]? = some (.map es clock)) (ty : TypeId) : (Builtin.len_ #[47] ty #[.map (some B)]).run Tryf.prog W = .ok (.int .i64 es.size) W := by
  simp [Builtin.len_, run_underlying Tryf.underlying47, Go.MapKept.run_getObj_map hb, goInt, Result.andThen]
theorem count_any (C B : Nat) (cc : Array Value) (es : Array MapEntry) (clock : Nat) (w : World) (h : KAt w C cc B es clock) :
    Calls Tryf.prog 12 #[.pointer (some ⟨C, 0, none⟩)] w fun e w' => e = .returned (.int .i64 es.size) ∧ w = w' := by
  have c3 : w.cell? ⟨C, 3, none⟩ = some (.map (some B)) := (h.c.cell 3).trans h.h3
  have hl := fun ty => len_fact h.b ty
  clear h
  go_enter Tryf.func12, Tryf.ntmps12
  go_wp2_with fail
  go_ret
  exact ⟨rfl, rfl⟩
def Got (a : Nat) (w : World) (e : Ending) (w' : World) : Prop := e = .returned (.tuple #[.int .i64 a, .bool false, .bool true]) ∧ Below w.heap.size w w'
set_option maxHeartbeats 2000000 in
theorem custom_hit (C B i a clock : Nat) (cc : Array Value) (es : Array MapEntry) (s : ByteArray) (x : Value) (w : World) (h : KAt w C cc B es clock) (hx : FnV x)
    (hf : Instr.findNow .string (.string s) es.toList 0 = some (some (i, .agg #[.int .i64 a, .bool false, x]))) :
    Calls Tryf.prog 11 #[.pointer (some ⟨C, 0, none⟩), .string s] w (Got a w) := by
  have c3 : w.cell? ⟨C, 3, none⟩ = some (.map (some B)) := (h.c.cell 3).trans h.h3
  have hl := look_some h.b s i _ hf
  clear h hf
  have s1 := st_nil
  have s2 := st_fn
  rcases hx with rfl | ⟨caps, rfl⟩
  all_goals
    go_enter Tryf.func11, Tryf.ntmps11
    go_wp2_with fail
    go_quiet (fail)
    go_wp2_with fail
    refine bodyPost_ret (v := .tuple #[.int .i64 a, .bool false, .bool true]) (by simp [results, Tryf.results11, go_sem]) rfl ?_
    refine ⟨rfl, ?_⟩
    exact below_drewN ((Below.refl _ _).alloc (Nat.le_refl _) _) _
/-- behind the option's call -/
def Applied (C : Nat) (cc : Array Value) (es : Array MapEntry) (clock : Nat) (w : World) (e : Ending) (w' : World) : Prop := e = .returned (.tuple #[]) ∧ ∃ B, KAt w' C (cc.setIfInBounds 3 (.map (some B))) B es clock ∧ C < B ∧ Below C w w'
theorem below_setBlock {C B : Nat} {w W : World} {o : Obj} (h : Below C w W) (hC : C ≤ B) : Below C w (setBlock W B o) :=
  ⟨h.os, h.tape, h.output, by have := h.size; simp [setBlock]; exact this, fun i hi => by
    have h1 := h.block i hi
    have : (setBlock W B o).heap[i]? = W.heap[i]? := by simp [setBlock, Array.getElem?_setIfInBounds]; omega
    rw [this]; exact h1⟩
theorem applied_of {C B : Nat} {cc cc' : Array Value} {es es0 : Array MapEntry} {clock k0 : Nat} {w W' : World} (W : World) (hc : Blk W C 76 cc') (he : cc' = cc.setIfInBounds 3 (.map (some B))) (h3 : 3 < cc.size) (hb : W.heap[B]? = some (.map es0 k0)) (hC : C < B) (hB : Below C w W) (hW : W' = setBlock W B (.map es clock)) :
    Applied C cc es clock w (.returned (.tuple #[])) W' := by
  subst he hW
  refine ⟨rfl, B, ⟨?_, set_at _ _ _ h3, heap_setBlock_same hb _⟩, hC, below_setBlock hB (by omega)⟩
  exact (heap_setBlock_other hb _ (by omega)).trans hc
set_option maxHeartbeats 8000000 in
theorem apply_first (C a p q r t : Nat) (cc : Array Value) (s : ByteArray) (w : World) (hc : Blk w C 76 cc) (h3 : cc[3]? = some (.map none)) (ho : Opt w s a p q r t) :
    Calls Tryf.prog 30 #[.pointer (some ⟨C, 0, none⟩), .pointer (some ⟨p, 0, none⟩), .pointer (some ⟨q, 0, none⟩), .pointer (some ⟨r, 0, none⟩), .pointer (some ⟨t, 0, none⟩)] w
      (Applied C cc #[⟨.string s, .agg #[.int .i64 a, .bool false, .nilFunc], 0⟩] 1 w) := by
  have c3 : w.cell? ⟨C, 3, none⟩ = some (.map none) := (hc.cell 3).trans h3
  have f3 := hc.frozen 3
  have lC := hc.lt
  have p0 : w.cell? ⟨p, 0, none⟩ = some (.string s) := ho.p.cell 0
  have q0 : w.cell? ⟨q, 0, none⟩ = some (.bool false) := ho.q.cell 0
  have r0 : w.cell? ⟨r, 0, none⟩ = some (.int .i64 a) := ho.r.cell 0
  have t0 : w.cell? ⟨t, 0, none⟩ = some .nilFunc := ho.t.cell 0
  have lp := ho.p.lt
  have lq := ho.q.lt
  have lr := ho.r.lt
  have lt := ho.t.lt
  have np := ho.p.ne_ hc (by decide)
  have nq := ho.q.ne_ hc (by decide)
  have nr := ho.r.ne_ hc (by decide)
  have nt := ho.t.ne_ hc (by decide)
  have HC := Lib.hid hc
  have HO := Lib.hid ho
  have s1 := st_nil
  have s2 := st_fn
  have e1 := fun W => run_eql_map_nil (P := Tryf.prog) W 47 9 80 none Tryf.underlying47
  have hmm := @run_makeMap Tryf.prog
  have h3l : 3 < cc.size := by
    rcases Nat.lt_or_ge 3 cc.size with h | h
    · exact h
    · rw [Array.getElem?_eq_none h] at h3; cases h3
  have hz : (w.setCell ⟨C, 3, none⟩ (.map (some w.heap.size))).heap.size = w.heap.size := by simp [World.setCell]
  have b1 : ((w.setCell ⟨C, 3, none⟩ (.map (some w.heap.size))).alloc (.map #[] 0)).heap[w.heap.size]? = some (.map #[] 0) := by
    have := (MapKept.heap_alloc (w.setCell ⟨C, 3, none⟩ (.map (some w.heap.size))) (.map #[] 0)).1
    rwa [hz] at this
  have b2 : (((w.setCell ⟨C, 3, none⟩ (.map (some w.heap.size))).alloc (.map #[] 0)).alloc (.cells #[.int .i64 0, .bool false, .nilFunc] 80)).heap[w.heap.size]? = some (.map #[] 0) := by
    rw [(MapKept.heap_alloc _ _).2 _ (by simp [World.setCell])]
    exact b1
  have l1 := look_none (W := ((w.setCell ⟨C, 3, none⟩ (.map (some w.heap.size))).alloc (.map #[] 0)).drew) b1 s (find_nil s)
  have l2 := look_none (W := (((w.setCell ⟨C, 3, none⟩ (.map (some w.heap.size))).alloc (.map #[] 0)).alloc (.cells #[.int .i64 0, .bool false, .nilFunc] 80)).drew) b2 s (find_nil s)
  have u1 := upd_none (W := (((w.setCell ⟨C, 3, none⟩ (.map (some w.heap.size))).alloc (.map #[] 0)).alloc (.cells #[.int .i64 0, .bool false, .nilFunc] 80)).drew.drew) b2 s (.agg #[.int .i64 a, .bool false, .nilFunc]) (find_nil s)
  have B2 := Lib.hid b2
  clear hc ho b1 b2
  go_enter Tryf.func30, Tryf.ntmps30
  go_wp2_with fail
  go_region
  all_goals
    go_wp2_with fail
    go_region
    all_goals
      go_wp2_with fail
      go_end0
      exact applied_of ((((w.setCell ⟨C, 3, none⟩ (.map (some w.heap.size))).alloc (.map #[] 0)).alloc (.cells #[.int .i64 0, .bool false, .nilFunc] 80)).drew.drew) (((HC.out.set_ 3 (.map (some w.heap.size))).alloc (.map #[] 0)).alloc (.cells #[.int .i64 0, .bool false, .nilFunc] 80)) rfl h3l B2.out lC (((((Below.refl C w).setCell (p := ⟨C, 3, none⟩) (Nat.le_refl _) _).alloc (by simp [World.setCell]; omega) _).alloc (by simp [World.setCell]; omega) _).drew.drew) rfl
set_option maxHeartbeats 8000000 in
theorem apply_new (C B a a1 p q r t : Nat) (cc : Array Value) (s z : ByteArray) (w : World) (hk : KAt w C cc B #[⟨.string z, .agg #[.int .i64 a1, .bool false, .nilFunc], 0⟩] 1) (hCB : C < B) (ho : Opt w s a p q r t) (hne : s ≠ z) :
    Calls Tryf.prog 30 #[.pointer (some ⟨C, 0, none⟩), .pointer (some ⟨p, 0, none⟩), .pointer (some ⟨q, 0, none⟩), .pointer (some ⟨r, 0, none⟩), .pointer (some ⟨t, 0, none⟩)] w
      (Applied C cc #[⟨.string z, .agg #[.int .i64 a1, .bool false, .nilFunc], 0⟩, ⟨.string s, .agg #[.int .i64 a, .bool false, .nilFunc], 1⟩] 2 w) := by
  have c3 : w.cell? ⟨C, 3, none⟩ = some (.map (some B)) := (hk.c.cell 3).trans hk.h3
  have lC := hk.c.lt
  have p0 : w.cell? ⟨p, 0, none⟩ = some (.string s) := ho.p.cell 0
  have q0 : w.cell? ⟨q, 0, none⟩ = some (.bool false) := ho.q.cell 0
  have r0 : w.cell? ⟨r, 0, none⟩ = some (.int .i64 a) := ho.r.cell 0
  have t0 : w.cell? ⟨t, 0, none⟩ = some .nilFunc := ho.t.cell 0
  have lp := ho.p.lt
  have lq := ho.q.lt
  have lr := ho.r.lt
  have lt := ho.t.lt
  have lB : B < w.heap.size := (Array.getElem?_eq_some_iff.1 hk.b).1
  have h3l : 3 < cc.size := by
    rcases Nat.lt_or_ge 3 cc.size with h | h
    · exact h
    · have := hk.h3; rw [Array.getElem?_eq_none h] at this; cases this
  have hcc : cc.setIfInBounds 3 (.map (some B)) = cc := by
    apply Array.ext_getElem?
    intro i
    by_cases hi : i = 3
    · subst hi; rw [set_at _ _ _ h3l]; exact hk.h3.symm
    · rw [Array.getElem?_setIfInBounds_ne (by omega)]
  have s1 := st_nil
  have s2 := st_fn
  have e1 := fun W => run_eql_map_nil (P := Tryf.prog) W 47 9 80 (some B) Tryf.underlying47
  have hn : B < w.heap.size + 1 := by omega
  have hf : Instr.findNow .string (.string s) (#[⟨.string z, .agg #[.int .i64 a1, .bool false, .nilFunc], 0⟩] : Array MapEntry).toList 0 = some none := by simp [Instr.findNow, same_no hne]
  have b2 : (w.alloc (.cells #[.int .i64 0, .bool false, .nilFunc] 80)).heap[B]? = some (.map #[⟨.string z, .agg #[.int .i64 a1, .bool false, .nilFunc], 0⟩] 1) := by
    rw [(MapKept.heap_alloc _ _).2 _ lB]
    exact hk.b
  have l1 := look_none (W := w.drew) hk.b s hf
  have l2 := look_none (W := (w.alloc (.cells #[.int .i64 0, .bool false, .nilFunc] 80)).drew) b2 s hf
  have u1 := upd_none (W := (w.alloc (.cells #[.int .i64 0, .bool false, .nilFunc] 80)).drew.drew) b2 s (.agg #[.int .i64 a, .bool false, .nilFunc]) hf
  have B2 := Lib.hid b2
  have HC := Lib.hid hk.c
  have HCC := Lib.hid hcc
  clear hk ho b2 hf hcc
  go_enter Tryf.func30, Tryf.ntmps30
  go_wp2_with fail
  go_region
  all_goals
    go_wp2_with fail
    go_region
    all_goals
      go_wp2_with fail
      go_end0
      exact applied_of ((w.alloc (.cells #[.int .i64 0, .bool false, .nilFunc] 80)).drew.drew) (HC.out.alloc (.cells #[.int .i64 0, .bool false, .nilFunc] 80)) HCC.out.symm h3l B2.out hCB (((Below.refl C w).alloc (Nat.le_of_lt lC) _).drew.drew) rfl
set_option maxHeartbeats 8000000 in
theorem apply_again (C B a a1 p q r t : Nat) (cc : Array Value) (s : ByteArray) (w : World) (hk : KAt w C cc B #[⟨.string s, .agg #[.int .i64 a1, .bool false, .nilFunc], 0⟩] 1) (hCB : C < B) (ho : Opt w s a p q r t) (ha : a < 2147483648) (ha1 : a1 < 2147483648) :
    Calls Tryf.prog 30 #[.pointer (some ⟨C, 0, none⟩), .pointer (some ⟨p, 0, none⟩), .pointer (some ⟨q, 0, none⟩), .pointer (some ⟨r, 0, none⟩), .pointer (some ⟨t, 0, none⟩)] w
      (fun e w' => ∃ x, FnV x ∧ Applied C cc #[⟨.string s, .agg #[.int .i64 ((a ||| a1 : Nat) : Int), .bool false, x], 0⟩] 1 w e w') := by
  have c3 : w.cell? ⟨C, 3, none⟩ = some (.map (some B)) := (hk.c.cell 3).trans hk.h3
  have lC := hk.c.lt
  have p0 : w.cell? ⟨p, 0, none⟩ = some (.string s) := ho.p.cell 0
  have q0 : w.cell? ⟨q, 0, none⟩ = some (.bool false) := ho.q.cell 0
  have r0 : w.cell? ⟨r, 0, none⟩ = some (.int .i64 a) := ho.r.cell 0
  have t0 : w.cell? ⟨t, 0, none⟩ = some .nilFunc := ho.t.cell 0
  have lp := ho.p.lt
  have lq := ho.q.lt
  have lr := ho.r.lt
  have lt := ho.t.lt
  have lB : B < w.heap.size := (Array.getElem?_eq_some_iff.1 hk.b).1
  have h3l : 3 < cc.size := by
    rcases Nat.lt_or_ge 3 cc.size with h | h
    · exact h
    · have := hk.h3; rw [Array.getElem?_eq_none h] at this; cases this
  have hcc : cc.setIfInBounds 3 (.map (some B)) = cc := by
    apply Array.ext_getElem?
    intro i
    by_cases hi : i = 3
    · subst hi; rw [set_at _ _ _ h3l]; exact hk.h3.symm
    · rw [Array.getElem?_setIfInBounds_ne (by omega)]
  have s1 := st_nil
  have s2 := st_fn
  have e1 := fun W => run_eql_map_nil (P := Tryf.prog) W 47 9 80 (some B) Tryf.underlying47
  have hn : B < w.heap.size + 1 := by omega
  have ob := bits_or_i64_nat a a1 ha ha1
  have hf : Instr.findNow .string (.string s) (#[⟨.string s, .agg #[.int .i64 a1, .bool false, .nilFunc], 0⟩] : Array MapEntry).toList 0 = some (some (0, .agg #[.int .i64 a1, .bool false, .nilFunc])) := by simp [Instr.findNow, same_yes]
  have b2 : (w.alloc (.cells #[.int .i64 a1, .bool false, .nilFunc] 80)).heap[B]? = some (.map #[⟨.string s, .agg #[.int .i64 a1, .bool false, .nilFunc], 0⟩] 1) := by
    rw [(MapKept.heap_alloc _ _).2 _ lB]
    exact hk.b
  have b3 : (w.alloc (.cells #[.int .i64 0, .bool false, .nilFunc] 80)).heap[B]? = some (.map #[⟨.string s, .agg #[.int .i64 a1, .bool false, .nilFunc], 0⟩] 1) := by
    rw [(MapKept.heap_alloc _ _).2 _ lB]
    exact hk.b
  have l1 := look_some (W := w.drew) hk.b s 0 _ hf
  have l2 := look_some (W := (w.alloc (.cells #[.int .i64 0, .bool false, .nilFunc] 80)).drew) b3 s 0 _ hf
  have u1 := upd_some (W := (w.alloc (.cells #[.int .i64 a1, .bool false, .nilFunc] 80)).drew.drew) b2 s (.agg #[.int .i64 ((a ||| a1 : Nat) : Int), .bool false, .func (.func 31) #[] #[.pointer (some ⟨r, 0, none⟩), .pointer (some ⟨t, 0, none⟩), .pointer (some ⟨w.heap.size, 0, none⟩)]]) _ 0 _ hf rfl rfl
  have B2 := Lib.hid b2
  have HC := Lib.hid hk.c
  have HCC := Lib.hid hcc
  clear hk ho b2 b3 hf hcc
  go_enter Tryf.func30, Tryf.ntmps30
  go_wp2_with fail
  go_region
  all_goals
    go_wp2_with fail
    go_region
    all_goals
      go_wp2_with fail
      go_end0
      exact ⟨.func (.func 31) #[] #[.pointer (some ⟨r, 0, none⟩), .pointer (some ⟨t, 0, none⟩), .pointer (some ⟨w.heap.size, 0, none⟩)], Or.inr ⟨_, rfl⟩,
        applied_of ((w.alloc (.cells #[.int .i64 a1, .bool false, .nilFunc] 80)).drew.drew) (HC.out.alloc (.cells #[.int .i64 a1, .bool false, .nilFunc] 80)) HCC.out.symm h3l B2.out hCB (((Below.refl C w).alloc (Nat.le_of_lt lC) _).drew.drew) rfl⟩
end Go.Proofs.YtbkakiipaehleaaFmt
