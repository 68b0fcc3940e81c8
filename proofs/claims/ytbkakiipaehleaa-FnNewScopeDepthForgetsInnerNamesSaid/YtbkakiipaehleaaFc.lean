/- FnNewScopeDepthForgetsInnerNames: newScopeDepth and what it returns. -/
import Derived.Test.YtbkakiipaehleaaFb
namespace Go.Proofs.Ytbkakiipaehleaa
open Go.RowKit
set_option maxRecDepth 100000
set_option linter.unusedVariables false
theorem own_take {w : World} {base : Nat} {e : TypeId} {size g n cap : Nat} {xs : List Value} (h : w.ownsRow base e size (.slice (some ⟨g, 0, none⟩) n cap) n xs) (m : Nat) (hm : m ≤ n) : w.ownsRow base e size (.slice (some ⟨g, 0, none⟩) m cap) m (xs.take (m * size)) := by
  rcases h with ⟨hl, ⟨h0, _⟩ | ⟨g', cap', cur, h0, hb, hg, h1, h2, h3, h4⟩⟩
  · simp at h0
  · obtain ⟨rfl, rfl⟩ : g = g' ∧ cap = cap' := by simpa using h0
    have hms : m * size ≤ n * size := Nat.mul_le_mul_right _ hm
    refine ⟨by rw [List.length_take, hl]; omega, .inr ⟨g, cap, cur, rfl, hb, hg, by omega, h2, h3, ?_⟩⟩
    rw [← h4, List.take_take]
    congr 1
    omega
/-- the depth cell is written -/
theorem St.depth {w : World} {C : Nat} {cc : Array Value} {V : Value} {d n : Int} {k : Nat} {ps : List Value} (h : St w C cc V d n k ps) (d' : Int) : St (w.setCell ⟨C + 2, 3, none⟩ (.int .i64 d')) C cc V d' n k ps :=
  ⟨h.c.far (p := ⟨C + 2, 3, none⟩) (by show C ≠ C + 2; omega) _, h.l.far (p := ⟨C + 2, 3, none⟩) (by show C + 3 ≠ C + 2; omega) _, h.s.set_ 3 _, owns_far h.o (p := ⟨C + 2, 3, none⟩) (own_blk_ne h.o h.s (by decide)) _⟩
theorem VarsIs.farS {w : World} {ps : List Value} {vs : List Vr} (h : VarsIs w ps vs) {S i : Nat} {cs : Array Value} (hS : Blk w S 127 cs) (u : Value) : VarsIs (w.setCell ⟨S, i, none⟩ u) ps vs :=
  ⟨h.1, fun j v hv => by
    obtain ⟨p, h1, h2⟩ := h.2 j v hv
    exact ⟨p, h1, h2.far (p := ⟨S, i, none⟩) (h2.ne_ hS (by decide)) _⟩⟩
theorem VarsIs.take {w : World} {ps : List Value} {vs : List Vr} (h : VarsIs w ps vs) (m : Nat) : VarsIs w (ps.take m) (vs.take m) :=
  ⟨by rw [List.length_take, List.length_take, h.1], fun j v hv => by
    have hj := lt_of_some hv
    rw [List.length_take] at hj
    rw [List.getElem?_take_of_lt (by omega)] at hv
    obtain ⟨p, h1, h2⟩ := h.2 j v hv
    exact ⟨p, by rw [List.getElem?_take_of_lt (by omega)]; exact h1, h2⟩⟩
theorem PG.depth {w : World} {C : Nat} {cc : Array Value} {d n : Int} {vs : List Vr} (h : PG w C cc d n vs) (d' : Int) : PG (w.setCell ⟨C + 2, 3, none⟩ (.int .i64 d')) C cc d' n vs := by
  obtain ⟨V, ps, h1, h2⟩ := h
  exact ⟨V, ps, h1.depth d', h2.farS h1.s _⟩
/-- the variables that the inner function holds -/
structure Held (w : World) (C m p q r : Nat) : Prop where
  p : Blk w p 54 #[.pointer (some ⟨C + 2, 0, none⟩)]
  q : Blk w q 3 #[.int .i64 m]
  r : Blk w r 3 #[.int .i64 0]
def Deeper (C : Nat) (cc : Array Value) (d n : Int) (vs : List Vr) (w : World) (e : Ending) (w' : World) : Prop :=
  ∃ p q r, e = .returned (.func (.func 91) #[] #[.pointer (some ⟨p, 0, none⟩), .pointer (some ⟨q, 0, none⟩), .pointer (some ⟨r, 0, none⟩)]) ∧ Held w' C vs.length p q r ∧ PG w' C cc (d + 1) n vs ∧ Below C w w'
theorem PG.drew {w : World} {C : Nat} {cc : Array Value} {d n : Int} {vs : List Vr} (h : PG w C cc d n vs) : PG w.drew C cc d n vs := h.below ((Below.refl _ _).drew)
theorem deeper_of {w : World} {C : Nat} {cc : Array Value} {n : Int} {vs : List Vr} {e : Ending} {p q r : Nat} {W : World} (hp : PG w C cc 0 n vs) (he : e = .returned (.func (.func 91) #[] #[.pointer (some ⟨p, 0, none⟩), .pointer (some ⟨q, 0, none⟩), .pointer (some ⟨r, 0, none⟩)])) (x y : Value)
    (hc : (W = ((((w.setCell ⟨C + 2, 3, none⟩ (.int .i64 1)).alloc (.cells #[.pointer (some ⟨C + 2, 0, none⟩)] 54)).alloc (.cells #[.int .i64 vs.length] 3)).alloc (.cells #[.int .i64 0] 3)).drew.drew ∧ p = w.heap.size ∧ q = w.heap.size + 1 ∧ r = w.heap.size + 1 + 1) ∨
      (W = ((((w.setCell ⟨C + 2, 3, none⟩ (.int .i64 1)).alloc (.cells #[.pointer (some ⟨C + 2, 0, none⟩)] 54)).alloc (.cells #[.int .i64 0] 3)).alloc (.cells #[.int .i64 vs.length] 3)).drew.drew ∧ p = w.heap.size ∧ q = w.heap.size + 1 + 1 ∧ r = w.heap.size + 1)) : Deeper C cc 0 n vs w e W := by
  have hl := hp.lt.2
  have hd := hp.depth 1
  have hz : (w.setCell ⟨C + 2, 3, none⟩ (.int .i64 1)).heap.size = w.heap.size := by simp [World.setCell]
  have hb : Below C w (w.setCell ⟨C + 2, 3, none⟩ (.int .i64 1)) := (Below.refl _ _).setCell (p := ⟨C + 2, 3, none⟩) (by show C ≤ C + 2; omega) _
  subst he
  have hl2 : C + 2 < (w.setCell ⟨C + 2, 3, none⟩ (.int .i64 1)).heap.size := by rw [hz]; exact hl
  generalize (w.setCell ⟨C + 2, 3, none⟩ (.int .i64 1)) = wd at *
  rcases hc with ⟨rfl, rfl, rfl, rfl⟩ | ⟨rfl, rfl, rfl, rfl⟩
  · exact ⟨_, _, _, rfl, ⟨((Blk.at_ _ _ hz).alloc _).alloc _, (Blk.at_ _ _ (by simp [hz])).alloc _, Blk.at_ _ _ (by simp [hz])⟩, (((hd.alloc _).alloc _).alloc _).drew.drew, (((((hb.alloc (by omega) _).alloc (by simp; omega) _).alloc (by simp; omega) _).drew).drew)⟩
  · exact ⟨_, _, _, rfl, ⟨((Blk.at_ _ _ hz).alloc _).alloc _, Blk.at_ _ _ (by simp [hz]), (Blk.at_ _ _ (by simp [hz])).alloc _⟩, (((hd.alloc _).alloc _).alloc _).drew.drew, (((((hb.alloc (by omega) _).alloc (by simp; omega) _).alloc (by simp; omega) _).drew).drew)⟩
set_option maxHeartbeats 8000000 in
theorem deeper_any (C : Nat) (cc : Array Value) (d n : Int) (vs : List Vr) (w : World) (h8 : cc[8]? = some (.slice (some ⟨C + 3, 0, none⟩) 1 1)) (hp : PG w C cc d n vs) (hd : d = 0) :
    Calls Try.prog 86 #[.pointer (some ⟨C, 0, none⟩)] w (Deeper C cc d n vs w) := by
  subst hd
  have hSl := hp.lt.2
  have HP := Lib.hid hp
  obtain ⟨V, ps, hst, hv⟩ := hp
  obtain ⟨A, cap, rfl, hA⟩ := own_open hst.o
  obtain ⟨t1, t2⟩ := hst.top h8
  have c0 : w.cell? ⟨C + 2, 0, none⟩ = some (.slice A vs.length cap) := hst.s.cell 0
  have c1 : w.cell? ⟨C + 2, 1, none⟩ = some (.slice none 0 0) := hst.s.cell 1
  have c3 : w.cell? ⟨C + 2, 3, none⟩ = some (.int .i64 0) := hst.s.cell 3
  have f3 := hst.s.frozen 3
  have hCl : C < w.heap.size := World.block_lt_of_cell? w _ t1
  have hLl : C + 3 < w.heap.size := World.block_lt_of_cell? w _ t2
  clear hst hv hA
  go_enter Try.func86, Try.ntmps86
  go_wp2_with fail
  go_region
  all_goals
    go_wp2_with fail
    go_region
    all_goals
      go_wp2_with fail
      go_ret
      first
        | exact deeper_of HP.out rfl (.int .i64 vs.length) (.int .i64 0) (Or.inl ⟨rfl, rfl, rfl, rfl⟩)
        | exact deeper_of HP.out rfl (.int .i64 0) (.int .i64 vs.length) (Or.inr ⟨rfl, rfl, rfl, rfl⟩)
theorem zz_deeper (C : Nat) (cc : Array Value) (n : Int) (vs : List Vr) (w : World) (h8 : cc[8]? = some (.slice (some ⟨C + 3, 0, none⟩) 1 1)) (hp : PG w C cc 0 n vs) :
    Calls Try.prog 52 #[.pointer (some ⟨C, 0, none⟩)] w (Deeper C cc 0 n vs w) := by
  have hc := Lib.hid (deeper_any C cc 0 n vs w h8 hp rfl)
  go_enter Try.func52, Try.ntmps52
  go_wp2_with fail
  with_reducible refine (hc.out).mono ?_
  rintro e w1 ⟨p, q, r, rfl, h1, h2, h3⟩
  go_wp2_with fail
  go_ret
  exact ⟨p, q, r, rfl, h1, h2, h3⟩
def Shallower (C : Nat) (cc : Array Value) (n : Int) (vs : List Vr) (w : World) (e : Ending) (w' : World) : Prop := e = .returned (.tuple #[]) ∧ PG w' C cc 0 n vs ∧ Below C w w'
theorem shallow_of {w : World} {C g cap m : Nat} {cc : Array Value} {n : Int} {vs : List Vr} {ps : List Value} (hst : St w C cc (.slice (some ⟨g, 0, none⟩) vs.length cap) 1 n vs.length ps) (hv : VarsIs w ps vs) (hm : m ≤ vs.length) :
    PG (((w.setCell ⟨C + 2, 3, none⟩ (.int .i64 0)).setCell ⟨C + 2, 0, none⟩ (.slice (some ⟨g, 0, none⟩) m cap)).setCell ⟨C + 2, 1, none⟩ (.slice none 0 0)) C cc 0 n (vs.take m) := by
  have e : (vs.take m).length = m := by rw [List.length_take]; omega
  have s1 := hst.s.set_ 3 (.int .i64 0)
  have s2 := s1.set_ 0 (.slice (some ⟨g, 0, none⟩) m cap)
  have s3 := s2.set_ 1 (.slice none 0 0)
  have ho := own_take hst.o m hm
  rw [Nat.mul_one] at ho
  have n1 := own_blk_ne ho hst.s (by decide)
  refine ⟨.slice (some ⟨g, 0, none⟩) m cap, ps.take m, ?_, (((hv.take m).farS hst.s _).farS s1 _).farS s2 _⟩
  rw [e]
  exact ⟨((hst.c.far (p := ⟨C + 2, 3, none⟩) (by show C ≠ C + 2; omega) _).far (p := ⟨C + 2, 0, none⟩) (by show C ≠ C + 2; omega) _).far (p := ⟨C + 2, 1, none⟩) (by show C ≠ C + 2; omega) _,
    ((hst.l.far (p := ⟨C + 2, 3, none⟩) (by show C + 3 ≠ C + 2; omega) _).far (p := ⟨C + 2, 0, none⟩) (by show C + 3 ≠ C + 2; omega) _).far (p := ⟨C + 2, 1, none⟩) (by show C + 3 ≠ C + 2; omega) _,
    s3, owns_far (owns_far (owns_far ho (p := ⟨C + 2, 3, none⟩) n1 _) (p := ⟨C + 2, 0, none⟩) n1 _) (p := ⟨C + 2, 1, none⟩) n1 _⟩
set_option maxHeartbeats 8000000 in
theorem restore_any (C m p q r : Nat) (cc : Array Value) (n : Int) (vs : List Vr) (w : World) (hp : PG w C cc 1 n vs) (hh : Held w C m p q r) (hm : m ≤ vs.length) (hm1 : 1 ≤ vs.length) (hl : vs.length ≤ 10000000) :
    Calls Try.prog 91 #[.pointer (some ⟨p, 0, none⟩), .pointer (some ⟨q, 0, none⟩), .pointer (some ⟨r, 0, none⟩)] w (Shallower C cc n (vs.take m) w) := by
  have hSl := hp.lt.2
  have HP := Lib.hid hp
  obtain ⟨V, ps, hst, hv⟩ := hp
  obtain ⟨g, cap, rfl, hmc⟩ : ∃ g cap, V = .slice (some ⟨g, 0, none⟩) vs.length cap ∧ vs.length ≤ cap := by
    rcases hst.o.2 with ⟨_, h0⟩ | ⟨g', cap', cur, h0, _, _, h1, _⟩
    · omega
    · exact ⟨g', cap', h0, h1⟩
  have p0 : w.cell? ⟨p, 0, none⟩ = some (.pointer (some ⟨C + 2, 0, none⟩)) := hh.p.cell 0
  have q0 : w.cell? ⟨q, 0, none⟩ = some (.int .i64 m) := hh.q.cell 0
  have r0 : w.cell? ⟨r, 0, none⟩ = some (.int .i64 0) := hh.r.cell 0
  have np : p ≠ C + 2 := hh.p.ne_ hst.s (by decide)
  have nq : q ≠ C + 2 := hh.q.ne_ hst.s (by decide)
  have nr : r ≠ C + 2 := hh.r.ne_ hst.s (by decide)
  have c0 : w.cell? ⟨C + 2, 0, none⟩ = some (.slice (some ⟨g, 0, none⟩) vs.length cap) := hst.s.cell 0
  have c1 : w.cell? ⟨C + 2, 1, none⟩ = some (.slice none 0 0) := hst.s.cell 1
  have c3 : w.cell? ⟨C + 2, 3, none⟩ = some (.int .i64 1) := hst.s.cell 3
  have f0 := hst.s.frozen 0
  have f1 := hst.s.frozen 1
  have f3 := hst.s.frozen 3
  have lp := hh.p.lt
  have lq := hh.q.lt
  have lr := hh.r.lt
  have m0 : (0 : Int) ≤ m := by omega
  have m1 : (m : Int) ≤ cap := by omega
  have HST := Lib.hid hst
  have HV := Lib.hid hv
  clear hst hv hh
  go_enter Try.func91, Try.ntmps91
  go_wp2_with fail
  go_region
  all_goals
    go_wp2_with fail
    go_region
    all_goals
      go_wp2_with fail
      go_end0
      exact ⟨rfl, (shallow_of HST.out HV.out hm).drew.drew, ((((Below.refl _ _).setCell (p := ⟨C + 2, 3, none⟩) (by show C ≤ C + 2; omega) _).setCell (p := ⟨C + 2, 0, none⟩) (by show C ≤ C + 2; omega) _).setCell (p := ⟨C + 2, 1, none⟩) (by show C ≤ C + 2; omega) _).drew.drew⟩
end Go.Proofs.Ytbkakiipaehleaa
