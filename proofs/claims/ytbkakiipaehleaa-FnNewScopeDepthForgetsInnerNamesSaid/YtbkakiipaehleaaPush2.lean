/- pushVariable as the laws see it: the names pushed so far, and each name's rank. -/
import Derived.Test.YtbkakiipaehleaaPush
namespace Go.Proofs.Ytbkakiipaehleaa
open Go.RowKit
set_option maxRecDepth 100000
set_option linter.unusedVariables false
def vsOf (nms : List ByteArray) : List Vr := nms.mapIdx fun i x => ⟨x, 1, i, 0⟩
def rk (nms : List ByteArray) (x : ByteArray) : Nat := nms.findIdx (fun y => y.toList == x.toList)
def addN (nms : List ByteArray) (x : ByteArray) : List ByteArray := if rk nms x < nms.length then nms else nms ++ [x]
/-- the compiler's top scope holds just these names, in this order -/
def PS (w : World) (C : Nat) (cc : Array Value) (nms : List ByteArray) : Prop := ∃ V ps, St w C cc V 0 nms.length nms.length ps ∧ VarsIs w ps (vsOf nms)
def Pushed (C : Nat) (cc : Array Value) (nms : List ByteArray) (x : ByteArray) (w : World) (e : Ending) (w' : World) : Prop :=
  e = .returned (.agg #[.int .i64 1, .int .i64 (rk nms x)]) ∧ PS w' C cc (addN nms x) ∧ Below C w w' ∧ Lib.OthersKept 153 (some (C + 2)) w w'
theorem vsOf_len (nms : List ByteArray) : (vsOf nms).length = nms.length := by simp [vsOf]
theorem vsOf_at (nms : List ByteArray) (i : Nat) : (vsOf nms)[i]? = nms[i]?.map fun x => ⟨x, 1, i, 0⟩ := by simp [vsOf]
theorem vsOf_snoc (nms : List ByteArray) (x : ByteArray) : vsOf (nms ++ [x]) = vsOf nms ++ [⟨x, 1, nms.length, 0⟩] := by simp [vsOf]
theorem PS.alloc {w : World} {C : Nat} {cc : Array Value} {nms : List ByteArray} (h : PS w C cc nms) (o : Obj) : PS (w.alloc o) C cc nms := by
  obtain ⟨V, ps, h1, h2⟩ := h
  exact ⟨V, ps, h1.alloc o, h2.below ((Below.refl _ _).alloc (Nat.le_refl _) _)⟩
theorem PS.far {w : World} {C : Nat} {cc : Array Value} {nms : List ByteArray} (h : PS w C cc nms) {b i : Nat} {cs : Array Value} (hb : Blk w b 45 cs) (u : Value) : PS (w.setCell ⟨b, i, none⟩ u) C cc nms := by
  obtain ⟨V, ps, h1, h2⟩ := h
  refine ⟨V, ps, h1.far hb u, h2.1, fun i v hv => ?_⟩
  obtain ⟨p, h3, h4⟩ := h2.2 i v hv
  exact ⟨p, h3, h4.far (h4.ne_ hb (by decide)) u⟩
theorem PS.drewN {w : World} {C : Nat} {cc : Array Value} {nms : List ByteArray} (h : PS w C cc nms) (n : Nat) : PS (w.drewN n) C cc nms := by
  obtain ⟨V, ps, h1, h2⟩ := h
  exact ⟨V, ps, ⟨h1.c, h1.l, h1.s, h1.o⟩, h2⟩
theorem own_open {w : World} {base : Nat} {t : TypeId} {V : Value} {k : Nat} {ps : List Value} (h : w.ownsRow base t 1 V k ps) : ∃ A cap, V = .slice A k cap ∧ ∀ j u, ps[j]? = some u → ∃ g, A = some ⟨g, 0, none⟩ ∧ w.cell? ⟨g, j, none⟩ = some u := by
  have h0 := h
  rcases h with ⟨hl, ⟨rfl, rfl⟩ | ⟨g, cap, cur, rfl, _⟩⟩
  · exact ⟨none, 0, rfl, fun j u hj => by have := lt_of_some hj; simp at hl; subst hl; cases hj⟩
  · refine ⟨_, cap, rfl, fun j u hj => ⟨g, rfl, ?_⟩⟩
    have := h0.cells (g := g) rfl j u hj
    rw [Go.WideShapes.add_plain] at this
    simpa using this
theorem push_any (C : Nat) (cc : Array Value) (nms : List ByteArray) (x : ByteArray) (w : World) (h8 : cc[8]? = some (.slice (some ⟨C + 3, 0, none⟩) 1 1)) (hp : PS w C cc nms) (hn : nms.length ≤ 10000000) :
    Calls Try.prog 84 #[.pointer (some ⟨C, 0, none⟩), .string x] w (Pushed C cc nms x w) := by
  obtain ⟨V, ps, hst, hv⟩ := hp
  obtain ⟨A, cap, rfl, hA⟩ := own_open hst.o
  have hC := hst.c.lt
  by_cases hr : rk nms x < nms.length
  · have hg : hit x 0 ⟨nms[rk nms x], 1, rk nms x, 0⟩ = true := by
      simp only [hit]
      have := List.findIdx_getElem (p := fun y : ByteArray => y.toList == x.toList) (w := hr)
      simp at this
      simp [rk]
      exact this
    refine (push_loop C (C + 3) (C + 2) nms.length (rk nms x) A cap _ 1 0 nms.length ps (vsOf nms) x w (hst.top h8) hst.s hA hv (vsOf_len nms) hn ⟨nms[rk nms x], 1, rk nms x, 0⟩ (by rw [vsOf_at]; simp [hr]) hg (fun j u hj hu => ?_)).mono ?_
    · rw [vsOf_at] at hu
      have hjl : j < nms.length := by omega
      simp [hjl] at hu
      subst hu
      have := List.not_of_lt_findIdx (p := fun y : ByteArray => y.toList == x.toList) (xs := nms) hj
      simp at this
      simp [hit, this]
    · rintro e w' ⟨rfl, hb⟩
      refine ⟨rfl, ?_, hb.mono (by omega), fun k o hk _ _ => (hb.block k (Array.getElem?_eq_some_iff.1 hk).1).trans hk⟩
      rw [addN, if_pos hr]
      exact ⟨_, ps, hst.belowAll hb, hv.below hb⟩
  · have hre : rk nms x = nms.length := by
      have : rk nms x ≤ nms.length := List.findIdx_le_length
      omega
    refine (push_new C C (C + 3) (C + 2) nms.length A cap _ 1 0 nms.length ps (vsOf nms) x w (hst.top h8) hst.s hA hv (vsOf_len nms) hn (fun j u hu => ?_) hst.o (by omega) (by omega) (by omega)).mono ?_
    · rw [vsOf_at] at hu
      obtain ⟨y, hy, rfl⟩ := Option.map_eq_some_iff.1 hu
      have hjl := lt_of_some hy
      have := List.not_of_lt_findIdx (p := fun y : ByteArray => y.toList == x.toList) (xs := nms) (i := j) (by show j < rk nms x; omega)
      rw [List.getElem?_eq_getElem hjl] at hy
      injection hy with hy
      subst hy
      simp at this
      simp [hit, this]
    · rintro e w' ⟨g, cap', p, rfl, h1, h2, h3, h4, h5, h6⟩
      refine ⟨by rw [hre], ?_, h4, h5⟩
      rw [addN, if_neg hr]
      have hx := hst.next h1 h2 h5
      refine ⟨.slice (some ⟨g, 0, none⟩) (nms.length + 1) cap', ps ++ [.pointer (some ⟨p, 0, none⟩)], ?_, ?_⟩
      · rw [List.length_append]
        exact hx
      · rw [vsOf_snoc]
        exact (hv.kept hst.s h5).snoc h3
set_option maxHeartbeats 1000000 in
theorem zz_push (C : Nat) (cc : Array Value) (nms : List ByteArray) (x : ByteArray) (w : World) (h8 : cc[8]? = some (.slice (some ⟨C + 3, 0, none⟩) 1 1)) (hp : PS w C cc nms) (hn : nms.length ≤ 10000000) :
    Calls Try.prog 44 #[.pointer (some ⟨C, 0, none⟩), .string x] w (Pushed C cc nms x w) := by
  have hSl : C + 2 < w.heap.size := by obtain ⟨_, _, h, _⟩ := hp; exact h.s.lt
  have hbx : Below C w (w.alloc (.cells #[.int .i64 0, .int .i64 0] 45)) := (Below.refl _ _).alloc (by omega) _
  have hkx : Lib.OthersKept 153 (some (C + 2)) w (w.alloc (.cells #[.int .i64 0, .int .i64 0] 45)) := (Lib.OthersKept.refl _ _ w).alloc _
  have hc := Lib.hid (push_any C cc nms x (w.alloc (.cells #[.int .i64 0, .int .i64 0] 45)) h8 (hp.alloc _) hn)
  have hr := Blk.new w 45 #[.int .i64 0, .int .i64 0]
  clear hp h8
  go_enter Try.func44, Try.ntmps44
  go_wp2_with fail
  with_reducible refine (hc.out).mono ?_
  rintro e w1 ⟨rfl, h1, h4, h5⟩
  have hr1 := hr.kept h5 (by intro e; injection e with e; omega) (by decide)
  have r0 : w1.cell? ⟨w.heap.size, 0, none⟩ = some (.int .i64 0) := hr1.cell 0
  have r1 : w1.cell? ⟨w.heap.size, 1, none⟩ = some (.int .i64 0) := hr1.cell 1
  have q0 := hr1.frozen 0
  have q1 := hr1.frozen 1
  have H1 := Lib.hid h1
  have HR := Lib.hid hr1
  clear h1 hr hr1
  go_wp2_with fail
  refine bodyPost_ret (v := .agg #[.int .i64 1, .int .i64 (rk nms x)]) (by simp [results, Try.results44, go_sem, r0, r1]) rfl ?_
  refine ⟨rfl, (H1.out.far HR.out _).far (HR.out.set_ 0 _) _, ((hbx.trans h4).setCell (p := ⟨w.heap.size, 0, none⟩) (by show C ≤ w.heap.size; omega) _).setCell (p := ⟨w.heap.size, 1, none⟩) (by show C ≤ w.heap.size; omega) _, ?_⟩
  intro i o hi hne3 hcc
  have h1 := (hkx.trans h5) i o hi hne3 hcc
  have hil : i < w.heap.size := (Array.getElem?_eq_some_iff.1 hi).1
  rw [Below.heap_setCell _ _ _ _ (by show i ≠ w.heap.size; omega), Below.heap_setCell _ _ _ _ (by show i ≠ w.heap.size; omega)]
  exact h1
end Go.Proofs.Ytbkakiipaehleaa
