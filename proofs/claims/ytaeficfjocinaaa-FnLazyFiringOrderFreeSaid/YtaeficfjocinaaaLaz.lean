/- A slot that is kept free, and the function that fills it: contracts. -/
import Derived.Test.YtaeficfjocinaaaBui2
namespace Go.Proofs.Ytaeficfjocinaaa
open Go.RowKit
set_option maxRecDepth 100000
set_option linter.unusedVariables false
theorem kept_set {e : TypeId} {b : Option Nat} {a w : World} (h : Lib.OthersKept e b a w) {g i : Nat} {cs : Array Value} (hg : Blk w g e cs) (u : Value) : Lib.OthersKept e b a (w.setCell ⟨g, i, none⟩ u) := by
  intro j o hj hb ho
  have h1 := h j o hj hb ho
  rw [Below.heap_setCell _ _ _ _ (by
    show j ≠ g
    rintro rfl
    unfold Blk at hg
    rw [hg] at h1
    injection h1 with h1
    exact ho _ _ h1.symm)]
  exact h1
theorem CS.alloc {w : World} {base C : Nat} {cc : Array Value} {V : Value} {cs : List (Option Cd)} (h : CS w base C cc V cs) (o : Obj) : CS (w.alloc o) base C cc V cs := ⟨h.c.alloc o, h.h5, h.o.alloc o, fun c hc => (h.at_ c hc).alloc o, h.lo, h.le⟩
theorem CS.drew {w : World} {base C : Nat} {cc : Array Value} {V : Value} {cs : List (Option Cd)} (h : CS w base C cc V cs) : CS w.drew base C cc V cs := ⟨h.c, h.h5, h.o, h.at_, h.lo, h.le⟩
theorem CS.setAt {w : World} {base C g i k cap : Nat} {cc : Array Value} {cs : List (Option Cd)} {x : Cd} (h : CS w base C cc (.slice (some ⟨g, 0, none⟩) k cap) cs) (hx : Blk w x.b 90 #[x.v, .int .i64 x.op]) (hb : base ≤ x.b) :
    CS (w.setCell ⟨g, i, none⟩ (.pointer (some ⟨x.b, 0, none⟩))) base C cc (.slice (some ⟨g, 0, none⟩) k cap) (cs.set i (some x)) := by
  obtain ⟨rfl, -⟩ : k = cs.length ∧ True := by
    rcases h.o with ⟨_, ⟨h0, _⟩ | ⟨_, _, _, h0, _⟩⟩
    · cases h0
    · simp at h0
      exact ⟨h0.2.1, trivial⟩
  obtain ⟨cur, hg, _, _⟩ := owns_row h.o
  refine ⟨h.c.far (p := ⟨g, i, none⟩) (Blk.ne_ h.c hg (by decide)) _, h.h5, ?_, fun c hc => ?_, fun c hc => ?_, h.le⟩
  · rw [List.length_set, List.map_set]
    exact owns_set h.o i (.pointer (some ⟨x.b, 0, none⟩))
  · rcases List.mem_or_eq_of_mem_set hc with hc | hc
    · exact (h.at_ c hc).far (p := ⟨g, i, none⟩) (Blk.ne_ (h.at_ c hc) hg (by decide)) _
    · injection hc with hc
      subst hc
      exact hx.far (p := ⟨g, i, none⟩) (Blk.ne_ hx hg (by decide)) _
  · rcases List.mem_or_eq_of_mem_set hc with hc | hc
    · exact h.lo c hc
    · injection hc with hc
      subst hc
      exact hb
/-- the slot's own variables -/
structure Setter (w : World) (C n0 : Nat) (op : Int) (i : Nat) : Prop where
  b0 : Blk w n0 27 #[.pointer (some ⟨C, 0, none⟩)]
  b1 : Blk w (n0 + 1) 3 #[.int .i64 op]
  b2 : Blk w (n0 + 2) 27 #[.pointer (some ⟨C, 0, none⟩)]
  b3 : Blk w (n0 + 3) 93 #[.func (.func 50) #[] #[.pointer (some ⟨n0 + 1, 0, none⟩), .pointer (some ⟨n0, 0, none⟩)]]
  b4 : Blk w (n0 + 4) 3 #[.int .i64 i]
theorem Setter.kept {w w' : World} {C D n0 i : Nat} {op : Int} (h : Setter w C n0 op i) (hk : Lib.OthersKept 35 (some D) w w') {cc : Array Value} (hD : Blk w D 84 cc) : Setter w' C n0 op i :=
  ⟨h.b0.kept hk (fun e => Blk.ne_ h.b0 hD (by decide) (by injection e)) (by decide), h.b1.kept hk (fun e => Blk.ne_ h.b1 hD (by decide) (by injection e)) (by decide), h.b2.kept hk (fun e => Blk.ne_ h.b2 hD (by decide) (by injection e)) (by decide), h.b3.kept hk (fun e => Blk.ne_ h.b3 hD (by decide) (by injection e)) (by decide), h.b4.kept hk (fun e => Blk.ne_ h.b4 hD (by decide) (by injection e)) (by decide)⟩
theorem Setter.drewN {w : World} {C n0 i : Nat} {op : Int} (h : Setter w C n0 op i) (n : Nat) : Setter (w.drewN n) C n0 op i := ⟨h.b0.drewN n, h.b1.drewN n, h.b2.drewN n, h.b3.drewN n, h.b4.drewN n⟩
theorem Setter.drew {w : World} {C n0 i : Nat} {op : Int} (h : Setter w C n0 op i) : Setter w.drew C n0 op i := ⟨h.b0.drew, h.b1.drew, h.b2.drew, h.b3.drew, h.b4.drew⟩
theorem one_one (p : Option Addr) : ∀ u ∈ [Value.pointer p], u.oneCell' = true := by intro u hu; simp at hu; subst hu; rfl
def Lzd (base C : Nat) (cs : List (Option Cd)) (fv : Value) (w : World) (e : Ending) (w' : World) : Prop :=
  e = .returned (.func (.func 52) #[] #[.pointer (some ⟨w.heap.size + 1, 0, none⟩), .pointer (some ⟨w.heap.size, 0, none⟩), .pointer (some ⟨w.heap.size + 2, 0, none⟩)]) ∧ CSx w' base C (cs ++ [none]) ∧
  Blk w' w.heap.size 27 #[.pointer (some ⟨C, 0, none⟩)] ∧ Blk w' (w.heap.size + 1) 93 #[fv] ∧ Blk w' (w.heap.size + 2) 3 #[.int .i64 cs.length] ∧ Below base w w' ∧ Lib.OthersKept 35 (some C) w w'
set_option maxHeartbeats 2000000 in
theorem lazy_any (base C : Nat) (cs : List (Option Cd)) (fn : Fn) (caps : Array Value) (w : World) (h : CSx w base C cs) (hn : cs.length ≤ 10000000) :
    Calls Try.prog 49 #[.pointer (some ⟨C, 0, none⟩), .func fn #[] caps] w (Lzd base C cs (.func fn #[] caps) w) := by
  obtain ⟨i0, hi, hz0, hz1, hz2⟩ := info_parts infoCode
  have hle := h.le
  have hlt := h.lt
  obtain ⟨cc, V, h⟩ := h
  have c5 : w.cell? ⟨C, 5, none⟩ = some V := (h.c.cell 5).trans h.h5
  obtain ⟨A, cap, hV, _⟩ := own_open h.o
  subst hV
  have H := Lib.hid h
  clear h
  go_enter Try.func49, Try.ntmps49
  go_wp2_with fail
  have hW := ((H.out.alloc (.cells #[.pointer (some ⟨C, 0, none⟩)] 27)).alloc (.cells #[.func fn #[] caps] 93)).alloc (.cells #[.int .i64 cs.length] 3)
  have q0 := ((Blk.new w 27 #[.pointer (some ⟨C, 0, none⟩)]).alloc (.cells #[.func fn #[] caps] 93)).alloc (.cells #[.int .i64 cs.length] 3)
  have q1 := (Blk.at_ (w := w.alloc (.cells #[.pointer (some ⟨C, 0, none⟩)] 27)) (k := w.heap.size + 1) 93 #[.func fn #[] caps] (by simp)).alloc (.cells #[.int .i64 cs.length] 3)
  have q2 := Blk.at_ (w := (w.alloc (.cells #[.pointer (some ⟨C, 0, none⟩)] 27)).alloc (.cells #[.func fn #[] caps] 93)) (k := w.heap.size + 2) 3 #[.int .i64 cs.length] (by simp)
  have bW : Below base w (((w.alloc (.cells #[.pointer (some ⟨C, 0, none⟩)] 27)).alloc (.cells #[.func fn #[] caps] 93)).alloc (.cells #[.int .i64 cs.length] 3)) := (((Below.refl _ _).alloc (by omega) _).alloc (by simp; omega) _).alloc (by simp; omega) _
  have kW : Lib.OthersKept 35 (some C) w (((w.alloc (.cells #[.pointer (some ⟨C, 0, none⟩)] 27)).alloc (.cells #[.func fn #[] caps] 93)).alloc (.cells #[.int .i64 cs.length] 3)) := (((Lib.OthersKept.refl _ _ w).alloc _).alloc _).alloc _
  have zW : base ≤ (((w.alloc (.cells #[.pointer (some ⟨C, 0, none⟩)] 27)).alloc (.cells #[.func fn #[] caps] 93)).alloc (.cells #[.int .i64 cs.length] 3)).heap.size := by simp; omega
  clear c5
  generalize (((w.alloc (.cells #[.pointer (some ⟨C, 0, none⟩)] 27)).alloc (.cells #[.func fn #[] caps] 93)).alloc (.cells #[.int .i64 cs.length] 3)) = W at *
  have d5 : W.cell? ⟨C, 5, none⟩ = some (.slice A cs.length cap) := (hW.c.cell 5).trans hW.h5
  have d0 : W.cell? ⟨w.heap.size, 0, none⟩ = some (.pointer (some ⟨C, 0, none⟩)) := q0.cell 0
  have lC := hW.c.lt
  have lB := q0.lt
  have hne := own_blk_ne hW.o hW.c (by decide)
  have hnq := own_blk_ne hW.o q0 (by decide)
  have HW := Lib.hid hW
  have Q0 := Lib.hid q0
  have Q1 := Lib.hid q1
  have Q2 := Lib.hid q2
  have BW := Lib.hid bW
  have KW := Lib.hid kW
  clear hW q0 q1 q2 bW kW
  go_region_law ((refine step_append_lies _ rfl (.tmp 15) (.tmp 16) 43 rfl base 35 i0 (.pointer none) 1 8 Try.underlying43 hi hz0 hz1 hz2 rfl (by decide) (.slice A cs.length cap) cs.length (cs.map pv) (by simp [Act.eval]) ((show W.drew.ownsRow base 35 1 (.slice A cs.length cap) cs.length (cs.map pv) from HW.out.o).alloc _) ⟨W.heap.size, 0, none⟩ 1 1 [.pointer none] (by simp [Act.eval]) rfl (one_cell _ _ (by simp)) (one_one _) (by omega) (by unfold maxLen; omega) (by omega) (by simp; omega) _ rfl ?_; intro g cap1 w1 hown1 hgrow hat hlt1; have sw1 := (HW.out.c.drew.alloc (.cells #[.pointer none] 35)).grown hgrow (fun e => hne e.symm); have s5 : w1.cell? ⟨C, 5, none⟩ = some (.slice A cs.length cap) := (sw1.cell 5).trans HW.out.h5; have sf5 := sw1.frozen 5; have t0 : w1.cell? ⟨w.heap.size, 0, none⟩ = some (.pointer (some ⟨C, 0, none⟩)) := ((Q0.out.drew.alloc (.cells #[.pointer none] 35)).grown hgrow (fun e => hnq e.symm)).cell 0; have HSW1 := Lib.hid sw1; have HO1 := Lib.hid hown1; have HG1 := Lib.hid hgrow; clear sw1 hown1 hgrow hat))
  all_goals
    have oL : (W.drew.alloc (.cells #[.pointer none] 35)).ownsRow base 35 1 (.slice A cs.length cap) cs.length (cs.map pv) := (show W.drew.ownsRow base 35 1 (.slice A cs.length cap) cs.length (cs.map pv) from HW.out.o).alloc _
    have keep : ∀ (b t : Nat) (q : Array Value), t ≠ 35 → Blk W b t q → Blk w1 b t q := fun b t q ht hq => (hq.drew.alloc _).grown HG1.out (fun e => own_blk_ne oL (hq.drew.alloc _) (fun e => ht e.symm) e.symm)
    have hb1 : Below base W w1 := ((Below.refl _ W).drew.alloc (by show base ≤ W.heap.size; omega) _).grown HG1.out (by simp; omega) (fun k hk => (HW.out.o.lt k hk).1)
    have hk1 : Lib.OthersKept 35 (some C) W w1 := ((Lib.OthersKept.refl _ _ W).drew.alloc _).grown HG1.out (own_kind oL)
    have hne1 := own_blk_ne HO1.out HSW1.out (by decide)
    have lC1 := HSW1.out.lt
    have HK := Lib.hid keep
    have HB1 := Lib.hid hb1
    have HK1 := Lib.hid hk1
    have HN1 := Lib.hid hne1
    clear keep hb1 hk1 hne1 oL hne
    go_wp2_with fail
    go_ret
    have hsz : 5 < cc.size := (Array.getElem?_eq_some_iff.1 HW.out.h5).1
    have ne0 : ∀ (b t : Nat) (q : Array Value), t ≠ 35 → t ≠ 84 → Blk W b t q → ∀ u, Blk (w1.setCell ⟨C, 5, none⟩ u) b t q := fun b t q h1 h2 hq u => (HK.out b t q h1 hq).far (p := ⟨C, 5, none⟩) (Blk.ne_ (HK.out b t q h1 hq) HSW1.out h2) u
    refine ⟨rfl, ⟨_, .slice (some ⟨g, 0, none⟩) (cs.length + 1) cap1, HSW1.out.set_ 5 _, by rw [Array.getElem?_setIfInBounds_self_of_lt hsz], ?_, fun c hc => ?_, fun c hc => ?_, hle⟩, ne0 _ _ _ (by decide) (by decide) Q0.out _, ne0 _ _ _ (by decide) (by decide) Q1.out _, ne0 _ _ _ (by decide) (by decide) Q2.out _, (BW.out.trans HB1.out).setCell (p := ⟨C, 5, none⟩) hle _, (KW.out.trans HK1.out).setCell ⟨C, 5, none⟩ rfl _⟩
    · rw [List.length_append, List.map_append, List.map_singleton]
      exact owns_far HO1.out (p := ⟨C, 5, none⟩) HN1.out _
    · rcases List.mem_append.1 hc with hc | hc
      · exact ne0 _ _ _ (by decide) (by decide) (HW.out.at_ c hc) _
      · simp at hc
    · rcases List.mem_append.1 hc with hc | hc
      · exact HW.out.lo c hc
      · simp at hc
/-- behind ZZlazyJump -/
def LzJ (base C : Nat) (cs : List (Option Cd)) (op : Int) (w : World) (e : Ending) (w' : World) : Prop :=
  e = .returned (.func (.func 52) #[] #[.pointer (some ⟨w.heap.size + 3, 0, none⟩), .pointer (some ⟨w.heap.size + 2, 0, none⟩), .pointer (some ⟨w.heap.size + 4, 0, none⟩)]) ∧ CSx w' base C (cs ++ [none]) ∧ Setter w' C w.heap.size op cs.length ∧ Below base w w' ∧ Lib.OthersKept 35 (some C) w w'
set_option maxHeartbeats 1000000 in
theorem lazyJump_any (base C : Nat) (cs : List (Option Cd)) (op : Int) (w : World) (h : CSx w base C cs) (hn : cs.length ≤ 10000000) :
    Calls Try.prog 36 #[.pointer (some ⟨C, 0, none⟩), .int .i64 op] w (LzJ base C cs op w) := by
  have hle := h.le
  have hlt := h.lt
  have hlz := Lib.hid (lazy_any base C cs (.func 50) #[.pointer (some ⟨w.heap.size + 1, 0, none⟩), .pointer (some ⟨w.heap.size, 0, none⟩)] ((w.alloc (.cells #[.pointer (some ⟨C, 0, none⟩)] 27)).alloc (.cells #[.int .i64 op] 3)) ((h.alloc _).alloc _) hn)
  obtain ⟨cc, V, h⟩ := h
  have HCC := Lib.hid ((h.c.alloc (.cells #[.pointer (some ⟨C, 0, none⟩)] 27)).alloc (.cells #[.int .i64 op] 3))
  clear h
  go_enter Try.func36, Try.ntmps36
  go_wp2_with fail
  with_reducible refine (hlz.out).mono ?_
  rintro e1 w1 ⟨rfl, h1, h2, h3, h4, h5, h6⟩
  have H1 := Lib.hid h1
  have H2 := Lib.hid h2
  have H3 := Lib.hid h3
  have H4 := Lib.hid h4
  have H5 := Lib.hid h5
  have H6 := Lib.hid h6
  clear h1 h2 h3 h4 h5 h6
  go_wp2_with fail
  go_ret
  have k0 := ((Blk.new w 27 #[.pointer (some ⟨C, 0, none⟩)]).alloc (.cells #[.int .i64 op] 3)).kept H6.out (fun e => by injection e; omega) (by decide)
  have k1 := (Blk.at_ (w := w.alloc (.cells #[.pointer (some ⟨C, 0, none⟩)] 27)) (k := w.heap.size + 1) 3 #[.int .i64 op] (by simp)).kept H6.out (fun e => by injection e; omega) (by decide)
  have a2 := H2.out
  have a3 := H3.out
  have a4 := H4.out
  simp at a2 a3 a4
  refine ⟨by simp, H1.out, ⟨k0, k1, a2, a3, a4⟩, (((Below.refl _ _).alloc (by omega) _).alloc (by simp; omega) _).trans H5.out, (((Lib.OthersKept.refl _ _ w).alloc _).alloc _).trans H6.out⟩
end Go.Proofs.Ytaeficfjocinaaa
