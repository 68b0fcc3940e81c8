/- The compiler's list of codes in memory: its state, an append, the readers. -/
import Derived.Test.YtaeficfjocinaaaClo6
namespace Go.Proofs.Ytaeficfjocinaaa
open Go.RowKit
set_option maxRecDepth 100000
set_option linter.unusedVariables false
/-- a code: its block, its value, its op -/
structure Cd where
  b : Nat
  v : Value
  op : Int
def pv : Option Cd → Value
  | none => .pointer none
  | some c => .pointer (some ⟨c.b, 0, none⟩)
structure CS (w : World) (base C : Nat) (cc : Array Value) (V : Value) (cs : List (Option Cd)) : Prop where
  c : Blk w C 84 cc
  h5 : cc[5]? = some V
  o : w.ownsRow base 35 1 V cs.length (cs.map pv)
  at_ : ∀ c, some c ∈ cs → Blk w c.b 90 #[c.v, .int .i64 c.op]
  lo : ∀ c, some c ∈ cs → base ≤ c.b
  le : base ≤ C
def CSx (w : World) (base C : Nat) (cs : List (Option Cd)) : Prop := ∃ cc V, CS w base C cc V cs
theorem CSx.alloc {w : World} {base C : Nat} {cs : List (Option Cd)} (h : CSx w base C cs) (o : Obj) : CSx (w.alloc o) base C cs := by
  obtain ⟨cc, V, h⟩ := h
  exact ⟨cc, V, h.c.alloc o, h.h5, h.o.alloc o, fun c hc => (h.at_ c hc).alloc o, h.lo, h.le⟩
theorem CSx.below {w w' : World} {base C : Nat} {cs : List (Option Cd)} (h : CSx w base C cs) (hb : Below w.heap.size w w') : CSx w' base C cs := by
  obtain ⟨cc, V, h⟩ := h
  exact ⟨cc, V, h.c.below hb h.c.lt, h.h5, owns_below h.o hb, fun c hc => (h.at_ c hc).below hb (h.at_ c hc).lt, h.lo, h.le⟩
theorem CSx.drewN {w : World} {base C : Nat} {cs : List (Option Cd)} (h : CSx w base C cs) (n : Nat) : CSx (w.drewN n) base C cs := by
  obtain ⟨cc, V, h⟩ := h
  exact ⟨cc, V, h.c.drewN n, h.h5, h.o, fun c hc => (h.at_ c hc).drewN n, h.lo, h.le⟩
theorem CSx.drew {w : World} {base C : Nat} {cs : List (Option Cd)} (h : CSx w base C cs) : CSx w.drew base C cs := by
  obtain ⟨cc, V, h⟩ := h
  exact ⟨cc, V, h.c.drew, h.h5, h.o, fun c hc => (h.at_ c hc).drew, h.lo, h.le⟩
theorem CSx.lt {w : World} {base C : Nat} {cs : List (Option Cd)} (h : CSx w base C cs) : C < w.heap.size := by
  obtain ⟨cc, V, h⟩ := h
  exact h.c.lt
theorem CSx.le {w : World} {base C : Nat} {cs : List (Option Cd)} (h : CSx w base C cs) : base ≤ C := by
  obtain ⟨cc, V, h⟩ := h
  exact h.le
/-- what a reader sees -/
theorem CSx.open_ {w : World} {base C : Nat} {cs : List (Option Cd)} (h : CSx w base C cs) : ∃ A cap, w.cell? ⟨C, 5, none⟩ = some (.slice A cs.length cap) ∧ C < w.heap.size ∧ ∀ i x, cs[i]? = some x → ∃ g, A = some ⟨g, 0, none⟩ ∧ g < w.heap.size ∧ w.cell? ⟨g, i, none⟩ = some (pv x) := by
  obtain ⟨cc, V, h⟩ := h
  obtain ⟨A, cap, rfl, hc⟩ := own_open h.o
  refine ⟨A, cap, (h.c.cell 5).trans h.h5, h.c.lt, fun i x hx => ?_⟩
  obtain ⟨g, rfl, hg⟩ := hc i (pv x) (by rw [List.getElem?_map, hx]; rfl)
  refine ⟨g, rfl, World.block_lt_of_cell? w _ hg, ?_⟩
  exact hg
theorem CSx.code {w : World} {base C : Nat} {cs : List (Option Cd)} (h : CSx w base C cs) {i : Nat} {c : Cd} (hc : cs[i]? = some (some c)) : Blk w c.b 90 #[c.v, .int .i64 c.op] := by
  obtain ⟨cc, V, h⟩ := h
  exact h.at_ c (List.mem_of_getElem? hc)
set_option maxHeartbeats 1000000 in
theorem newC_any (w : World) : Calls Try.prog 42 #[] w fun e w' => e = .returned (.pointer (some ⟨w.heap.size, 0, none⟩)) ∧ (∀ base, base ≤ w.heap.size → CSx w' base w.heap.size []) ∧ Below w.heap.size w w' ∧ w'.heap.size = w.heap.size + 1 := by
  go_enter Try.func42, Try.ntmps42
  go_wp2_with fail
  go_ret
  exact ⟨rfl, fun base hb => ⟨_, _, Blk.new _ _ _, rfl, World.ownsRow_nil _ _ _ _, fun c hc => by simp at hc, fun c hc => by simp at hc, hb⟩, (Below.refl _ _).alloc (Nat.le_refl _) _, by simp⟩
theorem infoCode : (Try.prog.info? 35).map (fun i => (i.zero, i.size, i.bytes)) = some (some (.pointer none), 1, 8) := by kernel_rfl
/-- behind an append -/
def Appd (base C : Nat) (cs : List (Option Cd)) (w : World) (e : Ending) (w' : World) : Prop := e = .returned (.tuple #[]) ∧ CSx w' base C cs ∧ Below base w w' ∧ Lib.OthersKept 35 (some C) w w'
set_option maxHeartbeats 2000000 in
theorem comp_append (base C : Nat) (cs : List (Option Cd)) (x : Option Cd) (p : Option Addr) (w : World) (h : CSx w base C cs) (hx : ∀ c, x = some c → Blk w c.b 90 #[c.v, .int .i64 c.op] ∧ base ≤ c.b) (hp : pv x = .pointer p) (hn : cs.length ≤ 10000000) :
    Calls Try.prog 51 #[.pointer (some ⟨C, 0, none⟩), .pointer p] w (Appd base C (cs ++ [x]) w) := by
  obtain ⟨i0, hi, hz0, hz1, hz2⟩ := info_parts infoCode
  obtain ⟨cc, V, h⟩ := h
  have hCl := h.c.lt
  have hle := h.le
  have c5 : w.cell? ⟨C, 5, none⟩ = some V := (h.c.cell 5).trans h.h5
  have hne := own_blk_ne h.o h.c (by decide)
  have H := Lib.hid h
  have HX := Lib.hid hx
  have HP := Lib.hid hp
  clear h hx hp
  go_enter Try.func51, Try.ntmps51
  go_wp2_with (at_builtin; refine wpList_append_lies _ rfl (.tmp 8) (.tmp 10) 43 rfl base 35 i0 (.pointer none) 1 8 Try.underlying43 hi hz0 hz1 hz2 rfl (by decide) V cs.length (cs.map pv) rfl (H.out.o.alloc _) ⟨w.heap.size, 0, none⟩ 1 1 [.pointer p] rfl rfl (one_cell (.pointer p) _ rfl) (by intro u hu; simp at hu; subst hu; rfl) (by omega) (by unfold maxLen; omega) (by omega) (by simp; omega) _ rfl ?_)
  intro g cap w1 hown1 hgrow hat hlt
  have hown0 := H.out.o.alloc (.cells #[.pointer p] 35)
  have hC1 := (H.out.c.alloc (.cells #[.pointer p] 35)).grown hgrow (fun e => hne e.symm)
  have keep : ∀ (b : Nat) (q : Array Value), Blk w b 90 q → Blk w1 b 90 q := fun b q hq => (hq.alloc _).grown hgrow (fun e => own_blk_ne hown0 (hq.alloc _) (by decide) e.symm)
  have d5 : w1.cell? ⟨C, 5, none⟩ = some V := by
    rw [hC1.cell 5]
    exact H.out.h5
  have f5 := hC1.frozen 5
  have hb1 : Below base w w1 := ((Below.refl _ w).alloc (by omega) _).grown hgrow (by simp; omega) (fun k hk => (H.out.o.lt k hk).1)
  have hk1 : Lib.OthersKept 35 (some C) w w1 := ((Lib.OthersKept.refl _ _ w).alloc _).grown hgrow (own_kind hown0)
  have hne1 := own_blk_ne hown1 hC1 (by decide)
  have H1 := Lib.hid hC1
  have HO := Lib.hid hown1
  have HN := Lib.hid hne1
  have HK := Lib.hid keep
  clear hC1 hown1 hown0 hne1 hne c5 hgrow hat keep
  go_wp2_with fail
  go_end0
  have hsz : 5 < cc.size := (Array.getElem?_eq_some_iff.1 H.out.h5).1
  refine ⟨rfl, ⟨_, .slice (some ⟨g, 0, none⟩) (cs.length + 1) cap, H1.out.set_ 5 _, by rw [Array.getElem?_setIfInBounds_self_of_lt hsz], ?_, fun c hc => ?_, fun c hc => ?_, hle⟩, hb1.setCell (p := ⟨C, 5, none⟩) hle _, hk1.setCell ⟨C, 5, none⟩ rfl _⟩
  · rw [List.length_append, List.map_append, List.map_singleton, HP.out]
    exact owns_far HO.out (p := ⟨C, 5, none⟩) HN.out _
  · rcases List.mem_append.1 hc with hc | hc
    · exact (HK.out _ _ (H.out.at_ c hc)).far (p := ⟨C, 5, none⟩) (Blk.ne_ (HK.out _ _ (H.out.at_ c hc)) H1.out (by decide)) _
    · have hc : x = some c := (List.mem_singleton.1 hc).symm
      exact (HK.out _ _ (HX.out c hc).1).far (p := ⟨C, 5, none⟩) (Blk.ne_ (HK.out _ _ (HX.out c hc).1) H1.out (by decide)) _
  · rcases List.mem_append.1 hc with hc | hc
    · exact H.out.lo c hc
    · exact (HX.out c (List.mem_singleton.1 hc).symm).2
def iv (v : Int) : Value := .iface 3 (.int .i64 v)
/-- the int code laid at block b -/
def ic (b : Nat) (op v : Int) : Option Cd := some ⟨b, .iface 3 (.int .i64 v), op⟩
set_option maxHeartbeats 1000000 in
theorem appendInt_any (base C : Nat) (cs : List (Option Cd)) (op v : Int) (w : World) (h : CSx w base C cs) (hn : cs.length ≤ 10000000) :
    Calls Try.prog 37 #[.pointer (some ⟨C, 0, none⟩), .int .i64 op, .int .i64 v] w (Appd base C (cs ++ [ic w.heap.size op v]) w) := by
  have hlt := h.lt
  have hle := h.le
  have hc := Lib.hid (comp_append base C cs (ic w.heap.size op v) (some ⟨w.heap.size, 0, none⟩) (w.alloc (.cells #[.iface 3 (.int .i64 v), .int .i64 op] 90)) (h.alloc _) (fun c hc => by
    injection hc with hc
    subst hc
    exact ⟨Blk.new _ _ _, by show base ≤ w.heap.size; omega⟩) rfl hn)
  have hb : Below base w (w.alloc (.cells #[.iface 3 (.int .i64 v), .int .i64 op] 90)) := (Below.refl _ _).alloc (by omega) _
  have hk : Lib.OthersKept 35 (some C) w (w.alloc (.cells #[.iface 3 (.int .i64 v), .int .i64 op] 90)) := (Lib.OthersKept.refl _ _ w).alloc _
  clear h
  go_enter Try.func37, Try.ntmps37
  go_wp2_with fail
  with_reducible refine (hc.out).mono ?_
  rintro e w1 ⟨rfl, h1, h2, h3⟩
  go_wp2_with fail
  go_end0
  exact ⟨rfl, h1, hb.trans h2, hk.trans h3⟩
theorem len_any (base C : Nat) (cs : List (Option Cd)) (w : World) (h : CSx w base C cs) : Calls Try.prog 16 #[.pointer (some ⟨C, 0, none⟩)] w fun e w' => e = .returned (.int .i64 cs.length) ∧ w = w' := by
  obtain ⟨A, cap, c5, hlt, _⟩ := h.open_
  clear h
  go_enter Try.func16, Try.ntmps16
  go_wp2_with fail
  go_ret
  exact ⟨rfl, rfl⟩
theorem codeAt_any (base C : Nat) (cs : List (Option Cd)) (i : Nat) (x : Option Cd) (w : World) (h : CSx w base C cs) (hx : cs[i]? = some x) (hn : cs.length ≤ 10000000) : Calls Try.prog 23 #[.pointer (some ⟨C, 0, none⟩), .int .i64 i] w fun e w' => e = .returned (pv x) ∧ w = w' := by
  obtain ⟨A, cap, c5, hlt, hc⟩ := h.open_
  obtain ⟨g, rfl, hg, c1⟩ := hc i x hx
  have hil := lt_of_some hx
  clear h hc hx
  go_enter Try.func23, Try.ntmps23
  go_wp2_with fail
  go_ret
  exact ⟨rfl, rfl⟩
theorem op_any (base C : Nat) (cs : List (Option Cd)) (i : Nat) (x : Cd) (w : World) (h : CSx w base C cs) (hx : cs[i]? = some (some x)) (hn : cs.length ≤ 10000000) : Calls Try.prog 24 #[.pointer (some ⟨C, 0, none⟩), .int .i64 i] w fun e w' => e = .returned (.int .i64 x.op) ∧ w = w' := by
  obtain ⟨A, cap, c5, hlt, hc⟩ := h.open_
  obtain ⟨g, rfl, hg, c1⟩ := hc i _ hx
  have hB := h.code hx
  have hil := lt_of_some hx
  have c2 : w.cell? ⟨x.b, 1, none⟩ = some (.int .i64 x.op) := hB.cell 1
  have c3 : w.cell? ⟨g, i, none⟩ = some (.pointer (some ⟨x.b, 0, none⟩)) := c1
  have hbl := hB.lt
  clear h hc hx c1 hB
  go_enter Try.func24, Try.ntmps24
  go_wp2_with fail
  go_ret
  exact ⟨rfl, rfl⟩
theorem run_assert_int (v : Int) (w : World) : (Instr.typeAssert (.iface 3 (.int .i64 v)) 20 3 true).run Try.prog w = .ok (.tuple #[.int .i64 v, .bool true]) w := by kernel_rfl
theorem vInt_any (base C : Nat) (cs : List (Option Cd)) (i : Nat) (b : Nat) (op v : Int) (w : World) (h : CSx w base C cs) (hx : cs[i]? = some (ic b op v)) (hn : cs.length ≤ 10000000) : Calls Try.prog 25 #[.pointer (some ⟨C, 0, none⟩), .int .i64 i] w fun e w' => e = .returned (.tuple #[.int .i64 v, .bool true]) ∧ w = w' := by
  obtain ⟨A, cap, c5, hlt, hc⟩ := h.open_
  obtain ⟨g, rfl, hg, c1⟩ := hc i _ hx
  have hB := h.code hx
  have hil := lt_of_some hx
  have c2 : w.cell? ⟨b, 0, none⟩ = some (.iface 3 (.int .i64 v)) := hB.cell 0
  have c3 : w.cell? ⟨g, i, none⟩ = some (.pointer (some ⟨b, 0, none⟩)) := c1
  have hbl : b < w.heap.size := hB.lt
  have hta := run_assert_int v
  clear h hc hx c1 hB
  go_enter Try.func25, Try.ntmps25
  go_wp2_with fail
  go_ret2
  exact ⟨rfl, rfl⟩
set_option maxHeartbeats 1000000 in
theorem same_any (base C : Nat) (cs : List (Option Cd)) (i : Nat) (b : Nat) (op v : Int) (w : World) (h : CSx w base C cs) (hx : cs[i]? = some (ic b op v)) (hn : cs.length ≤ 10000000) : Calls Try.prog 21 #[.pointer (some ⟨C, 0, none⟩), .int .i64 i, .int .i64 op, .int .i64 v] w fun e w' => e = .returned (.bool true) ∧ w = w' := by
  have h1 := Lib.hid (len_any base C cs w h)
  have h2 := Lib.hid (codeAt_any base C cs i _ w h hx hn)
  have h3 := Lib.hid (op_any base C cs i _ w h hx hn)
  have h4 := Lib.hid (vInt_any base C cs i b op v w h hx hn)
  have hil := lt_of_some hx
  have e1 : (op != op) = false := by simp
  have e2 : (v == v) = true := by simp
  clear h hx
  go_enter Try.func21, Try.ntmps21
  go_wp2_with fail
  with_reducible refine (h1.out).mono ?_
  rintro e w1 ⟨rfl, rfl⟩
  go_wp2_with fail
  with_reducible refine (h2.out).mono ?_
  rintro e w1 ⟨rfl, rfl⟩
  simp only [ic, pv]
  go_wp2_with fail
  with_reducible refine (h3.out).mono ?_
  rintro e w1 ⟨rfl, rfl⟩
  go_wp2_with fail
  with_reducible refine (h4.out).mono ?_
  rintro e w1 ⟨rfl, rfl⟩
  go_wp2_with fail
  go_ret
  exact ⟨rfl, rfl⟩
end Go.Proofs.Ytaeficfjocinaaa
