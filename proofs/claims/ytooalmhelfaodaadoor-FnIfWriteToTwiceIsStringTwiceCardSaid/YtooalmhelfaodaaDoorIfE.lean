/- n001_56: the if-expression built. -/
import Derived.Test.YtooalmhelfaodaaDoorIfD
namespace Go.Proofs.YtooalmhelfaodaaDoor
open Go.RowKit
set_option maxRecDepth 100000
set_option linter.unusedVariables false
set_option linter.unusedSimpArgs false
/-- midway: all but the else part -/
def Mid (kc kt ke : Int) (sc st se : ByteArray) (A : Option Addr) (c : Nat) (es : List Br) (he : Bool) (w0 : World) (i qc qt : Nat) (AA : Option Addr) (cc : Nat) (w : World) : Prop :=
  Blk w i 109 #[.pointer (some ⟨qc, 0, none⟩), .pointer (some ⟨qt, 0, none⟩), .slice AA es.length cc, .pointer none] ∧ Blk w w0.heap.size 48 #[.int .i64 kc, .string sc, .int .i64 kt, .string st, .slice A es.length c, .bool he, .int .i64 ke, .string se] ∧ QuIs w w.heap.size qc (atomQ kc sc) ∧ QuIs w w.heap.size qt (atomQ kt st) ∧ RowIs w w.heap.size AA es ∧ Below w0.heap.size w0 w ∧ w0.heap.size < i ∧ (∀ g, AA = some ⟨g, 0, none⟩ → g ≠ i)
theorem mid_end {kc kt ke : Int} {sc st se : ByteArray} {A : Option Addr} {c : Nat} {es : List Br} {he : Bool} {w0 w : World} {i qc qt : Nat} {AA : Option Addr} {cc : Nat} (h : Mid kc kt ke sc st se A c es he w0 i qc qt AA cc w) : IfIs w w.heap.size i (atomQ kc sc) (atomQ kt st) es none := by
  obtain ⟨h1, _, h3, h4, h5, _, _, _⟩ := h
  exact ⟨h1.lt, qc, qt, AA, _, cc, _, h1, rfl, h3, h4, h5, rfl⟩
theorem mid_else {kc kt ke : Int} {sc st se : ByteArray} {A : Option Addr} {c : Nat} {es : List Br} {he : Bool} {w0 w w1 : World} {i qc qt qe : Nat} {AA : Option Addr} {cc : Nat} {t : Qu} (h : Mid kc kt ke sc st se A c es he w0 i qc qt AA cc w) (hb : Below w.heap.size w w1) (hq : QuIs w1 w1.heap.size qe t) :
    IfIs (w1.setCell ⟨i, 3, none⟩ (.pointer (some ⟨qe, 0, none⟩))) (w1.setCell ⟨i, 3, none⟩ (.pointer (some ⟨qe, 0, none⟩))).heap.size i (atomQ kc sc) (atomQ kt st) es (some t) ∧ Below w0.heap.size w0 (w1.setCell ⟨i, 3, none⟩ (.pointer (some ⟨qe, 0, none⟩))) := by
  obtain ⟨h1, _, h3, h4, h5, h6, h7, h8⟩ := h
  have hs : (w1.setCell ⟨i, 3, none⟩ (.pointer (some ⟨qe, 0, none⟩))).heap.size = w1.heap.size := by simp [World.setCell]
  have g1 := h1.below hb h1.lt
  have hk : Keeps 109 w1 (w1.setCell ⟨i, 3, none⟩ (.pointer (some ⟨qe, 0, none⟩))) := Keeps.set_ g1 3 _
  have hd : 139 ≠ 109 ∧ 142 ≠ 109 ∧ 144 ≠ 109 ∧ 119 ≠ 109 ∧ 126 ≠ 109 ∧ 123 ≠ 109 := by decide
  rw [hs]
  refine ⟨⟨g1.lt, qc, qt, AA, _, cc, _, g1.set_ 3 _, rfl, QuIs.keep hk hd ((h3.below hb).mono hb.size), QuIs.keep hk hd ((h4.below hb).mono hb.size), ?_, ⟨qe, rfl, QuIs.keep hk hd hq⟩⟩, (h6.trans (hb.mono h6.size)).setCell (Nat.le_of_lt h7) _⟩
  refine RowIs.keep hk (fun g j hg => ?_) hd (by decide) ((h5.below hb).mono hb.size)
  exact World.cell?_of_block (w := w1) (Below.heap_setCell _ _ _ _ (h8 g hg))
def BuiltIf (kc kt ke : Int) (sc st se : ByteArray) (A : Option Addr) (c : Nat) (es : List Br) (he : Bool) (we : Bool) (w : World) (e : Ending) (w' : World) : Prop := ∃ i, e = .returned (.pointer (some ⟨i, 0, none⟩)) ∧ IfIs w' w'.heap.size i (atomQ kc sc) (atomQ kt st) es (if we then some (atomQ ke se) else none) ∧ Below w.heap.size w w'
theorem infoElif : (Tryd.prog.info? 110).map (fun i => (i.zero, i.size, i.bytes)) = some (some (.pointer none), 1, 8) := by kernel_rfl
/-- the row so far -/
def RowTo (w : World) (arr : Array Value) (es : List Br) (j : Nat) : Prop := ∀ i x, i < j → es[i]? = some x → ∃ e, arr[i]? = some (.pointer (some ⟨e, 0, none⟩)) ∧ ElIs w w.heap.size e (brQ x)
/-- the loop's state -/
def LR (kc kt ke : Int) (sc st se : ByteArray) (A : Option Addr) (c : Nat) (es : List Br) (he : Bool) (w0 : World) (i R qc qt j : Nat) (arr : Array Value) (w : World) : Prop :=
  Blk w R 110 arr ∧ arr.size = es.length ∧ RowTo w arr es j ∧ Blk w w0.heap.size 48 #[.int .i64 kc, .string sc, .int .i64 kt, .string st, .slice A es.length c, .bool he, .int .i64 ke, .string se] ∧ Blk w i 109 #[.pointer (some ⟨qc, 0, none⟩), .pointer (some ⟨qt, 0, none⟩), .slice none 0 0, .pointer none] ∧ QuIs w w.heap.size qc (atomQ kc sc) ∧ QuIs w w.heap.size qt (atomQ kt st) ∧ Below w0.heap.size w0 w ∧ w0.heap.size < i ∧ i < R
theorem lr_next {kc kt ke : Int} {sc st se : ByteArray} {A : Option Addr} {c : Nat} {es : List Br} {he : Bool} {w0 w w1 : World} {i R qc qt j a b : Nat} {arr : Array Value} {x : Br} (h : LR kc kt ke sc st se A c es he w0 i R qc qt j arr w) (hb : Below w.heap.size w w1) (hx : es[j]? = some x) (ha : QuIs w1 w1.heap.size a (atomQ x.k1 x.s1)) (hb' : QuIs w1 w1.heap.size b (atomQ x.k2 x.s2)) :
    LR kc kt ke sc st se A c es he w0 i R qc qt (j + 1) (arr.setIfInBounds j (.pointer (some ⟨w1.heap.size, 0, none⟩))) ((w1.setCell ⟨R, j, none⟩ (.pointer (some ⟨w1.heap.size, 0, none⟩))).alloc (.cells #[.pointer (some ⟨a, 0, none⟩), .pointer (some ⟨b, 0, none⟩)] 112)) := by
  obtain ⟨h1, hsz, h2, h3, h4, h5, h6, h7, h8, h9⟩ := h
  have hjl := lt_of_some hx
  have hs : (w1.setCell ⟨R, j, none⟩ (.pointer (some ⟨w1.heap.size, 0, none⟩))).heap.size = w1.heap.size := by simp [World.setCell]
  have g1 := h1.below hb h1.lt
  have hk : Keeps 110 w1 (w1.setCell ⟨R, j, none⟩ (.pointer (some ⟨w1.heap.size, 0, none⟩))) := Keeps.set_ g1 j _
  have hd : 139 ≠ 110 ∧ 142 ≠ 110 ∧ 144 ≠ 110 ∧ 119 ≠ 110 ∧ 126 ≠ 110 ∧ 123 ≠ 110 := by decide
  have k1 := hk _ _ _ (by decide) (h3.below hb h3.lt)
  have k2 := hk _ _ _ (by decide) (h4.below hb h4.lt)
  have k3 := QuIs.keep hk hd ((h5.below hb).mono hb.size)
  have k4 := QuIs.keep hk hd ((h6.below hb).mono hb.size)
  have k5 := QuIs.keep hk hd ha
  have k6 := QuIs.keep hk hd hb'
  have k7 := g1.set_ j (.pointer (some ⟨w1.heap.size, 0, none⟩))
  have k8 := (h7.trans (hb.mono h7.size)).setCell (show w0.heap.size ≤ R by omega) (p := ⟨R, j, none⟩) (.pointer (some ⟨w1.heap.size, 0, none⟩))
  have k9 : ∀ e x, ElIs w w.heap.size e x → ElIs (w1.setCell ⟨R, j, none⟩ (.pointer (some ⟨w1.heap.size, 0, none⟩))) w1.heap.size e x := fun e x he => ElIs.keep hk hd (by decide) ((he.below hb).mono hb.size)
  generalize w1.setCell ⟨R, j, none⟩ (.pointer (some ⟨w1.heap.size, 0, none⟩)) = w2 at *
  have hA : Below w2.heap.size w2 (w2.alloc (.cells #[.pointer (some ⟨a, 0, none⟩), .pointer (some ⟨b, 0, none⟩)] 112)) := (Below.refl _ _).alloc (Nat.le_refl _) _
  have hz2 : (w2.alloc (.cells #[.pointer (some ⟨a, 0, none⟩), .pointer (some ⟨b, 0, none⟩)] 112)).heap.size = w1.heap.size + 1 := by simp [hs]
  have hE := Blk.new w2 112 #[.pointer (some ⟨a, 0, none⟩), .pointer (some ⟨b, 0, none⟩)]
  rw [hs] at hE hA
  refine ⟨k7.alloc _, by rw [Array.size_setIfInBounds]; exact hsz, ?_, k1.alloc _, k2.alloc _, ?_, ?_, ?_, h8, h9⟩
  · intro k y hk1 hy
    rw [hz2]
    by_cases hkj : k = j
    · subst hkj
      rw [hx] at hy
      injection hy with hy
      subst hy
      exact ⟨w1.heap.size, set_at _ _ _ (by omega), ⟨by omega, a, b, hE, (k5.below hA).mono (by omega), (k6.below hA).mono (by omega)⟩⟩
    · obtain ⟨e, e1, e2⟩ := h2 k y (by omega) hy
      exact ⟨e, by rw [Array.getElem?_setIfInBounds_ne (by omega)]; exact e1, ((k9 e _ e2).below hA).mono (by omega)⟩
  · rw [hz2]; exact (k3.below hA).mono (by omega)
  · rw [hz2]; exact (k4.below hA).mono (by omega)
  · exact k8.alloc (by have := h7.size; have := hb.size; omega) _
theorem lr_end {kc kt ke : Int} {sc st se : ByteArray} {A : Option Addr} {c : Nat} {es : List Br} {he : Bool} {w0 w : World} {i R qc qt : Nat} {arr : Array Value} (h : LR kc kt ke sc st se A c es he w0 i R qc qt es.length arr w) :
    Mid kc kt ke sc st se A c es he w0 i qc qt (some ⟨R, 0, none⟩) es.length (w.setCell ⟨i, 2, none⟩ (.slice (some ⟨R, 0, none⟩) es.length es.length)) := by
  obtain ⟨h1, hsz, h2, h3, h4, h5, h6, h7, h8, h9⟩ := h
  have hs : (w.setCell ⟨i, 2, none⟩ (.slice (some ⟨R, 0, none⟩) es.length es.length)).heap.size = w.heap.size := by simp [World.setCell]
  have hk : Keeps 109 w (w.setCell ⟨i, 2, none⟩ (.slice (some ⟨R, 0, none⟩) es.length es.length)) := Keeps.set_ h4 2 _
  have hd : 139 ≠ 109 ∧ 142 ≠ 109 ∧ 144 ≠ 109 ∧ 119 ≠ 109 ∧ 126 ≠ 109 ∧ 123 ≠ 109 := by decide
  refine ⟨h4.set_ 2 _, hk _ _ _ (by decide) h3, by rw [hs]; exact QuIs.keep hk hd h5, by rw [hs]; exact QuIs.keep hk hd h6, ?_, h7.setCell (Nat.le_of_lt h8) _, h8, fun g hg => by injection hg with hg; injection hg with hg _ _; omega⟩
  intro k y hy
  obtain ⟨e, e1, e2⟩ := h2 k y (lt_of_some hy) hy
  refine ⟨R, e, rfl, by rw [hs]; exact h1.lt, ((hk _ _ _ (by decide) h1).cell k).trans e1, ?_⟩
  rw [hs]
  exact ElIs.keep hk hd (by decide) e2
set_option maxHeartbeats 8000000 in
theorem buildIf56 (kc kt ke : Int) (sc st se : ByteArray) (A : Option Addr) (c : Nat) (es : List Br) (he : Bool) (we : Bool) (w : World) (hx : BrsAt w w.heap.size A es) (h1 : sc.size ≤ 1048576) (h2 : st.size ≤ 1048576) (h3 : se.size ≤ 1048576) (hle : ∀ x ∈ es, x.le) (hn : es.length ≤ 65536) :
    Calls Tryd.prog 34 #[.agg #[.int .i64 kc, .string sc, .int .i64 kt, .string st, .slice A es.length c, .bool he, .int .i64 ke, .string se], .bool we] w (BuiltIf kc kt ke sc st se A c es he we w) := by
  have HX := Lib.hid hx
  have HL := Lib.hid hle
  have hbn := Blk.new w 48 #[.int .i64 kc, .string sc, .int .i64 kt, .string st, .slice A es.length c, .bool he, .int .i64 ke, .string se]
  have HBN := Lib.hid hbn
  have a1 := Lib.hid fun W => atom_any kc sc W h1
  have a2 := Lib.hid fun W => atom_any kt st W h2
  have a3 := Lib.hid fun W => atom_any ke se W h3
  obtain ⟨i0, hi, hz0, hz1, hz2⟩ := info_parts infoElif
  have hmk : ∀ W : World, (Instr.makeSlice 107 (.int .i64 (es.length : Int)) (.int .i64 (es.length : Int))).run Tryd.prog W = .ok (.slice (some ⟨W.heap.size, 0, none⟩) es.length es.length) (W.alloc (.cells (madeCells #[.pointer none] (es.length * 1)) 110)) := by
    intro W
    have h := run_make_rowN (P := Tryd.prog) 107 110 i0 _ Tryd.underlying107 hi hz0 .i64 .i64 es.length es.length (Nat.le_refl _) (by rw [hz2]; omega) (by omega) W
    rw [hz1] at h
    exact h
  clear hi hz0 hz1 hz2 i0 hx hle
  have d0 : (w.alloc (.cells #[.int .i64 kc, .string sc, .int .i64 kt, .string st, .slice A es.length c, .bool he, .int .i64 ke, .string se] 48)).cell? ⟨w.heap.size, 0, none⟩ = some (.int .i64 kc) := hbn.cell 0
  have d1 : (w.alloc (.cells #[.int .i64 kc, .string sc, .int .i64 kt, .string st, .slice A es.length c, .bool he, .int .i64 ke, .string se] 48)).cell? ⟨w.heap.size, 1, none⟩ = some (.string sc) := hbn.cell 1
  have d2 : (w.alloc (.cells #[.int .i64 kc, .string sc, .int .i64 kt, .string st, .slice A es.length c, .bool he, .int .i64 ke, .string se] 48)).cell? ⟨w.heap.size, 2, none⟩ = some (.int .i64 kt) := hbn.cell 2
  have d3 : (w.alloc (.cells #[.int .i64 kc, .string sc, .int .i64 kt, .string st, .slice A es.length c, .bool he, .int .i64 ke, .string se] 48)).cell? ⟨w.heap.size, 3, none⟩ = some (.string st) := hbn.cell 3
  have hb0 : Below w.heap.size w (w.alloc (.cells #[.int .i64 kc, .string sc, .int .i64 kt, .string st, .slice A es.length c, .bool he, .int .i64 ke, .string se] 48)) := (Below.refl _ _).alloc (Nat.le_refl _) _
  have HB0 := Lib.hid hb0
  have hws : (w.alloc (.cells #[.int .i64 kc, .string sc, .int .i64 kt, .string st, .slice A es.length c, .bool he, .int .i64 ke, .string se] 48)).heap.size = w.heap.size + 1 := by simp
  have HWS := Lib.hid hws
  clear hbn hb0 hws
  go_enter Tryd.func34, Tryd.ntmps34
  go_wp2_with fail
  go_region_held3 (fun W => W.cell? ⟨w.heap.size, 0, none⟩ = some (.int .i64 kc) ∧ W.cell? ⟨w.heap.size, 1, none⟩ = some (.string sc) ∧ W.cell? ⟨w.heap.size, 2, none⟩ = some (.int .i64 kt) ∧ W.cell? ⟨w.heap.size, 3, none⟩ = some (.string st))
    (first | exact ⟨d0, d1, d2, d3⟩ | exact kA.out | exact kB.out | exact ⟨(hBB.out.alloc _).cell 0, (hBB.out.alloc _).cell 1, (hBB.out.alloc _).cell 2, (hBB.out.alloc _).cell 3⟩)
    (first
      | (go_at_call 44; ((with_reducible refine (a1.out _).mono ?_); rintro eA wA ⟨qc, rfl, hQc, hbA⟩; have hBA := Lib.hid (HBN.out.drew.below hbA (by show w.heap.size < (w.alloc _).heap.size; simp)); have kA := Lib.hid (show wA.cell? ⟨w.heap.size, 0, none⟩ = some (.int .i64 kc) ∧ wA.cell? ⟨w.heap.size, 1, none⟩ = some (.string sc) ∧ wA.cell? ⟨w.heap.size, 2, none⟩ = some (.int .i64 kt) ∧ wA.cell? ⟨w.heap.size, 3, none⟩ = some (.string st) from ⟨hBA.out.cell 0, hBA.out.cell 1, hBA.out.cell 2, hBA.out.cell 3⟩)))
      | (go_at_call 44; ((with_reducible refine (a2.out _).mono ?_); rintro eB wB ⟨qt, rfl, hQt, hbB⟩; have hBB := Lib.hid (hBA.out.below hbB hBA.out.lt); have kB := Lib.hid (show wB.cell? ⟨w.heap.size, 0, none⟩ = some (.int .i64 kc) ∧ wB.cell? ⟨w.heap.size, 1, none⟩ = some (.string sc) ∧ wB.cell? ⟨w.heap.size, 2, none⟩ = some (.int .i64 kt) ∧ wB.cell? ⟨w.heap.size, 3, none⟩ = some (.string st) from ⟨hBB.out.cell 0, hBB.out.cell 1, hBB.out.cell 2, hBB.out.cell 3⟩))))
  have hM0 := Lib.hid (show Blk (wB.alloc (.cells #[.pointer (some ⟨qc, 0, none⟩), .pointer (some ⟨qt, 0, none⟩), .slice none 0 0, .pointer none] 109)) wB.heap.size 109 #[.pointer (some ⟨qc, 0, none⟩), .pointer (some ⟨qt, 0, none⟩), .slice none 0 0, .pointer none] from Blk.new _ _ _)
  have bbA : Below w.heap.size w wA := HB0.out.drew.trans (hbA.mono (by show w.heap.size ≤ (w.alloc _).heap.size; simp))
  have bbB : Below w.heap.size w wB := bbA.trans (hbB.mono bbA.size)
  have hAl : Below wB.heap.size wB (wB.alloc (.cells #[.pointer (some ⟨qc, 0, none⟩), .pointer (some ⟨qt, 0, none⟩), .slice none 0 0, .pointer none] 109)) := (Below.refl _ _).alloc (Nat.le_refl _) _
  have HQc := Lib.hid ((((QuIs.mono hbB.size (hQc.below hbB))).below hAl).mono hAl.size)
  have HQt := Lib.hid ((hQt.below hAl).mono hAl.size)
  have hBX := Lib.hid (hBB.out.alloc (.cells #[.pointer (some ⟨qc, 0, none⟩), .pointer (some ⟨qt, 0, none⟩), .slice none 0 0, .pointer none] 109))
  have hlt0 : w.heap.size < wB.heap.size := hBB.out.lt
  have bbX := bbB.trans (hAl.mono bbB.size)
  have d4 : wB.cell? ⟨w.heap.size, 4, none⟩ = some (.slice A es.length c) := hBB.out.cell 4
  have hHX := Lib.hid (HX.out.up bbX)
  clear kA kB d0 d1 d2 d3 hQc hQt hbA hbB hBA hAl bbA HB0 HWS
  by_cases hes : es.length = 0
  · obtain rfl : es = [] := List.eq_nil_of_length_eq_zero hes
    have M := Lib.hid (show Mid kc kt ke sc st se A c [] he w wB.heap.size qc qt none 0 (wB.alloc (.cells #[.pointer (some ⟨qc, 0, none⟩), .pointer (some ⟨qt, 0, none⟩), .slice none 0 0, .pointer none] 109)) from ⟨hM0.out, hBX.out, HQc.out, HQt.out, fun i x hx => by simp at hx, bbX, hlt0, fun g hg => by cases hg⟩)
    clear hes
    cases we
    · go_wp2_with fail
      go_ret
      exact ⟨_, rfl, mid_end M.out, bbX⟩
    · have d6 : wB.cell? ⟨w.heap.size, 6, none⟩ = some (.int .i64 ke) := hBB.out.cell 6
      have d7 : wB.cell? ⟨w.heap.size, 7, none⟩ = some (.string se) := hBB.out.cell 7
      go_wp2_with fail
      with_reducible refine (a3.out _).mono ?_
      rintro eC wC ⟨qe, rfl, hQe, hbC⟩
      have hC := hM0.out.below hbC (by simp)
      have c3 : wC.cell? ⟨wB.heap.size, 3, none⟩ = some (.pointer none) := hC.cell 3
      have f3 := hC.frozen 3
      obtain ⟨r1, r2⟩ := mid_else M.out hbC hQe
      have R1 := Lib.hid r1
      have R2 := Lib.hid r2
      clear r1 r2 hQe hC
      go_wp2_with fail
      go_ret
      exact ⟨_, rfl, R1.out, R2.out⟩
  · have hpos : 0 < es.length := by omega
    go_wp2_with fail
    clear hmk d4
    go_loopw [7] (fun iv wr => ∃ (j : Nat) (arr : Array Value), iv = .int .i64 j ∧ j ≤ es.length ∧ Hid (LR kc kt ke sc st se A c es he w wB.heap.size (wB.heap.size + 1) qc qt j arr wr)) (fun iv _ => es.length - (intOf iv).toNat)
    case atStart =>
      have hR : Below (wB.alloc (.cells #[.pointer (some ⟨qc, 0, none⟩), .pointer (some ⟨qt, 0, none⟩), .slice none 0 0, .pointer none] 109)).heap.size (wB.alloc (.cells #[.pointer (some ⟨qc, 0, none⟩), .pointer (some ⟨qt, 0, none⟩), .slice none 0 0, .pointer none] 109)) ((wB.alloc (.cells #[.pointer (some ⟨qc, 0, none⟩), .pointer (some ⟨qt, 0, none⟩), .slice none 0 0, .pointer none] 109)).alloc (.cells (madeCells #[.pointer none] es.length) 110)) := (Below.refl _ _).alloc (Nat.le_refl _) _
      exact ⟨0, _, rfl, Nat.zero_le _, Lib.hid ⟨Blk.at_ _ _ (by simp), by rw [size_madeCells], fun i x hi => absurd hi (by omega), hBX.out.alloc _, hM0.out.alloc _, (HQc.out.below hR).mono hR.size, (HQt.out.below hR).mono hR.size, bbX.trans (hR.mono bbX.size), hlt0, by omega⟩⟩
    case round =>
      obtain ⟨j, arr, rfl, hj, HR⟩ := hrel
      have d4 : wr.cell? ⟨w.heap.size, 4, none⟩ = some (.slice A es.length c) := HR.out.2.2.2.1.cell 4
      have hlw := Lib.hid HR.out.2.2.2.1.lt
      by_cases hlt : j < es.length
      · obtain ⟨g, o, rfl, hg, c0, c1, c2, c3⟩ := (HX.out.below HR.out.2.2.2.2.2.2.2.1) j _ (List.getElem?_eq_getElem hlt)
        have hlx := HL.out _ (List.getElem_mem hlt)
        have HG := Lib.hid (List.getElem?_eq_getElem hlt)
        obtain ⟨x, hxx⟩ : ∃ x, Hid (es[j] = x) := ⟨_, Lib.hid rfl⟩
        rw [hxx.out] at c0 c1 c2 c3 hlx HG
        have e1' := Lib.hid fun W => atom_any x.k1 x.s1 W hlx.1
        have e2' := Lib.hid fun W => atom_any x.k2 x.s2 W hlx.2
        clear hxx hlx
        have j0 : (0 : Int) ≤ j := by omega
        have j1 : (j : Int) < es.length := by omega
        have hcells := Lib.hid fun (W' : World) (ba : Below (w.heap.size + 1) wr W') => (show W'.cell? ⟨w.heap.size, 4, none⟩ = some (.slice (some ⟨g, o, none⟩) es.length c) ∧ W'.cell? ⟨g, o + j * 4, none⟩ = some (.int .i64 x.k1) ∧ W'.cell? ⟨g, o + j * 4 + 1, none⟩ = some (.string x.s1) ∧ W'.cell? ⟨g, o + j * 4 + 2, none⟩ = some (.int .i64 x.k2) ∧ W'.cell? ⟨g, o + j * 4 + 3, none⟩ = some (.string x.s2) from ⟨(ba.cell (p := ⟨w.heap.size, 4, none⟩) (Nat.lt_succ_self _)).trans d4, (ba.cell (p := ⟨g, _, none⟩) (Nat.lt_succ_of_lt hg)).trans c0, (ba.cell (p := ⟨g, _, none⟩) (Nat.lt_succ_of_lt hg)).trans c1, (ba.cell (p := ⟨g, _, none⟩) (Nat.lt_succ_of_lt hg)).trans c2, (ba.cell (p := ⟨g, _, none⟩) (Nat.lt_succ_of_lt hg)).trans c3⟩)
        go_wp2_with fail
        go_region_held3 (fun W => W.cell? ⟨w.heap.size, 4, none⟩ = some (.slice (some ⟨g, o, none⟩) es.length c) ∧ W.cell? ⟨g, o + j * 4, none⟩ = some (.int .i64 x.k1) ∧ W.cell? ⟨g, o + j * 4 + 1, none⟩ = some (.string x.s1) ∧ W.cell? ⟨g, o + j * 4 + 2, none⟩ = some (.int .i64 x.k2) ∧ W.cell? ⟨g, o + j * 4 + 3, none⟩ = some (.string x.s2))
          (first | exact ⟨d4, c0, c1, c2, c3⟩ | exact hcells.out _ kC.out | exact hcells.out _ kD.out | exact hcells.out _ (kD.out.alloc kG.out _) | exact hcells.out _ ((kD.out.setCell kR.out _).alloc (by simpa [World.setCell] using kG.out) _))
          (first
            | (go_at_call 44; ((with_reducible refine (e1'.out _).mono ?_); rintro eC wC ⟨qa, rfl, hQa, hbC⟩; have bbC := ((Below.refl wr.heap.size wr).drew).trans (show Below wr.heap.size wr.drew wC from hbC); have kC := Lib.hid (bbC.mono (show w.heap.size + 1 ≤ wr.heap.size from hlw.out))))
            | (go_at_call 44; ((with_reducible refine (e2'.out _).mono ?_); rintro eD wD ⟨qb, rfl, hQb, hbD⟩; have bbD := bbC.trans (hbD.mono bbC.size); have hRD := HR.out.1.below bbD HR.out.1.lt; have hRlt := hRD.lt; have hjs : j < arr.size := (by rw [HR.out.2.1]; exact hlt); obtain ⟨o0, q0⟩ : ∃ u, wD.cell? ⟨wB.heap.size + 1, j, none⟩ = some u := ⟨_, (hRD.cell _).trans (Array.getElem?_eq_getElem hjs)⟩; have f0 := hRD.frozen j; have HBD := Lib.hid bbD; have HQa := Lib.hid ((hQa.below hbD).mono hbD.size); have HQb := Lib.hid hQb; have kD := Lib.hid (bbD.mono (show w.heap.size + 1 ≤ wr.heap.size from hlw.out)); have kG := Lib.hid (Nat.le_trans (show w.heap.size + 1 ≤ wr.heap.size from hlw.out) bbD.size); have kR := Lib.hid (show w.heap.size + 1 ≤ wB.heap.size + 1 by omega); clear hRD hQb bbD hjs)))
        go_wp2_with fail
        go_roundw
        case rel => exact ⟨j + 1, _, by go_num, by omega, Lib.hid (lr_next HR.out HBD.out HG.out HQa.out HQb.out)⟩
        case measure => simp [intOf]; omega
      · obtain rfl : j = es.length := by omega
        have hI := HR.out.2.2.2.2.1
        have c2 : wr.cell? ⟨wB.heap.size, 2, none⟩ = some (.slice none 0 0) := hI.cell 2
        have f2 := hI.frozen 2
        have M := Lib.hid (lr_end HR.out)
        have hne : wB.heap.size ≠ w.heap.size := by omega
        clear hI
        cases we
        · go_wp2_with fail
          go_ret
          exact ⟨_, rfl, mid_end M.out, M.out.2.2.2.2.2.1⟩
        · have d6 : wr.cell? ⟨w.heap.size, 6, none⟩ = some (.int .i64 ke) := HR.out.2.2.2.1.cell 6
          have d7 : wr.cell? ⟨w.heap.size, 7, none⟩ = some (.string se) := HR.out.2.2.2.1.cell 7
          go_wp2_with fail
          with_reducible refine (a3.out _).mono ?_
          rintro eC wC ⟨qe, rfl, hQe, hbC⟩
          have hC := M.out.1.below hbC M.out.1.lt
          have c3 : wC.cell? ⟨wB.heap.size, 3, none⟩ = some (.pointer none) := hC.cell 3
          have f3 := hC.frozen 3
          obtain ⟨r1, r2⟩ := mid_else M.out hbC hQe
          have R1 := Lib.hid r1
          have R2 := Lib.hid r2
          clear r1 r2 hQe hC c2 f2 d4 d6 d7
          go_wp2_with fail
          go_ret
          exact ⟨_, rfl, R1.out, R2.out⟩
end Go.Proofs.YtooalmhelfaodaaDoor
