/- The walk of FnScopeStackSaveRestoreBacktracks: true at every script. -/
import Derived.Test.YtbkakiipaehleaaStk9
namespace Go.Proofs.Ytbkakiipaehleaa
open Go.RowKit
set_option maxRecDepth 100000
set_option linter.unusedVariables false
theorem infoIn : (Try.prog.info? 3).map (fun i => (i.zero, i.size, i.bytes)) = some (some (.int .i64 0), 1, 8) := by kernel_rfl
theorem infoSl : (Try.prog.info? 27).map (fun i => (i.zero, i.size, i.bytes)) = some (some (.slice none 0 0), 1, 24) := by kernel_rfl
def scRow (V : Value) (m : List Sc) : Own := ⟨31, 5, V, m.length, flat sc5 m⟩
def inRow (V : Value) (xs : List Value) : Own := ⟨3, 1, V, xs.length, xs⟩
def slRow (V : Value) (xs : List Value) : Own := ⟨27, 1, V, xs.length, xs⟩
def snaps : List (Sv Sc) → List Value → List Own
  | s :: sv, v :: vs => scRow v s.snap :: snaps sv vs
  | _, _ => []
def idxs (sv : List (Sv Sc)) : List Value := (sv.reverse).map fun s => .int .i64 s.idx
def lims (sv : List (Sv Sc)) : List Value := (sv.reverse).map fun s => .int .i64 s.lim
theorem idxs_cons (s : Sv Sc) (sv : List (Sv Sc)) : idxs (s :: sv) = idxs sv ++ [.int .i64 s.idx] := by simp [idxs]
theorem lims_cons (s : Sv Sc) (sv : List (Sv Sc)) : lims (s :: sv) = lims sv ++ [.int .i64 s.lim] := by simp [lims]
theorem idxs_len (sv : List (Sv Sc)) : (idxs sv).length = sv.length := by simp [idxs]
theorem lims_len (sv : List (Sv Sc)) : (lims sv).length = sv.length := by simp [lims]
theorem snaps_e : ∀ (sv : List (Sv Sc)) (vs : List Value), ∀ r ∈ snaps sv vs, r.e = 31
  | s :: sv, v :: vs, r, hr => by
    rcases List.mem_cons.1 (show r ∈ scRow v s.snap :: snaps sv vs from hr) with rfl | hr
    · rfl
    · exact snaps_e sv vs r hr
  | [], _, r, hr => by simp [snaps] at hr
  | _ :: _, [], r, hr => by simp [snaps] at hr
def rowsOf (V VI VL VS : Value) (m : List Sc) (sv : List (Sv Sc)) (vs : List Value) : List Own :=
  scRow V m :: inRow VI (idxs sv) :: inRow VL (lims sv) :: slRow VS vs.reverse :: snaps sv vs
theorem rows_e (V VI VL VS : Value) (m : List Sc) (sv : List (Sv Sc)) (vs : List Value) : ∀ r ∈ rowsOf V VI VL VS m sv vs, r.e ≠ 148 ∧ r.e ≠ 161 := by
  intro r hr
  simp only [rowsOf, List.mem_cons] at hr
  rcases hr with rfl | rfl | rfl | rfl | hr
  · exact ⟨by show 31 ≠ 148; decide, by show 31 ≠ 161; decide⟩
  · exact ⟨by show 3 ≠ 148; decide, by show 3 ≠ 161; decide⟩
  · exact ⟨by show 3 ≠ 148; decide, by show 3 ≠ 161; decide⟩
  · exact ⟨by show 27 ≠ 148; decide, by show 27 ≠ 161; decide⟩
  · rw [snaps_e sv vs r hr]
    exact ⟨by decide, by decide⟩
/-- what stands between two steps of the script -/
structure SR (w0 w : World) (V VI VL VS : Value) (m : List Sc) (sv : List (Sv Sc)) (vs : List Value) (ii L : Int) (j : Nat) : Prop where
  st : ST w w0.heap.size w0.heap.size ii L m sv j
  rows : OwnAll w w0.heap.size (rowsOf V VI VL VS m sv vs)
  bel : Below w0.heap.size w0 w
  ml : m.length ≤ j
  sl : ∀ s ∈ sv, s.snap.length ≤ j
  vl : vs.length = sv.length
  s32 : sv.length ≤ 32
theorem SR.model {w0 w : World} {V VI VL VS : Value} {m : List Sc} {sv : List (Sv Sc)} {vs : List Value} {ii L : Int} {j : Nat} (h : SR w0 w V VI VL VS m sv vs ii L j) : w.ownsRow w0.heap.size 31 5 V m.length (flat sc5 m) := h.rows.1 (scRow V m) (by simp [rowsOf])
theorem SR.ri {w0 w : World} {V VI VL VS : Value} {m : List Sc} {sv : List (Sv Sc)} {vs : List Value} {ii L : Int} {j : Nat} (h : SR w0 w V VI VL VS m sv vs ii L j) : w.ownsRow w0.heap.size 3 1 VI sv.length (idxs sv) := by
  have := h.rows.1 (inRow VI (idxs sv)) (by simp [rowsOf])
  simp only [Own.is, inRow, idxs_len] at this
  exact this
theorem SR.rl {w0 w : World} {V VI VL VS : Value} {m : List Sc} {sv : List (Sv Sc)} {vs : List Value} {ii L : Int} {j : Nat} (h : SR w0 w V VI VL VS m sv vs ii L j) : w.ownsRow w0.heap.size 3 1 VL sv.length (lims sv) := by
  have := h.rows.1 (inRow VL (lims sv)) (by simp [rowsOf])
  simp only [Own.is, inRow, lims_len] at this
  exact this
theorem SR.rs {w0 w : World} {V VI VL VS : Value} {m : List Sc} {sv : List (Sv Sc)} {vs : List Value} {ii L : Int} {j : Nat} (h : SR w0 w V VI VL VS m sv vs ii L j) : w.ownsRow w0.heap.size 27 1 VS sv.length vs.reverse := by
  have := h.rows.1 (slRow VS vs.reverse) (by simp [rowsOf])
  simp only [Own.is, slRow, List.length_reverse, h.vl] at this
  exact this
theorem SR.next {w0 w : World} {V VI VL VS : Value} {m : List Sc} {sv : List (Sv Sc)} {vs : List Value} {ii L : Int} {j : Nat} (h : SR w0 w V VI VL VS m sv vs ii L j) : SR w0 w V VI VL VS m sv vs ii L (j + 1) :=
  ⟨h.st.mono (by omega), h.rows, h.bel, by have := h.ml; omega, fun s hs => by have := h.sl s hs; omega, h.vl, h.s32⟩
/-- the push of x on stack and model both: w4 behind zzPush, w5 behind the append -/
theorem SR.push {w0 w w4 w5 : World} {V VI VL VS V5 : Value} {m : List Sc} {sv : List (Sv Sc)} {vs : List Value} {ii i4 L : Int} {j : Nat} {x : Sc} {o o2 o3 : Obj} {H : Nat} (h : SR w0 w V VI VL VS m sv vs ii L j)
    (hs4 : ST w4 w0.heap.size w0.heap.size i4 L (m ++ [x]) sv (j + 1)) (hb4 : Below w0.heap.size ((w.alloc o).alloc o2) w4) (hk4 : Lib.OthersKept 161 (some w0.heap.size) ((w.alloc o).alloc o2) w4)
    (hg : (w4.alloc o3).grownBy w5 V.ownBlock) (h5 : w5.ownsRow w0.heap.size 31 5 V5 (m.length + 1) (flat sc5 m ++ sc5 x)) (hat : V5.ownBlock = V.ownBlock ∨ ∃ H, (w4.alloc o3).heap.size ≤ H ∧ V5.ownBlock = some H) :
    SR w0 w5 V5 VI VL VS (m ++ [x]) sv vs i4 L (j + 1) := by
  obtain ⟨cs, hSB⟩ := h.st.blk
  have r4 := (((h.rows.alloc o).alloc o2).kept ((hSB.alloc o).alloc o2) hk4 (rows_e _ _ _ _ _ _ _)).alloc o3
  have m4 : (w4.alloc o3).ownsRow w0.heap.size 31 5 V m.length (flat sc5 m) := r4.1 (scRow V m) (by simp [rowsOf])
  have hbz := h.bel.size
  have hb4' : Below w0.heap.size w0 w4 := ((h.bel.alloc hbz _).alloc (by simp; omega) _).trans hb4
  have hbz4 := hb4'.size
  refine ⟨(hs4.alloc o3).grown m4 (by decide) (by decide) hg, ?_, (hb4'.alloc hbz4 _).grown hg (by simp; omega) (fun k hk => (m4.lt k hk).1), ?_, fun s hs => ?_, h.vl, h.s32⟩
  · refine OwnAll.grownAt [] (r := scRow V m) (r' := scRow V5 (m ++ [x])) r4 hg ?_ hat
    show w5.ownsRow _ _ _ _ _ _
    simp only [scRow]
    rw [List.length_append, flat_snoc]
    exact h5
  · have := h.ml
    simp; omega
  · have := h.sl s hs; omega
/-- the pop of both -/
theorem SR.pop {w0 w w4 : World} {VI VL VS : Value} {g cap : Nat} {m : List Sc} {sv : List (Sv Sc)} {vs : List Value} {ii i4 L : Int} {j : Nat} {x : Sc} {o : Obj} (h : SR w0 w (.slice (some ⟨g, 0, none⟩) (m.length + 1) cap) VI VL VS (m ++ [x]) sv vs ii L j)
    (hs4 : ST w4 w0.heap.size w0.heap.size i4 L m sv j) (hb4 : Below w0.heap.size (w.alloc o) w4) (hk4 : Lib.OthersKept 161 (some w0.heap.size) (w.alloc o) w4) :
    SR w0 w4 (.slice (some ⟨g, 0, none⟩) m.length cap) VI VL VS m sv vs i4 L j := by
  obtain ⟨cs, hSB⟩ := h.st.blk
  have r4 := (h.rows.alloc o).kept (hSB.alloc o) hk4 (rows_e _ _ _ _ _ _ _)
  have m4 := r4.1 (scRow _ (m ++ [x])) (by simp [rowsOf]; exact .inl rfl)
  have hbz := h.bel.size
  have hml := h.ml
  simp only [List.length_append, List.length_singleton] at hml
  refine ⟨hs4, ?_, (h.bel.alloc hbz _).trans hb4, by omega, h.sl, h.vl, h.s32⟩
  refine OwnAll.sameAt [] (r := scRow _ (m ++ [x])) (r' := scRow _ m) r4 ?_ rfl
  simp only [Own.is, scRow, List.length_append, List.length_singleton] at m4
  obtain ⟨g', cap', hV, _, _, h6⟩ := own_last m4
  injection hV with h1 h2 h3
  subst h3
  injection h1 with h1
  injection h1 with h1
  subst h1
  exact h6
theorem last_cell {w : World} {base g n cap : Nat} {e : TypeId} {xs : List Value} {u : Value} (hn : xs.length = n) (h : w.ownsRow base e 1 (.slice (some ⟨g, 0, none⟩) (n + 1) cap) (n + 1) (xs ++ [u])) : w.cell? ⟨g, n, none⟩ = some u := by
  have h3 := h.cells (g := g) rfl n u (by simp [← hn])
  rw [Go.WideShapes.add_plain, Nat.zero_add] at h3
  exact h3
theorem take_row {w : World} {base g n cap : Nat} {e : TypeId} {xs : List Value} {u : Value} (hn : xs.length = n) (h : w.ownsRow base e 1 (.slice (some ⟨g, 0, none⟩) (n + 1) cap) (n + 1) (xs ++ [u])) : w.ownsRow base e 1 (.slice (some ⟨g, 0, none⟩) n cap) n xs := by
  have := owns_take h n (by omega)
  rw [Nat.mul_one, ← hn, List.take_left] at this
  rw [← hn]
  exact this
/-- the restore of both -/
theorem SR.restore {w0 w w4 : World} {V v : Value} {gI cI gL cL gS cS : Nat} {m : List Sc} {s : Sv Sc} {sv : List (Sv Sc)} {vs : List Value} {ii L : Int} {j : Nat} {cs : Array Value} (h : SR w0 w V (.slice (some ⟨gI, 0, none⟩) (sv.length + 1) cI) (.slice (some ⟨gL, 0, none⟩) (sv.length + 1) cL) (.slice (some ⟨gS, 0, none⟩) (sv.length + 1) cS) m (s :: sv) (v :: vs) ii L j)
    (hSB : Blk w w0.heap.size 148 cs) (hs4 : ST w4 w0.heap.size w0.heap.size s.idx s.lim s.snap sv j) (hb4 : Below w0.heap.size w.drew w4) (hk4 : Lib.OthersKept 161 (some w0.heap.size) w.drew w4) :
    SR w0 w4 v (.slice (some ⟨gI, 0, none⟩) sv.length cI) (.slice (some ⟨gL, 0, none⟩) sv.length cL) (.slice (some ⟨gS, 0, none⟩) sv.length cS) s.snap sv vs s.idx s.lim j := by
  have hvl : vs.length = sv.length := by have := h.vl; simpa using this
  have r0 : OwnAll w4 w0.heap.size (rowsOf _ _ _ _ m (s :: sv) (v :: vs)) := OwnAll.kept (w := w.drew) h.rows hSB.drew hk4 (rows_e _ _ _ _ _ _ _)
  have r1 := r0.tail
  have r2 := r1.perm (List.perm_middle (l₁ := [inRow (.slice (some ⟨gI, 0, none⟩) (sv.length + 1) cI) (idxs (s :: sv)), inRow (.slice (some ⟨gL, 0, none⟩) (sv.length + 1) cL) (lims (s :: sv)), slRow (.slice (some ⟨gS, 0, none⟩) (sv.length + 1) cS) (v :: vs).reverse]))
  have i1 := r2.1 (inRow (.slice (some ⟨gI, 0, none⟩) (sv.length + 1) cI) (idxs (s :: sv))) (by simp)
  have i2 := r2.1 (inRow (.slice (some ⟨gL, 0, none⟩) (sv.length + 1) cL) (lims (s :: sv))) (by simp)
  have i3 := r2.1 (slRow (.slice (some ⟨gS, 0, none⟩) (sv.length + 1) cS) (v :: vs).reverse) (by simp)
  simp only [Own.is, inRow, idxs_len, List.length_cons] at i1
  simp only [Own.is, inRow, lims_len, List.length_cons] at i2
  simp only [Own.is, slRow, List.length_reverse, List.length_cons, hvl] at i3
  rw [idxs_cons] at i1
  rw [lims_cons] at i2
  rw [List.reverse_cons] at i3
  have r3 := r2.sameAt [scRow v s.snap] (r' := inRow (.slice (some ⟨gI, 0, none⟩) sv.length cI) (idxs sv)) (by show World.ownsRow _ _ _ _ _ _ _; simp only [inRow]; rw [idxs_len]; exact take_row (idxs_len sv) i1) rfl
  have r4 := r3.sameAt [scRow v s.snap, inRow (.slice (some ⟨gI, 0, none⟩) sv.length cI) (idxs sv)] (r' := inRow (.slice (some ⟨gL, 0, none⟩) sv.length cL) (lims sv)) (by show World.ownsRow _ _ _ _ _ _ _; simp only [inRow]; rw [lims_len]; exact take_row (lims_len sv) i2) rfl
  have r5 := r4.sameAt [scRow v s.snap, inRow (.slice (some ⟨gI, 0, none⟩) sv.length cI) (idxs sv), inRow (.slice (some ⟨gL, 0, none⟩) sv.length cL) (lims sv)] (r' := slRow (.slice (some ⟨gS, 0, none⟩) sv.length cS) vs.reverse) (by show World.ownsRow _ _ _ _ _ _ _; simp only [slRow]; rw [List.length_reverse, hvl]; exact take_row (by rw [List.length_reverse, hvl]) i3) rfl
  have h32 := h.s32
  simp only [List.length_cons] at h32
  exact ⟨hs4, r5, (h.bel.drew).trans hb4, h.sl s (by simp), fun x hx => h.sl x (by simp [hx]), hvl, by omega⟩
/-- stack, rows, and what came in -/
structure Tri (w0 w : World) (ii L : Int) (m : List Sc) (sv : List (Sv Sc)) (j : Nat) (rs : List Own) : Prop where
  st : ST w w0.heap.size w0.heap.size ii L m sv j
  rows : OwnAll w w0.heap.size rs
  bel : Below w0.heap.size w0 w
theorem Tri.app {w0 w w' : World} {ii L : Int} {m : List Sc} {sv : List (Sv Sc)} {j g H : Nat} {o : Obj} (l : List Own) {r : Own} (r' : Own) {rs : List Own} (h : Tri w0 w ii L m sv j (l ++ r :: rs)) (h1 : r.e ≠ 148) (h2 : r.e ≠ 161)
    (hg : (w.alloc o).grownBy w' r.V.ownBlock) (h' : r'.is w' w0.heap.size) (hat : r.V.ownBlock = some g ∨ g = H) (hH : (w.alloc o).heap.size = H) (hr : r'.V.ownBlock = some g) : Tri w0 w' ii L m sv j (l ++ r' :: rs) := by
  have hr0 : (w.alloc o).ownsRow w0.heap.size r.e r.size r.V r.n r.xs := World.ownsRow.alloc (h.rows.1 r (by simp)) o
  have hbz := h.bel.size
  refine ⟨(h.st.alloc o).grown hr0 h1 h2 hg, (h.rows.alloc o).grownAt l hg h' ?_, (h.bel.alloc hbz _).grown hg (by simp; omega) (fun k hk => (hr0.lt k hk).1)⟩
  rcases hat with hat | hat
  · exact .inl (hr.trans hat.symm)
  · exact .inr ⟨g, by omega, hr⟩
theorem ST.below {w w' : World} {base SB : Nat} {i L : Int} {m : List Sc} {sv : List (Sv Sc)} {n : Nat} (h : ST w base SB i L m sv n) (hb : Below w.heap.size w w') : ST w' base SB i L m sv n := by
  obtain ⟨D, ds, hs, hk, hl⟩ := h
  exact ⟨D, ds, ⟨hs.s.below hb hs.s.lt, owns_below hs.o hb⟩, hk, hl⟩
theorem ST.drew {w : World} {base SB : Nat} {i L : Int} {m : List Sc} {sv : List (Sv Sc)} {n : Nat} (h : ST w base SB i L m sv n) : ST w.drew base SB i L m sv n := by
  obtain ⟨D, ds, hs, hk, hl⟩ := h
  exact ⟨D, ds, ⟨hs.s.drew, hs.o⟩, hk, hl⟩
theorem made_nil (z : Array Value) : madeCells z 0 = #[] := Array.eq_empty_of_size_eq_zero (size_madeCells _ _)
set_option maxHeartbeats 8000000 in
theorem law_save (A A' : Option Addr) (c c' : Nat) (os vs : List Int) (w : World) (ho : RdAt w w.heap.size A (vBs os)) (hob : ∀ x ∈ os, 0 ≤ x ∧ x ≤ 255) (hv : RdAt w w.heap.size A' (vInts vs)) :
    Calls Try.prog 3 #[.slice A os.length c, .slice A' vs.length c'] w fun e w' => e = .returned (.bool true) ∧ Below w.heap.size w w' := by
  have hzz := Lib.hid (zzb_save A A' c c' os.length vs.length w)
  obtain ⟨i0, hi, hz0, hz1, hz2⟩ := info_parts infoZs
  obtain ⟨j0, gi, gz0, gz1, gz2⟩ := info_parts infoIn
  obtain ⟨k0, ki, kz0, kz1, kz2⟩ := info_parts infoSl
  have HO := Lib.hid ho
  have HOB := Lib.hid hob
  have HV := Lib.hid hv
  have HI := Lib.hid hi
  have HZ0 := Lib.hid hz0
  have HZ1 := Lib.hid hz1
  have HZ2 := Lib.hid hz2
  have GI := Lib.hid gi
  have GZ0 := Lib.hid gz0
  have GZ1 := Lib.hid gz1
  have GZ2 := Lib.hid gz2
  have KI := Lib.hid ki
  have KZ0 := Lib.hid kz0
  have KZ1 := Lib.hid kz1
  have KZ2 := Lib.hid kz2
  have hmk : ∀ W : World, (Instr.makeSlice 27 (.int .i64 0) (.int .i64 0)).run Try.prog W = .ok (.slice (some ⟨W.heap.size, 0, none⟩) 0 0) (W.alloc (.cells #[] 31)) := by
    intro W
    have h := run_make_rowN (P := Try.prog) 27 31 i0 _ Try.underlying27 hi hz0 .i64 .i64 0 0 (by omega) (by rw [hz2]; omega) (by omega) W
    rw [hz1, Nat.zero_mul, made_nil] at h
    exact h
  have hmk2 : ∀ W : World, (Instr.makeSlice 23 (.int .i64 0) (.int .i64 0)).run Try.prog W = .ok (.slice (some ⟨W.heap.size, 0, none⟩) 0 0) (W.alloc (.cells #[] 3)) := by
    intro W
    have h := run_make_rowN (P := Try.prog) 23 3 j0 _ Try.underlying23 gi gz0 .i64 .i64 0 0 (by omega) (by rw [gz2]; omega) (by omega) W
    rw [gz1, Nat.zero_mul, made_nil] at h
    exact h
  have hmk3 : ∀ W : World, (Instr.makeSlice 28 (.int .i64 0) (.int .i64 0)).run Try.prog W = .ok (.slice (some ⟨W.heap.size, 0, none⟩) 0 0) (W.alloc (.cells #[] 27)) := by
    intro W
    have h := run_make_rowN (P := Try.prog) 28 27 k0 _ Try.underlying28 ki kz0 .i64 .i64 0 0 (by omega) (by rw [kz2]; omega) (by omega) W
    rw [kz1, Nat.zero_mul, made_nil] at h
    exact h
  clear ho hob hv hi hz0 hz1 hz2 gi gz0 gz1 gz2 ki kz0 kz1 kz2
  go_enter Try.func3, Try.ntmps3
  go_wp2_with fail
  with_reducible refine (hzz.out).mono ?_
  rintro e0 w0 ⟨b, rfl, rfl, hb⟩
  cases b
  · clear hb
    go_wp2_with fail
    go_ret
    exact ⟨rfl, Below.refl _ _⟩
  · have hb := hb rfl
    by_cases h1 : os.length + 8 * vs.length ≤ 1048576
    · by_cases h2 : os.length ≤ 8192
      · have hst := Lib.hid (zz_stack w)
        go_wp2_with fail
        with_reducible refine (hst.out).mono ?_
        rintro e1 w1 ⟨rfl, hs1, hb1, hsz1⟩
        have hz1' : w.heap.size ≤ w1.heap.size := hb1.size
        have row : ∀ (W : World) (e size k), W.heap.size = k → w.heap.size ≤ k → (W.alloc (.cells #[] e)).ownsRow w.heap.size e size (.slice (some ⟨k, 0, none⟩) 0 0) 0 [] := fun W e size k hk h => by subst hk; exact World.ownsRow_made _ _ _ h (by unfold maxLen; omega) (by simp)
        have SR0 : Hid (SR w ((((w1.alloc (.cells #[] 31)).alloc (.cells #[] 3)).alloc (.cells #[] 3)).alloc (.cells #[] 27)) (.slice (some ⟨w1.heap.size, 0, none⟩) 0 0) (.slice (some ⟨w1.heap.size + 1, 0, none⟩) 0 0) (.slice (some ⟨w1.heap.size + 1 + 1, 0, none⟩) 0 0) (.slice (some ⟨w1.heap.size + 1 + 1 + 1, 0, none⟩) 0 0) [] [] [] (-1) (-1) 0) := by
          refine ⟨(((hs1.alloc _).alloc _).alloc _).alloc _, ⟨fun r hr => ?_, ?_⟩, (((hb1.alloc hz1' _).alloc (by simp; omega) _).alloc (by simp; omega) _).alloc (by simp; omega) _, by simp, (fun s hs => by cases hs), rfl, by simp⟩
          · simp only [rowsOf, snaps, List.mem_cons, List.not_mem_nil, or_false] at hr
            rcases hr with rfl | rfl | rfl | rfl
            · exact (((row w1 31 5 _ rfl hz1').alloc _).alloc _).alloc _
            · exact ((row (w1.alloc _) 3 1 (w1.heap.size + 1) (by simp) (by omega)).alloc _).alloc _
            · have := (row ((w1.alloc (.cells #[] 31)).alloc (.cells #[] 3)) 3 1 (w1.heap.size + 1 + 1) (by simp) (by omega)).alloc (.cells #[] 27)
              exact this
            · exact row (((w1.alloc (.cells #[] 31)).alloc (.cells #[] 3)).alloc (.cells #[] 3)) 27 1 (w1.heap.size + 1 + 1 + 1) (by simp) (by omega)
          · simp [rowsOf, snaps, Apart, scRow, inRow, slRow, Value.ownBlock]
            omega
        clear hs1 hsz1 row
        go_wp2_with fail
        clear hmk hmk2 hmk3
        go_loopw [6, 7, 8, 9, 10] (fun s si sl ss i wr => ∃ (j : Nat) (m : List Sc) (sv : List (Sv Sc)) (vv : List Value) (ii L : Int), i = .int .i64 j ∧ j ≤ os.length ∧ SR w wr s si sl ss m sv vv ii L j) (fun _ _ _ _ i _ => os.length - (intOf i).toNat)
        case atStart => exact ⟨0, [], [], [], _, _, rfl, by omega, SR0.out⟩
        case round =>
          obtain ⟨j, m, sv, vv, ii, L, rfl, hj, hR⟩ := hrel
          have hbz := hR.bel.size
          have hmj := hR.ml
          have hs32 := hR.s32
          obtain ⟨AV, capV, rfl, hAV⟩ := own_open2 hR.model
          obtain ⟨AI, capI, rfl, hAI⟩ := own_open2 hR.ri
          obtain ⟨AL, capL, rfl, hAL⟩ := own_open2 hR.rl
          obtain ⟨AS, capS, rfl, hAS⟩ := own_open2 hR.rs
          have HR := Lib.hid hR
          have HAV := Lib.hid hAV
          have HAI := Lib.hid hAI
          have HAL := Lib.hid hAL
          have HAS := Lib.hid hAS
          clear hAV hAI hAL hAS
          by_cases hlt : j < os.length
          · obtain ⟨b, hbb⟩ : ∃ b, decide (m.length = 0) = b := ⟨_, rfl⟩
            have hem := zz_empty w.heap.size w.heap.size ii L m sv j wr hR.st
            rw [hbb] at hem
            have hbe : ((m.length : Int) == 0) = b := by rw [← hbb]; rw [Bool.eq_iff_iff]; simp
            have hbn : (b != b) = false := by simp
            have HEM := Lib.hid hem
            have HBB := Lib.hid hbb
            obtain ⟨g, o, rfl, hg, c1⟩ := HO.out j _ (vBs_at os j hlt)
            obtain ⟨x8, hx8⟩ : ∃ x, Hid (os[j] = x) := ⟨_, Lib.hid rfl⟩
            rw [hx8.out] at c1
            have hx8b := HOB.out os[j] (List.getElem_mem hlt)
            rw [hx8.out] at hx8b
            obtain ⟨hx80, hx81⟩ := hx8b
            have c0 := ((bcell hR.bel).1 g (o + j) hg).trans c1
            clear hem hbb hR c1
            by_cases hp0 : x8 % 4 = 0
            · have hmake := Lib.hid (make_any w.heap.size A' c' vs j m.length wr (HV.out.below HR.out.bel) hbz (by omega) (by omega))
              go_wp2_with fail
              with_reducible refine (HEM.out).mono ?_
              rintro e2 w2 ⟨rfl, rfl⟩
              go_wp2_with fail
              with_reducible refine (hmake.out).mono ?_
              rintro e3 w3 ⟨x, ob, rfl, rfl⟩
              have hpu := Lib.hid (zzPush_any w.heap.size w.heap.size ii L m sv j x ((wr.alloc ob).alloc (.cells #[.int .i64 x.a, .int .i64 x.b, .int .i64 x.c, .int .i64 x.d, .int .i64 x.e] 31)) ((HR.out.st.alloc _).alloc _) (Nat.le_refl _) (by omega))
              go_wp2_with fail
              with_reducible refine (hpu.out).mono ?_
              rintro e4 w4 ⟨rfl, ⟨i4, hs4⟩, hb4, hk4⟩
              obtain ⟨cs, hSB⟩ := HR.out.st.blk
              have ho4 := owns_kept ((HR.out.model.alloc ob).alloc (.cells #[.int .i64 x.a, .int .i64 x.b, .int .i64 x.c, .int .i64 x.d, .int .i64 x.e] 31)) ((hSB.alloc _).alloc _) hk4 (by decide) (by decide)
              have hx4 := (Blk.at_ (w := wr.alloc ob) (k := wr.heap.size + 1) 31 #[.int .i64 x.a, .int .i64 x.b, .int .i64 x.c, .int .i64 x.d, .int .i64 x.e] (by simp)).kept hk4 (by intro e; injection e with e; omega) (by decide)
              have hbb4 : Below w.heap.size w w4 := ((HR.out.bel.alloc hbz _).alloc (by simp; omega) _).trans hb4
              have x0 : w4.cell? ⟨wr.heap.size + 1, 0, none⟩ = some (.int .i64 x.a) := hx4.cell 0
              have x1 : w4.cell? ⟨wr.heap.size + 1, 1, none⟩ = some (.int .i64 x.b) := hx4.cell 1
              have x2 : w4.cell? ⟨wr.heap.size + 1, 2, none⟩ = some (.int .i64 x.c) := hx4.cell 2
              have x3 : w4.cell? ⟨wr.heap.size + 1, 3, none⟩ = some (.int .i64 x.d) := hx4.cell 3
              have x4 : w4.cell? ⟨wr.heap.size + 1, 4, none⟩ = some (.int .i64 x.e) := hx4.cell 4
              have hbz4 := hbb4.size
              have HS4 := Lib.hid hs4
              have HB4 := Lib.hid hb4
              have HK4 := Lib.hid hk4
              have HO4 := Lib.hid ho4
              clear hs4 ho4 hx4 hk4 hb4 hSB c0
              go_wp2_with (at_builtin; refine wpList_append_lies _ rfl (.tmp 64) (.tmp 66) 27 rfl w.heap.size 31 i0 (.agg #[.int .i64 0, .int .i64 0, .int .i64 0, .int .i64 0, .int .i64 0]) 5 40 Try.underlying27 HI.out HZ0.out HZ1.out HZ2.out rfl (by decide) (.slice AV m.length capV) m.length (flat sc5 m) rfl (HO4.out.alloc _) ⟨w4.heap.size, 0, none⟩ 1 1 (sc5 x) rfl rfl ?c1 (one_sc _) (by omega) ?c3 ?c4 ?c5 _ rfl ?_)
              case c1 => exact row_cells (w := w4) (sc5 x) 31 rfl
              case c3 => unfold maxLen; omega
              case c4 => omega
              case c5 => simp; omega
              intro g5 cap5 w5 hown5 hgrow5 hat5 hlt5
              have HR5 := Lib.hid (HR.out.push (H := 0) HS4.out HB4.out HK4.out hgrow5 hown5 (hat5.elim (fun h => .inl h.symm) (fun h => .inr ⟨g5, by rw [h]; simp, rfl⟩)))
              clear hown5 hgrow5 hat5
              go_wp2_with fail
              go_roundw
              case rel => exact ⟨j + 1, m ++ [x], sv, vv, i4, L, by go_num, by omega, HR5.out⟩
              case measure => simp [intOf]; omega
            · by_cases hp1 : x8 % 4 = 1
              · by_cases hm0 : 0 < m.length
                · obtain ⟨m', x, rfl⟩ : ∃ m' x, m = m' ++ [x] := by
                    rcases List.eq_nil_or_concat m with rfl | ⟨m', x, rfl⟩
                    · simp at hm0
                    · exact ⟨m', x, by simp⟩
                  have hlen : (m' ++ [x]).length = m'.length + 1 := by simp
                  have hbf : b = false := by rw [← HBB.out]; simp
                  subst hbf
                  clear hbe hbn
                  have hbe : ((m'.length : Int) + 1 == 0) = false := by simp; omega
                  have HOWN := HR.out.model
                  rw [hlen] at HR HOWN hmj ⊢
                  obtain ⟨gV, capV', hVV, hcap, hgl, hown'⟩ := own_last HOWN
                  obtain ⟨rfl, rfl⟩ : AV = some ⟨gV, 0, none⟩ ∧ capV = capV' := by simpa using hVV
                  have row := last_cells rfl HOWN
                  have r0 : wr.cell? ⟨gV, m'.length * 5, none⟩ = some (.int .i64 x.a) := row 0 (by omega)
                  have r1 : wr.cell? ⟨gV, m'.length * 5 + 1, none⟩ = some (.int .i64 x.b) := row 1 (by omega)
                  have r2 : wr.cell? ⟨gV, m'.length * 5 + 2, none⟩ = some (.int .i64 x.c) := row 2 (by omega)
                  have r3 : wr.cell? ⟨gV, m'.length * 5 + 3, none⟩ = some (.int .i64 x.d) := row 3 (by omega)
                  have r4 : wr.cell? ⟨gV, m'.length * 5 + 4, none⟩ = some (.int .i64 x.e) := row 4 (by omega)
                  have hpo := Lib.hid (zzPop_any w.heap.size w.heap.size ii L m' sv j x (wr.alloc (.cells #[.int .i64 x.a, .int .i64 x.b, .int .i64 x.c, .int .i64 x.d, .int .i64 x.e] 31)) (HR.out.st.alloc _) (Nat.le_refl _) (by omega))
                  clear row hown' hVV hlen HOWN
                  go_wp2_with fail
                  with_reducible refine (HEM.out).mono ?_
                  rintro e2 w2 ⟨rfl, rfl⟩
                  go_wp2_with fail
                  with_reducible refine (hpo.out).mono ?_
                  rintro e4 w4 ⟨rfl, ⟨i4, hs4⟩, hb4, hk4⟩
                  have HR4 := Lib.hid (HR.out.pop hs4 hb4 hk4)
                  clear hs4 hk4 hb4 c0
                  go_wp2_with fail
                  go_roundw
                  case rel => exact ⟨j + 1, m', sv, vv, i4, L, by go_num, by omega, HR4.out.next⟩
                  case measure => simp [intOf]; omega
                · go_wp2_with fail
                  with_reducible refine (HEM.out).mono ?_
                  rintro e2 w2 ⟨rfl, rfl⟩
                  go_wp2_with fail
                  go_roundw
                  case rel => exact ⟨j + 1, m, sv, vv, ii, L, by go_num, by omega, HR.out.next⟩
                  case measure => simp [intOf]; omega
              · by_cases hp2 : x8 % 4 = 2
                · by_cases hs0 : sv.length < 32
                  · have hsv := Lib.hid (zz_save w.heap.size w.heap.size ii L m sv j wr HR.out.st (Nat.le_refl _))
                    go_wp2_with fail
                    with_reducible refine (HEM.out).mono ?_
                    rintro e2 w2 ⟨rfl, rfl⟩
                    go_wp2_with fail
                    with_reducible refine (hsv.out).mono ?_
                    rintro e2 w2 ⟨rfl, hs2, hb2, hk2⟩
                    obtain ⟨cs, hSB⟩ := HR.out.st.blk
                    have T2 := Lib.hid (Tri.mk hs2 (HR.out.rows.kept hSB hk2 (rows_e _ _ _ _ _ _ _)) (HR.out.bel.trans hb2))
                    have HRI := owns_kept HR.out.ri hSB hk2 (by decide) (by decide)
                    have RW1 := Lib.hid HRI
                    have hbz2 := T2.out.bel.size
                    clear hs2 hb2 hk2 hSB HRI c0
                    go_wp2_with (at_builtin; refine wpList_append_lies _ rfl (.tmp 98) (.tmp 100) 23 rfl w.heap.size 3 j0 (.int .i64 0) 1 8 Try.underlying23 GI.out GZ0.out GZ1.out GZ2.out rfl (by decide) (.slice AI sv.length capI) sv.length (idxs sv) rfl (RW1.out.alloc _) ⟨w2.heap.size, 0, none⟩ 1 1 [.int .i64 ii] rfl rfl (one_cell (w := w2) (.int .i64 ii) 3 rfl) (by intro u hu; simp at hu; subst hu; rfl) (by omega) (by unfold maxLen; omega) (by omega) (by simp; omega) _ rfl ?_)
                    intro g3 cap3 w3 hown3 hgrow3 hat3 hlt3
                    have T3 := Lib.hid (T2.out.app [scRow (.slice AV m.length capV) m] (r := inRow (.slice AI sv.length capI) (idxs sv)) (inRow (.slice (some ⟨g3, 0, none⟩) (sv.length + 1) cap3) (idxs (⟨ii, L, m⟩ :: sv))) (by show 3 ≠ 148; decide) (by show 3 ≠ 161; decide) hgrow3 (by show World.ownsRow _ _ _ _ _ _ _; simp only [inRow]; rw [idxs_len, idxs_cons]; exact hown3) hat3 (by simp) rfl)
                    have RW2 : Hid (w3.ownsRow w.heap.size 3 1 (.slice AL sv.length capL) sv.length (lims sv)) := by
                      have := T3.out.rows.1 (inRow (.slice AL sv.length capL) (lims sv)) (by simp)
                      simp only [Own.is, inRow, lims_len] at this
                      exact this
                    have hbz3 := T3.out.bel.size
                    clear hown3 hgrow3 hat3
                    go_wp2_with (at_builtin; refine wpList_append_lies _ rfl (.tmp 102) (.tmp 104) 23 rfl w.heap.size 3 j0 (.int .i64 0) 1 8 Try.underlying23 GI.out GZ0.out GZ1.out GZ2.out rfl (by decide) (.slice AL sv.length capL) sv.length (lims sv) rfl (RW2.out.alloc _) ⟨w3.heap.size, 0, none⟩ 1 1 [.int .i64 L] rfl rfl (one_cell (w := w3) (.int .i64 L) 3 rfl) (by intro u hu; simp at hu; subst hu; rfl) (by omega) (by unfold maxLen; omega) (by omega) (by simp; omega) _ rfl ?_)
                    intro g4 cap4 w4 hown4 hgrow4 hat4 hlt4
                    have T4 := Lib.hid (T3.out.app [scRow (.slice AV m.length capV) m, inRow (.slice (some ⟨g3, 0, none⟩) (sv.length + 1) cap3) (idxs (⟨ii, L, m⟩ :: sv))] (r := inRow (.slice AL sv.length capL) (lims sv)) (inRow (.slice (some ⟨g4, 0, none⟩) (sv.length + 1) cap4) (lims (⟨ii, L, m⟩ :: sv))) (by show 3 ≠ 148; decide) (by show 3 ≠ 161; decide) hgrow4 (by show World.ownsRow _ _ _ _ _ _ _; simp only [inRow]; rw [lims_len, lims_cons]; exact hown4) hat4 (by simp) rfl)
                    have hmod : w4.ownsRow w.heap.size 31 5 (.slice AV m.length capV) m.length (flat sc5 m) := T4.out.rows.1 (scRow (.slice AV m.length capV) m) (by simp)
                    have hcp := Lib.hid (copy_any w.heap.size (.slice AV m.length capV) m w4 hmod (by omega))
                    have hbz4 := T4.out.bel.size
                    clear hown4 hgrow4 hat4 hmod
                    go_wp2_with fail
                    with_reducible refine (hcp.out).mono ?_
                    rintro e5 w5 ⟨g5, rfl, hg5, hb5, hrow5⟩
                    have T5 : Hid (Tri w w5 ii (max ii L) m (⟨ii, L, m⟩ :: sv) j ([scRow (.slice AV m.length capV) m, inRow (.slice (some ⟨g3, 0, none⟩) (sv.length + 1) cap3) (idxs (⟨ii, L, m⟩ :: sv)), inRow (.slice (some ⟨g4, 0, none⟩) (sv.length + 1) cap4) (lims (⟨ii, L, m⟩ :: sv))] ++ slRow (.slice AS sv.length capS) vv.reverse :: scRow (.slice (some ⟨g5, 0, none⟩) m.length m.length) m :: snaps sv vv)) := by
                      refine ⟨T4.out.st.below hb5, ?_, T4.out.bel.trans (hb5.mono hbz4)⟩
                      have h := T4.out.rows.add (r := scRow (.slice (some ⟨g5, 0, none⟩) m.length m.length) m) hb5 (hrow5 _ hbz4) rfl hg5
                      exact h.perm (List.perm_middle (l₁ := [scRow (.slice AV m.length capV) m, inRow (.slice (some ⟨g3, 0, none⟩) (sv.length + 1) cap3) (idxs (⟨ii, L, m⟩ :: sv)), inRow (.slice (some ⟨g4, 0, none⟩) (sv.length + 1) cap4) (lims (⟨ii, L, m⟩ :: sv)), slRow (.slice AS sv.length capS) vv.reverse])).symm
                    have hvl := Lib.hid HR.out.vl
                    have RW5 : Hid (w5.ownsRow w.heap.size 27 1 (.slice AS sv.length capS) sv.length vv.reverse) := by
                      have := T5.out.rows.1 (slRow (.slice AS sv.length capS) vv.reverse) (by simp)
                      simp only [Own.is, slRow, List.length_reverse, hvl.out] at this
                      exact this
                    have hbz5 := T5.out.bel.size
                    clear hb5 hrow5
                    go_wp2_with (at_builtin; refine wpList_append_lies _ rfl (.tmp 106) (.tmp 109) 28 rfl w.heap.size 27 k0 (.slice none 0 0) 1 24 Try.underlying28 KI.out KZ0.out KZ1.out KZ2.out rfl (by decide) (.slice AS sv.length capS) sv.length vv.reverse rfl (RW5.out.alloc _) ⟨w5.heap.size, 0, none⟩ 1 1 [.slice (some ⟨g5, 0, none⟩) m.length m.length] rfl rfl (one_cell (w := w5) (.slice (some ⟨g5, 0, none⟩) m.length m.length) 27 rfl) (by intro u hu; simp at hu; subst hu; rfl) (by omega) (by unfold maxLen; omega) (by omega) (by simp; omega) _ rfl ?_)
                    intro g6 cap6 w6 hown6 hgrow6 hat6 hlt6
                    have T6 := T5.out.app _ (r := slRow (.slice AS sv.length capS) vv.reverse) (slRow (.slice (some ⟨g6, 0, none⟩) (sv.length + 1) cap6) ((.slice (some ⟨g5, 0, none⟩) m.length m.length) :: vv).reverse) (by show 27 ≠ 148; decide) (by show 27 ≠ 161; decide) hgrow6 (by show World.ownsRow _ _ _ _ _ _ _; simp only [slRow]; rw [List.length_reverse, List.length_cons, List.reverse_cons, hvl.out]; exact hown6) hat6 (by simp) rfl
                    have HR6 : Hid (SR w w6 (.slice AV m.length capV) (.slice (some ⟨g3, 0, none⟩) (sv.length + 1) cap3) (.slice (some ⟨g4, 0, none⟩) (sv.length + 1) cap4) (.slice (some ⟨g6, 0, none⟩) (sv.length + 1) cap6) m (⟨ii, L, m⟩ :: sv) ((.slice (some ⟨g5, 0, none⟩) m.length m.length) :: vv) ii (max ii L) j) := by
                      refine ⟨T6.st, T6.rows, T6.bel, hmj, fun s hs => ?_, by simp [hvl.out], by simp; omega⟩
                      rcases List.mem_cons.1 hs with rfl | hs
                      · exact hmj
                      · exact HR.out.sl s hs
                    clear T6 hown6 hgrow6 hat6
                    go_wp2_with fail
                    go_roundw
                    case rel => exact ⟨j + 1, m, ⟨ii, L, m⟩ :: sv, _ :: vv, ii, max ii L, by go_num, by omega, HR6.out.next⟩
                    case measure => simp [intOf]; omega
                  · go_wp2_with fail
                    with_reducible refine (HEM.out).mono ?_
                    rintro e2 w2 ⟨rfl, rfl⟩
                    go_wp2_with fail
                    go_roundw
                    case rel => exact ⟨j + 1, m, sv, vv, ii, L, by go_num, by omega, HR.out.next⟩
                    case measure => simp [intOf]; omega
                · by_cases hs0 : 0 < sv.length
                  · obtain ⟨sx, sv', rfl⟩ : ∃ sx sv', sv = sx :: sv' := by
                      cases sv with
                      | nil => simp at hs0
                      | cons a b => exact ⟨a, b, rfl⟩
                    obtain ⟨vx, vv', rfl⟩ : ∃ vx vv', vv = vx :: vv' := by
                      cases vv with
                      | nil => have := HR.out.vl; simp at this
                      | cons a b => exact ⟨a, b, rfl⟩
                    have hlen : (sx :: sv').length = sv'.length + 1 := by simp
                    have hvl : vv'.length = sv'.length := by have := HR.out.vl; simpa using this
                    have r1 := HR.out.ri
                    have r2 := HR.out.rl
                    have r3 := HR.out.rs
                    rw [hlen] at r1 r2 r3 hs32 HAI HAL HAS HR ⊢
                    rw [idxs_cons] at r1
                    rw [lims_cons] at r2
                    rw [List.reverse_cons] at r3
                    obtain ⟨gI, rfl⟩ := HAI.out (by omega)
                    obtain ⟨gL, rfl⟩ := HAL.out (by omega)
                    obtain ⟨gS, rfl⟩ := HAS.out (by omega)
                    have c1 := last_cell (idxs_len sv') r1
                    have c2 := last_cell (lims_len sv') r2
                    have c3 := last_cell (by rw [List.length_reverse, hvl]) r3
                    obtain ⟨_, _, capI1, _⟩ := owns_row r1
                    obtain ⟨_, _, capL1, _⟩ := owns_row r2
                    obtain ⟨_, _, capS1, _⟩ := owns_row r3
                    have lI := (r1.lt gI rfl).2
                    have lL := (r2.lt gL rfl).2
                    have lS := (r3.lt gS rfl).2
                    have rx : wr.ownsRow w.heap.size 31 5 vx sx.snap.length (flat sc5 sx.snap) := HR.out.rows.1 (scRow vx sx.snap) (by simp [rowsOf, snaps])
                    obtain ⟨AX, capX, rfl, _⟩ := own_open2 rx
                    have hre := Lib.hid (zz_restore w.heap.size w.heap.size ii L m sx sv' j wr.drew HR.out.st.drew (Nat.le_refl _))
                    obtain ⟨cs, hSB⟩ := HR.out.st.blk
                    have HR3 := Lib.hid r3
                    have HVL := Lib.hid hvl
                    have HSB := Lib.hid hSB
                    clear r1 r2 r3 rx hlen hvl hSB
                    go_wp2_with fail
                    with_reducible refine (HEM.out).mono ?_
                    rintro e2 w2 ⟨rfl, rfl⟩
                    go_wp2_with fail
                    go_region_with ((with_reducible refine (hre.out).mono ?_); rintro e4 w4 ⟨rfl, hs4, hb4, hk4⟩)
                    all_goals
                      have c4 : w4.cell? ⟨gS, sv'.length, none⟩ = some (.slice AX sx.snap.length capX) := by
                        have := last_cell (by rw [List.length_reverse, HVL.out]) (owns_kept HR3.out HSB.out hk4 (by decide) (by decide))
                        exact this
                      have HR4 := Lib.hid (HR.out.restore HSB.out hs4 hb4 hk4)
                      have lS4 : gS < w4.heap.size := World.block_lt_of_cell? w4 _ c4
                      clear hs4 hb4 hk4 c0
                      go_wp2_with fail
                      go_roundw
                      case rel => exact ⟨j + 1, sx.snap, sv', vv', sx.idx, sx.lim, by go_num, by omega, HR4.out.next⟩
                      case measure => simp [intOf]; omega
                  · go_wp2_with fail
                    with_reducible refine (HEM.out).mono ?_
                    rintro e2 w2 ⟨rfl, rfl⟩
                    go_wp2_with fail
                    go_roundw
                    case rel => exact ⟨j + 1, m, sv, vv, ii, L, by go_num, by omega, HR.out.next⟩
                    case measure => simp [intOf]; omega
          · have HS := Lib.hid HR.out.st
            have HOWN := Lib.hid HR.out.model
            have hbw := HR.out.bel
            clear hR
            go_wp2_with fail
            go_loopw [6] (fun s wr => ∃ (V : Value) (m : List Sc) (ii : Int), s = V ∧ m.length ≤ os.length ∧ ST wr w.heap.size w.heap.size ii L m sv os.length ∧ wr.ownsRow w.heap.size 31 5 V m.length (flat sc5 m) ∧ Below w.heap.size w wr) (fun s _ => match s with | .slice _ n _ => n | _ => 0)
            case atStart => exact ⟨_, m, _, rfl, by omega, HS.out.mono (by omega), HOWN.out, hbw⟩
            case round =>
              obtain ⟨V, m, ii, rfl, hmj, hs, hown, hbw⟩ := hrel
              have hbz := hbw.size
              by_cases hm0 : 0 < m.length
              · obtain ⟨m', x, rfl⟩ : ∃ m' x, m = m' ++ [x] := by
                  rcases List.eq_nil_or_concat m with rfl | ⟨m', x, rfl⟩
                  · simp at hm0
                  · exact ⟨m', x, by simp⟩
                have hlen : (m' ++ [x]).length = m'.length + 1 := by simp
                have hem := zz_empty w.heap.size w.heap.size ii L (m' ++ [x]) sv os.length wr hs
                have hbf : decide ((m' ++ [x]).length = 0) = false := by simp
                rw [hbf] at hem
                rw [hlen] at hown hmj
                obtain ⟨gV, capV, rfl, hcap, hgl, hown'⟩ := own_last hown
                have row := last_cells rfl hown
                have r0 : wr.cell? ⟨gV, m'.length * 5, none⟩ = some (.int .i64 x.a) := row 0 (by omega)
                have r1 : wr.cell? ⟨gV, m'.length * 5 + 1, none⟩ = some (.int .i64 x.b) := row 1 (by omega)
                have r2 : wr.cell? ⟨gV, m'.length * 5 + 2, none⟩ = some (.int .i64 x.c) := row 2 (by omega)
                have r3 : wr.cell? ⟨gV, m'.length * 5 + 3, none⟩ = some (.int .i64 x.d) := row 3 (by omega)
                have r4 : wr.cell? ⟨gV, m'.length * 5 + 4, none⟩ = some (.int .i64 x.e) := row 4 (by omega)
                have HOW' := Lib.hid hown'
                have HS := Lib.hid hs
                have HEM := Lib.hid hem
                have hpo := Lib.hid (zzPop_any w.heap.size w.heap.size ii L m' sv os.length x (wr.alloc (.cells #[.int .i64 x.a, .int .i64 x.b, .int .i64 x.c, .int .i64 x.d, .int .i64 x.e] 31)) (hs.alloc _) (Nat.le_refl _) (by omega))
                clear row hown' hown hs hlen hem hbf
                go_wp2_with fail
                with_reducible refine (HEM.out).mono ?_
                rintro e2 w2 ⟨rfl, rfl⟩
                go_wp2_with fail
                with_reducible refine (hpo.out).mono ?_
                rintro e4 w4 ⟨rfl, ⟨i4, hs4⟩, hb4, hk4⟩
                obtain ⟨cs, hSB⟩ := HS.out.blk
                have ho4 := Lib.hid (owns_kept (HOW'.out.alloc (.cells #[.int .i64 x.a, .int .i64 x.b, .int .i64 x.c, .int .i64 x.d, .int .i64 x.e] 31)) (hSB.alloc _) hk4 (by decide) (by decide))
                have hbb4 : Below w.heap.size w w4 := (hbw.alloc hbz _).trans hb4
                have HS4 := Lib.hid hs4
                clear hs4 hk4 hb4 hSB
                go_wp2_with fail
                go_roundw
                case rel => exact ⟨_, m', i4, rfl, by omega, HS4.out, ho4.out, hbb4⟩
                case measure => simp
              · obtain rfl : m = [] := List.length_eq_zero_iff.1 (by omega)
                obtain ⟨AV, capV, rfl, _⟩ := own_open2 hown
                have HEM := Lib.hid (zz_empty w.heap.size w.heap.size ii L [] sv os.length wr hs)
                clear hs hown
                go_wp2_with fail
                with_reducible refine (HEM.out).mono ?_
                rintro e2 w2 ⟨rfl, rfl⟩
                go_wp2_with fail
                go_ret
                exact ⟨rfl, hbw⟩
      · go_wp2_with fail
        go_ret
        exact ⟨rfl, Below.refl _ _⟩
    · go_wp2_with fail
      go_ret
      exact ⟨rfl, Below.refl _ _⟩
end Go.Proofs.Ytbkakiipaehleaa
