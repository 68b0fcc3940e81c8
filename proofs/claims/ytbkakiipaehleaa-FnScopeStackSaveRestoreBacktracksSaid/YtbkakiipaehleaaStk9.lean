/- Rows that a call owns, apart from one another; the scope stack: save, restore, the copy of a row of scopes. -/
import Derived.Test.YtbkakiipaehleaaStk8
namespace Go.Proofs.Ytbkakiipaehleaa
open Go.RowKit
set_option maxRecDepth 100000
set_option linter.unusedVariables false
structure Own where
  e : TypeId
  size : Nat
  V : Value
  n : Nat
  xs : List Value
def Own.is (w : World) (base : Nat) (r : Own) : Prop := w.ownsRow base r.e r.size r.V r.n r.xs
def Apart (a b : Own) : Prop := a.V.ownBlock ≠ b.V.ownBlock
def OwnAll (w : World) (base : Nat) (rs : List Own) : Prop := (∀ r ∈ rs, r.is w base) ∧ rs.Pairwise Apart
theorem OwnAll.alloc {w : World} {base : Nat} {rs : List Own} (h : OwnAll w base rs) (o : Obj) : OwnAll (w.alloc o) base rs := ⟨fun r hr => World.ownsRow.alloc (h.1 r hr) o, h.2⟩
theorem OwnAll.below {w w' : World} {base : Nat} {rs : List Own} (h : OwnAll w base rs) (hb : Below w.heap.size w w') : OwnAll w' base rs := ⟨fun r hr => owns_below (h.1 r hr) hb, h.2⟩
theorem OwnAll.drewN {w : World} {base : Nat} {rs : List Own} (h : OwnAll w base rs) (n : Nat) : OwnAll (w.drewN n) base rs := ⟨fun r hr => h.1 r hr, h.2⟩
theorem OwnAll.perm {w : World} {base : Nat} {rs rs' : List Own} (h : OwnAll w base rs) (hp : rs.Perm rs') : OwnAll w base rs' :=
  ⟨fun r hr => h.1 r (hp.mem_iff.2 hr), (hp.pairwise_iff (fun h e => h e.symm)).1 h.2⟩
theorem OwnAll.grown {w w' : World} {base : Nat} {r r' : Own} {rs : List Own} (h : OwnAll w base (r :: rs)) (hg : w.grownBy w' r.V.ownBlock) (h' : r'.is w' base) (ho : r'.V.ownBlock = r.V.ownBlock ∨ ∃ H, w.heap.size ≤ H ∧ r'.V.ownBlock = some H) : OwnAll w' base (r' :: rs) := by
  obtain ⟨h1, h2⟩ := h
  rw [List.pairwise_cons] at h2
  refine ⟨fun x hx => ?_, List.pairwise_cons.2 ⟨fun x hx => ?_, h2.2⟩⟩
  · rcases List.mem_cons.1 hx with rfl | hx
    · exact h'
    · exact World.ownsRow.kept (h1 x (List.mem_cons_of_mem _ hx)) hg (.inr fun e => h2.1 x hx e.symm)
  · rcases ho with ho | ⟨H, hH, ho⟩
    · intro e
      exact h2.1 x hx (ho ▸ e)
    · intro e
      have := (World.ownsRow.lt (h1 x (List.mem_cons_of_mem _ hx)) H (by rw [← e, ho])).2
      omega
theorem OwnAll.grownAt {w w' : World} {base : Nat} (l : List Own) {r r' : Own} {rs : List Own} (h : OwnAll w base (l ++ r :: rs)) (hg : w.grownBy w' r.V.ownBlock) (h' : r'.is w' base) (ho : r'.V.ownBlock = r.V.ownBlock ∨ ∃ H, w.heap.size ≤ H ∧ r'.V.ownBlock = some H) : OwnAll w' base (l ++ r' :: rs) :=
  ((h.perm List.perm_middle).grown hg h' ho).perm List.perm_middle.symm
theorem OwnAll.same {w : World} {base : Nat} {r r' : Own} {rs : List Own} (h : OwnAll w base (r :: rs)) (h' : r'.is w base) (ho : r'.V.ownBlock = r.V.ownBlock) : OwnAll w base (r' :: rs) := by
  obtain ⟨h1, h2⟩ := h
  rw [List.pairwise_cons] at h2
  refine ⟨fun x hx => ?_, List.pairwise_cons.2 ⟨fun x hx e => h2.1 x hx (ho ▸ e), h2.2⟩⟩
  rcases List.mem_cons.1 hx with rfl | hx
  · exact h'
  · exact h1 x (List.mem_cons_of_mem _ hx)
theorem OwnAll.sameAt {w : World} {base : Nat} (l : List Own) {r r' : Own} {rs : List Own} (h : OwnAll w base (l ++ r :: rs)) (h' : r'.is w base) (ho : r'.V.ownBlock = r.V.ownBlock) : OwnAll w base (l ++ r' :: rs) :=
  ((h.perm List.perm_middle).same h' ho).perm List.perm_middle.symm
theorem OwnAll.tail {w : World} {base : Nat} {r : Own} {rs : List Own} (h : OwnAll w base (r :: rs)) : OwnAll w base rs := ⟨fun x hx => h.1 x (List.mem_cons_of_mem _ hx), (List.pairwise_cons.1 h.2).2⟩
theorem OwnAll.add {w w' : World} {base g : Nat} {r : Own} {rs : List Own} (h : OwnAll w base rs) (hb : Below w.heap.size w w') (hr : r.is w' base) (hg : r.V.ownBlock = some g) (hl : w.heap.size ≤ g) : OwnAll w' base (r :: rs) := by
  refine ⟨fun x hx => ?_, List.pairwise_cons.2 ⟨fun x hx e => ?_, h.2⟩⟩
  · rcases List.mem_cons.1 hx with rfl | hx
    · exact hr
    · exact owns_below (h.1 x hx) hb
  · have := (World.ownsRow.lt (h.1 x hx) g (by rw [← e, hg])).2
    omega
theorem OwnAll.kept {w w' : World} {base S : Nat} {e t : TypeId} {cs : Array Value} {rs : List Own} (h : OwnAll w base rs) (hS : Blk w S t cs) (hk : Lib.OthersKept e (some S) w w') (hne : ∀ r ∈ rs, r.e ≠ t ∧ r.e ≠ e) : OwnAll w' base rs :=
  ⟨fun r hr => owns_kept (h.1 r hr) hS hk (hne r hr).1 (hne r hr).2, h.2⟩
def Sav (base SB : Nat) (i L : Int) (m : List Sc) (sv : List (Sv Sc)) (n : Nat) (w : World) (e : Ending) (w' : World) : Prop :=
  e = .returned (.tuple #[.int .i64 i, .int .i64 L]) ∧ ST w' base SB i (max i L) m (⟨i, L, m⟩ :: sv) n ∧ Below base w w' ∧ Lib.OthersKept 161 (some SB) w w'
set_option maxHeartbeats 1000000 in
theorem save_st (base SB : Nat) (i L : Int) (m : List Sc) (sv : List (Sv Sc)) (n : Nat) (w : World) (h : ST w base SB i L m sv n) (hb : base ≤ SB) :
    Calls Try.prog 79 #[.pointer (some ⟨SB, 0, none⟩)] w (Sav base SB i L m sv n w) := by
  obtain ⟨D, ds, hs, hk, hl⟩ := h
  have c1 : w.cell? ⟨SB, 1, none⟩ = some (.int .i64 i) := hs.s.cell 1
  have c2 : w.cell? ⟨SB, 2, none⟩ = some (.int .i64 L) := hs.s.cell 2
  have f2 := hs.s.frozen 2
  have hne := Lib.hid (own_blk_ne hs.o hs.s (by decide))
  have hlt := hs.s.lt
  have HS := Lib.hid hs
  have HK := Lib.hid hk.save
  clear hs hk
  by_cases hiL : L < i
  · have hmx : max i L = i := by omega
    have HM := Lib.hid hmx
    rw [hmx] at HK
    clear hmx
    go_enter Try.func79, Try.ntmps79
    go_wp2_with fail
    go_quiet (fail)
    go_wp2_with fail
    go_quiet (fail)
    go_wp2_with fail
    go_ret2
    refine ⟨rfl, ?_, (below_drewN (Below.refl _ _) _).setCell (p := ⟨SB, 2, none⟩) hb _, (Lib.OthersKept.drewN (Lib.OthersKept.refl _ _ w) _).setCell ⟨SB, 2, none⟩ rfl _⟩
    rw [HM.out]
    exact ⟨D, ds, ⟨(HS.out.s.drewN _).set_ 2 _, owns_far (show (w.drewN _).ownsRow base 161 6 D ds.length (flat sb6 ds) from HS.out.o) (p := ⟨SB, 2, none⟩) hne.out _⟩, HK.out, hl⟩
  · have hmx : max i L = L := by omega
    have HM := Lib.hid hmx
    rw [hmx] at HK
    clear hmx
    go_enter Try.func79, Try.ntmps79
    go_wp2_with fail
    go_quiet (fail)
    go_wp2_with fail
    go_quiet (fail)
    go_wp2_with fail
    go_ret2
    refine ⟨rfl, ?_, below_drewN (below_drewN (Below.refl _ _) _) _, Lib.OthersKept.drewN (Lib.OthersKept.drewN (Lib.OthersKept.refl _ _ w) _) _⟩
    rw [HM.out]
    exact ⟨D, ds, ⟨HS.out.s, HS.out.o⟩, HK.out, hl⟩
set_option maxHeartbeats 1000000 in
theorem zz_save (base SB : Nat) (i L : Int) (m : List Sc) (sv : List (Sv Sc)) (n : Nat) (w : World) (h : ST w base SB i L m sv n) (hb : base ≤ SB) :
    Calls Try.prog 18 #[.pointer (some ⟨SB, 0, none⟩)] w (Sav base SB i L m sv n w) := by
  have hc := Lib.hid (save_st base SB i L m sv n w h hb)
  clear h
  go_enter Try.func18, Try.ntmps18
  go_wp2_with fail
  with_reducible refine (hc.out).mono ?_
  rintro e w' ⟨rfl, h1, h2, h3⟩
  go_wp2_with fail
  go_ret2
  exact ⟨rfl, h1, h2, h3⟩
def Res (base SB : Nat) (s : Sv Sc) (sv : List (Sv Sc)) (n : Nat) (w : World) (e : Ending) (w' : World) : Prop :=
  e = .returned (.tuple #[]) ∧ ST w' base SB s.idx s.lim s.snap sv n ∧ Below base w w' ∧ Lib.OthersKept 161 (some SB) w w'
set_option maxHeartbeats 1000000 in
theorem restore_st (base SB : Nat) (i L : Int) (m : List Sc) (s : Sv Sc) (sv : List (Sv Sc)) (n : Nat) (w : World) (h : ST w base SB i L m (s :: sv) n) (hb : base ≤ SB) :
    Calls Try.prog 80 #[.pointer (some ⟨SB, 0, none⟩), .int .i64 s.idx, .int .i64 s.lim] w (Res base SB s sv n w) := by
  obtain ⟨D, ds, hs, hk, hl⟩ := h
  have c1 : w.cell? ⟨SB, 1, none⟩ = some (.int .i64 i) := hs.s.cell 1
  have c2 : w.cell? ⟨SB, 2, none⟩ = some (.int .i64 L) := hs.s.cell 2
  have f1 := hs.s.frozen 1
  have f2 := hs.s.frozen 2
  have hne := Lib.hid (own_blk_ne hs.o hs.s (by decide))
  have hlt := hs.s.lt
  have HS := Lib.hid hs
  have HK := Lib.hid hk.restore
  clear hs hk
  go_enter Try.func80, Try.ntmps80
  go_wp2_with fail
  go_end0
  refine ⟨rfl, ⟨D, ds, ⟨(HS.out.s.set_ 1 _).set_ 2 _, owns_far (owns_far HS.out.o (p := ⟨SB, 1, none⟩) hne.out _) (p := ⟨SB, 2, none⟩) hne.out _⟩, HK.out, hl⟩, ((Below.refl _ _).setCell (p := ⟨SB, 1, none⟩) hb _).setCell (p := ⟨SB, 2, none⟩) hb _, ((Lib.OthersKept.refl _ _ w).setCell ⟨SB, 1, none⟩ rfl _).setCell ⟨SB, 2, none⟩ rfl _⟩
theorem zz_restore (base SB : Nat) (i L : Int) (m : List Sc) (s : Sv Sc) (sv : List (Sv Sc)) (n : Nat) (w : World) (h : ST w base SB i L m (s :: sv) n) (hb : base ≤ SB) :
    Calls Try.prog 20 #[.pointer (some ⟨SB, 0, none⟩), .int .i64 s.idx, .int .i64 s.lim] w (Res base SB s sv n w) := by
  have hc := Lib.hid (restore_st base SB i L m s sv n w h hb)
  clear h
  go_enter Try.func20, Try.ntmps20
  go_wp2_with fail
  with_reducible refine (hc.out).mono ?_
  rintro e w' ⟨rfl, h1, h2, h3⟩
  go_wp2_with fail
  go_end0
  exact ⟨rfl, h1, h2, h3⟩
/-- the copy of a row of scopes: a new row -/
def Cpy (m : List Sc) (w : World) (e : Ending) (w' : World) : Prop :=
  ∃ g, e = .returned (.slice (some ⟨g, 0, none⟩) m.length m.length) ∧ w.heap.size ≤ g ∧ Below w.heap.size w w' ∧ ∀ base, base ≤ w.heap.size → w'.ownsRow base 31 5 (.slice (some ⟨g, 0, none⟩) m.length m.length) m.length (flat sc5 m)
theorem fill_take {arr : Array Value} {xs : List Value} (h : Fill1 arr xs xs.length) (hs : arr.size = xs.length) : arr.toList.take xs.length = xs := by
  refine List.ext_getElem? fun i => ?_
  by_cases hi : i < xs.length
  · rw [List.getElem?_take_of_lt hi, Array.getElem?_toList]
    have := h i xs[i] hi (List.getElem?_eq_getElem hi)
    rw [this, List.getElem?_eq_getElem hi]
  · rw [List.getElem?_eq_none (by simp; omega), List.getElem?_eq_none (by omega)]
set_option maxHeartbeats 4000000 in
theorem copy_any (base : Nat) (V : Value) (m : List Sc) (w : World) (h : w.ownsRow base 31 5 V m.length (flat sc5 m)) (hn : m.length ≤ 1048576) :
    Calls Try.prog 19 #[V] w (Cpy m w) := by
  obtain ⟨i0, hi, hz0, hz1, hz2⟩ := info_parts infoZs
  have hfl := flat_len sc5 5 sc5_len m
  obtain ⟨A, cap, rfl, hA⟩ := own_open2 h
  have hmk : (Instr.makeSlice 27 (.int .i64 (m.length : Int)) (.int .i64 (m.length : Int))).run Try.prog w = .ok (.slice (some ⟨w.heap.size, 0, none⟩) m.length m.length) (w.alloc (.cells (madeCells (Value.agg #[.int .i64 0, .int .i64 0, .int .i64 0, .int .i64 0, .int .i64 0]).cells (m.length * 5)) 31)) := by
    have h := run_make_rowN (P := Try.prog) 27 31 i0 _ Try.underlying27 hi hz0 .i64 .i64 m.length m.length (by omega) (by rw [hz2]; omega) (by omega) w
    rw [hz1] at h
    exact h
  have HF := Lib.hid hfl
  have HA := Lib.hid hA
  have H := Lib.hid h
  clear h hA hfl hi hz0 hz1 hz2
  go_enter Try.func19, Try.ntmps19
  go_wp2_with fail
  clear hmk
  go_loopw [4] (fun i wr => ∃ (j : Nat) (arr : Array Value), i = .int .i64 j ∧ j ≤ m.length ∧ Hid (arr.size = m.length * 5) ∧ Fill1 arr (flat sc5 m) (j * 5) ∧ Blk wr w.heap.size 31 arr ∧ Below w.heap.size w wr) (fun i _ => m.length - (intOf i).toNat)
  case atStart => exact ⟨0, _, rfl, by omega, by show Array.size _ = _; rw [size_madeCells], fun i v hi => absurd hi (by omega), Blk.new _ _ _, (Below.refl _ _).alloc (Nat.le_refl _) _⟩
  case round =>
    obtain ⟨j, arr, rfl, hj, hsz, hfill, hblk, hbw⟩ := hrel
    by_cases hlt : j < m.length
    · obtain ⟨g, rfl⟩ := HA.out (by omega)
      have hgl := (H.out.lt g rfl).2
      obtain ⟨x, hx⟩ : ∃ x, m[j]? = some x := ⟨_, List.getElem?_eq_getElem hlt⟩
      have fl : ∀ o, o < 5 → (flat sc5 m)[j * 5 + o]? = (sc5 x)[o]? := fun o ho => flat_at sc5 5 sc5_len m j x hx o ho
      have row : ∀ o, o < 5 → wr.cell? ⟨g, j * 5 + o, none⟩ = (sc5 x)[o]? := by
        intro o ho
        have h1 := fl o ho
        have h2 : (sc5 x)[o]? = some (sc5 x)[o] := List.getElem?_eq_getElem (by rw [sc5_len]; exact ho)
        rw [h2] at h1 ⊢
        have h3 := H.out.cells (g := g) rfl _ _ h1
        rw [Go.WideShapes.add_plain, Nat.zero_add] at h3
        exact ((bcell hbw).1 g _ hgl).trans h3
      have r0 : wr.cell? ⟨g, j * 5, none⟩ = some (.int .i64 x.a) := row 0 (by omega)
      have r1 : wr.cell? ⟨g, j * 5 + 1, none⟩ = some (.int .i64 x.b) := row 1 (by omega)
      have r2 : wr.cell? ⟨g, j * 5 + 2, none⟩ = some (.int .i64 x.c) := row 2 (by omega)
      have r3 : wr.cell? ⟨g, j * 5 + 3, none⟩ = some (.int .i64 x.d) := row 3 (by omega)
      have r4 : wr.cell? ⟨g, j * 5 + 4, none⟩ = some (.int .i64 x.e) := row 4 (by omega)
      have hsz' := hsz.out
      have hj5 : j * 5 + 5 ≤ m.length * 5 := by omega
      have cellw : ∀ o, o < 5 → ∃ u, wr.cell? ⟨w.heap.size, j * 5 + o, none⟩ = some u := fun o ho => ⟨_, (hblk.cell _).trans (Array.getElem?_eq_getElem (by omega))⟩
      obtain ⟨u0, s0⟩ := cellw 0 (by omega)
      obtain ⟨u1, s1⟩ := cellw 1 (by omega)
      obtain ⟨u2, s2⟩ := cellw 2 (by omega)
      obtain ⟨u3, s3⟩ := cellw 3 (by omega)
      obtain ⟨u4, s4⟩ := cellw 4 (by omega)
      rw [Nat.add_zero] at s0
      have q0 := hblk.frozen (j * 5)
      have q1 := hblk.frozen (j * 5 + 1)
      have q2 := hblk.frozen (j * 5 + 2)
      have q3 := hblk.frozen (j * 5 + 3)
      have q4 := hblk.frozen (j * 5 + 4)
      have hgne : g ≠ w.heap.size := by omega
      have f1 := hfill.next (x := .int .i64 x.a) (fl 0 (by omega)) (by omega)
      have f2 := f1.next (x := .int .i64 x.b) (fl 1 (by omega)) (by simp; omega)
      have f3 := f2.next (x := .int .i64 x.c) (fl 2 (by omega)) (by simp; omega)
      have f4 := f3.next (x := .int .i64 x.d) (fl 3 (by omega)) (by simp; omega)
      have f5 := Lib.hid (f4.next (x := .int .i64 x.e) (fl 4 (by omega)) (by simp; omega))
      have HB := Lib.hid (((((hblk.set_ (j * 5) (.int .i64 x.a)).set_ (j * 5 + 1) (.int .i64 x.b)).set_ (j * 5 + 2) (.int .i64 x.c)).set_ (j * 5 + 3) (.int .i64 x.d)).set_ (j * 5 + 4) (.int .i64 x.e))
      have HX := Lib.hid hx
      have hwl := hblk.lt
      clear hx fl row hsz' cellw f1 f2 f3 f4 hfill hblk
      go_wp2_with fail
      go_roundw
      case rel => exact ⟨j + 1, _, by go_num, by omega, by show Array.size _ = _; simp; exact hsz.out, by rw [show (j + 1) * 5 = j * 5 + 4 + 1 from by omega]; exact f5.out, HB.out, ((((hbw.setCell (p := ⟨w.heap.size, _, none⟩) (Nat.le_refl _) _).setCell (p := ⟨w.heap.size, _, none⟩) (Nat.le_refl _) _).setCell (p := ⟨w.heap.size, _, none⟩) (Nat.le_refl _) _).setCell (p := ⟨w.heap.size, _, none⟩) (Nat.le_refl _) _).setCell (p := ⟨w.heap.size, _, none⟩) (Nat.le_refl _) _⟩
      case measure => simp [intOf]; omega
    · go_wp2_with fail
      go_ret
      refine ⟨_, rfl, Nat.le_refl _, hbw, fun base hbase => ⟨HF.out, .inr ⟨_, _, arr, rfl, hbase, hblk, Nat.le_refl _, by unfold maxLen; omega, hsz.out, ?_⟩⟩⟩
      have hje : j = m.length := by omega
      subst hje
      rw [← HF.out] at hfill ⊢
      exact fill_take hfill (by rw [HF.out]; exact hsz.out)
end Go.Proofs.Ytbkakiipaehleaa
