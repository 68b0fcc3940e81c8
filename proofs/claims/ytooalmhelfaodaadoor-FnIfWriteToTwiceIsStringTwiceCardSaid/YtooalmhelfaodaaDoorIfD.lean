/- n001_56: the copy of the branches; the if-expression built. -/
import Derived.Test.YtooalmhelfaodaaDoorIfC
import Derived.Deep.RegionHeld3
namespace Go.Proofs.YtooalmhelfaodaaDoor
open Go.RowKit
set_option maxRecDepth 100000
set_option linter.unusedVariables false
set_option linter.unusedSimpArgs false
/-! what stands when one row of another type is written -/
def Keeps (bad : TypeId) (w w' : World) : Prop := ∀ g t cs, t ≠ bad → Blk w g t cs → Blk w' g t cs
theorem Keeps.set_ {w : World} {G : Nat} {bad : TypeId} {arr : Array Value} (hG : Blk w G bad arr) (i : Nat) (u : Value) : Keeps bad w (w.setCell ⟨G, i, none⟩ u) := by
  intro g t cs ht h
  refine h.far (p := ⟨G, i, none⟩) ?_ u
  rintro rfl
  unfold Blk at h hG
  rw [h] at hG
  injection hG with hG
  injection hG with _ hG
  exact ht hG
section
variable {w w' : World} {B : Nat} {bad : TypeId} (hk : Keeps bad w w') (hb : 139 ≠ bad ∧ 142 ≠ bad ∧ 144 ≠ bad ∧ 119 ≠ bad ∧ 126 ≠ bad ∧ 123 ≠ bad)
include hk hb
theorem TermIs.keep {t : Nat} : ∀ {x : Leaf}, TermIs w B t x → TermIs w' B t x
  | .ident, h => ⟨h.1, hk _ _ _ hb.1 h.2⟩ | .null, h => ⟨h.1, hk _ _ _ hb.1 h.2⟩ | .tru, h => ⟨h.1, hk _ _ _ hb.1 h.2⟩ | .fls, h => ⟨h.1, hk _ _ _ hb.1 h.2⟩ | .num _, h => ⟨h.1, hk _ _ _ hb.1 h.2⟩ | .brk _, h => ⟨h.1, hk _ _ _ hb.1 h.2⟩
  | .func _, ⟨h1, j, h2, h3, h4⟩ => ⟨h1, j, h2, hk _ _ _ hb.1 h3, hk _ _ _ hb.2.1 h4⟩
  | .idx _, ⟨h0, h1, j, h2, h3, h4⟩ => ⟨h0, h1, j, h2, hk _ _ _ hb.1 h3, hk _ _ _ hb.2.2.1 h4⟩
theorem QIs.keep {q : Nat} {x : Leaf} : QIs w B q x → QIs w' B q x
  | ⟨h1, t, h2, h3⟩ => ⟨h1, t, hk _ _ _ hb.2.2.2.1 h2, TermIs.keep hk hb h3⟩
theorem PatIs.keep {P : Value} : ∀ {o : Option ByteArray}, PatIs w B P o → PatIs w' B P o
  | none, h => h
  | some s, ⟨h0, L, p, h1, h2, h3, h4, h5⟩ => ⟨h0, L, p, h1, h2, h3, hk _ _ _ hb.2.2.2.2.2 h4, hk _ _ _ hb.2.2.2.2.1 h5⟩
theorem QuIs.keep : ∀ {t : Qu} {q : Nat}, QuIs w B q t → QuIs w' B q t
  | .nothing, _, ⟨h1, h2⟩ => ⟨h1, hk _ _ _ hb.2.2.2.1 h2⟩
  | .leaf x, _, h => QIs.keep hk hb h
  | .bin a op pat b, _, ⟨h1, ho, l, r, P, h2, h3, h4, h5⟩ => ⟨h1, ho, l, r, P, hk _ _ _ hb.2.2.2.1 h2, QuIs.keep h3, QIs.keep hk hb h4, PatIs.keep hk hb h5⟩
end
/-- block e is the branch x -/
def ElIs (w : World) (B e : Nat) (x : Qu × Qu) : Prop := e < B ∧ ∃ a b, Blk w e 112 #[.pointer (some ⟨a, 0, none⟩), .pointer (some ⟨b, 0, none⟩)] ∧ QuIs w B a x.1 ∧ QuIs w B b x.2
theorem ElIs.below {w w' : World} {B e : Nat} {x : Qu × Qu} (hb : Below B w w') : ElIs w B e x → ElIs w' B e x
  | ⟨h1, a, b, h2, h3, h4⟩ => ⟨h1, a, b, h2.below hb h1, h3.below hb, h4.below hb⟩
theorem ElIs.mono {w : World} {B B' e : Nat} {x : Qu × Qu} (hB : B ≤ B') : ElIs w B e x → ElIs w B' e x
  | ⟨h1, a, b, h2, h3, h4⟩ => ⟨Nat.lt_of_lt_of_le h1 hB, a, b, h2, h3.mono hB, h4.mono hB⟩
theorem ElIs.keep {w w' : World} {B e : Nat} {bad : TypeId} {x : Qu × Qu} (hk : Keeps bad w w') (hb : 139 ≠ bad ∧ 142 ≠ bad ∧ 144 ≠ bad ∧ 119 ≠ bad ∧ 126 ≠ bad ∧ 123 ≠ bad) (he : 112 ≠ bad) : ElIs w B e x → ElIs w' B e x
  | ⟨h1, a, b, h2, h3, h4⟩ => ⟨h1, a, b, hk _ _ _ he h2, QuIs.keep hk hb h3, QuIs.keep hk hb h4⟩
def brQ (x : Br) : Qu × Qu := (atomQ x.k1 x.s1, atomQ x.k2 x.s2)
/-- the row of branches, and the pointer to the else part -/
def RowIs (w : World) (B : Nat) (A : Option Addr) (es : List Br) : Prop := ∀ i x, es[i]? = some x → ∃ g e, A = some ⟨g, 0, none⟩ ∧ g < B ∧ w.cell? ⟨g, i, none⟩ = some (.pointer (some ⟨e, 0, none⟩)) ∧ ElIs w B e (brQ x)
theorem RowIs.below {w w' : World} {B : Nat} {A : Option Addr} {es : List Br} (hb : Below B w w') (h : RowIs w B A es) : RowIs w' B A es := fun i x hx => by
  obtain ⟨g, e, h1, h2, h3, h4⟩ := h i x hx
  exact ⟨g, e, h1, h2, (hb.cell (p := ⟨g, i, none⟩) h2).trans h3, h4.below hb⟩
theorem RowIs.mono {w : World} {B B' : Nat} {A : Option Addr} {es : List Br} (hB : B ≤ B') (h : RowIs w B A es) : RowIs w B' A es := fun i x hx => by
  obtain ⟨g, e, h1, h2, h3, h4⟩ := h i x hx
  exact ⟨g, e, h1, Nat.lt_of_lt_of_le h2 hB, h3, h4.mono hB⟩
theorem RowIs.keep {w w' : World} {B : Nat} {A : Option Addr} {es : List Br} {bad : TypeId} (hk : Keeps bad w w') (hc : ∀ g i, A = some ⟨g, 0, none⟩ → w'.cell? ⟨g, i, none⟩ = w.cell? ⟨g, i, none⟩) (hb : 139 ≠ bad ∧ 142 ≠ bad ∧ 144 ≠ bad ∧ 119 ≠ bad ∧ 126 ≠ bad ∧ 123 ≠ bad) (he : 112 ≠ bad) (h : RowIs w B A es) : RowIs w' B A es := fun i x hx => by
  obtain ⟨g, e, h1, h2, h3, h4⟩ := h i x hx
  exact ⟨g, e, h1, h2, (hc g i h1).trans h3, h4.keep hk hb he⟩
def OptIs (w : World) (B : Nat) (v : Value) : Option Qu → Prop
  | none => v = .pointer none
  | some t => ∃ q, v = .pointer (some ⟨q, 0, none⟩) ∧ QuIs w B q t
theorem OptIs.below {w w' : World} {B : Nat} {v : Value} (hb : Below B w w') : ∀ {x : Option Qu}, OptIs w B v x → OptIs w' B v x
  | none, h => h
  | some _, ⟨q, h1, h2⟩ => ⟨q, h1, h2.below hb⟩
theorem OptIs.mono {w : World} {B B' : Nat} {v : Value} (hB : B ≤ B') : ∀ {x : Option Qu}, OptIs w B v x → OptIs w B' v x
  | none, h => h
  | some _, ⟨q, h1, h2⟩ => ⟨q, h1, h2.mono hB⟩
def IfIs (w : World) (B i : Nat) (c t : Qu) (es : List Br) (el : Option Qu) : Prop :=
  i < B ∧ ∃ qc qt A n cap v, Blk w i 109 #[.pointer (some ⟨qc, 0, none⟩), .pointer (some ⟨qt, 0, none⟩), .slice A n cap, v] ∧ n = es.length ∧ QuIs w B qc c ∧ QuIs w B qt t ∧ RowIs w B A es ∧ OptIs w B v el
theorem IfIs.below {w w' : World} {B i : Nat} {c t : Qu} {es : List Br} {el : Option Qu} (hb : Below B w w') : IfIs w B i c t es el → IfIs w' B i c t es el
  | ⟨h1, qc, qt, A, n, cap, v, h2, hn, h3, h4, h5, h6⟩ => ⟨h1, qc, qt, A, n, cap, v, h2.below hb h1, hn, h3.below hb, h4.below hb, h5.below hb, h6.below hb⟩
theorem IfIs.mono {w : World} {B B' i : Nat} {c t : Qu} {es : List Br} {el : Option Qu} (hB : B ≤ B') : IfIs w B i c t es el → IfIs w B' i c t es el
  | ⟨h1, qc, qt, A, n, cap, v, h2, hn, h3, h4, h5, h6⟩ => ⟨Nat.lt_of_lt_of_le h1 hB, qc, qt, A, n, cap, v, h2, hn, h3.mono hB, h4.mono hB, h5.mono hB, h6.mono hB⟩
/-! the copy -/
def put4 (arr : Array Value) (p : Nat) (x : Br) : Array Value := (((arr.setIfInBounds p (.int .i64 x.k1)).setIfInBounds (p + 1) (.string x.s1)).setIfInBounds (p + 2) (.int .i64 x.k2)).setIfInBounds (p + 3) (.string x.s2)
theorem put4_size (arr : Array Value) (p : Nat) (x : Br) : (put4 arr p x).size = arr.size := by simp [put4]
theorem put4_far (arr : Array Value) (p q : Nat) (x : Br) (h : q < p ∨ p + 3 < q) : (put4 arr p x)[q]? = arr[q]? := by
  unfold put4
  rw [Array.getElem?_setIfInBounds_ne (by omega), Array.getElem?_setIfInBounds_ne (by omega), Array.getElem?_setIfInBounds_ne (by omega), Array.getElem?_setIfInBounds_ne (by omega)]
theorem put4_at (arr : Array Value) (p : Nat) (x : Br) (h : p + 3 < arr.size) : (put4 arr p x)[p]? = some (.int .i64 x.k1) ∧ (put4 arr p x)[p + 1]? = some (.string x.s1) ∧ (put4 arr p x)[p + 2]? = some (.int .i64 x.k2) ∧ (put4 arr p x)[p + 3]? = some (.string x.s2) := by
  unfold put4
  refine ⟨?_, ?_, ?_, ?_⟩
  · rw [Array.getElem?_setIfInBounds_ne (by omega), Array.getElem?_setIfInBounds_ne (by omega), Array.getElem?_setIfInBounds_ne (by omega)]; exact set_at _ _ _ (by omega)
  · rw [Array.getElem?_setIfInBounds_ne (by omega), Array.getElem?_setIfInBounds_ne (by omega)]; exact set_at _ _ _ (by simp; omega)
  · rw [Array.getElem?_setIfInBounds_ne (by omega)]; exact set_at _ _ _ (by simp; omega)
  · exact set_at _ _ _ (by simp; omega)
def Fill4 (arr : Array Value) (xs : List Br) (j : Nat) : Prop := ∀ i x, i < j → xs[i]? = some x → arr[i * 4]? = some (.int .i64 x.k1) ∧ arr[i * 4 + 1]? = some (.string x.s1) ∧ arr[i * 4 + 2]? = some (.int .i64 x.k2) ∧ arr[i * 4 + 3]? = some (.string x.s2)
theorem Fill4.next {arr : Array Value} {xs : List Br} {j : Nat} {x : Br} (h : Fill4 arr xs j) (hx : xs[j]? = some x) (hs : j * 4 + 3 < arr.size) : Fill4 (put4 arr (j * 4) x) xs (j + 1) := by
  intro i y hi hy
  by_cases hij : i = j
  · subst hij
    rw [hx] at hy
    injection hy with hy
    subst hy
    exact put4_at _ _ _ hs
  · rw [put4_far _ _ _ _ (by omega), put4_far _ _ _ _ (by omega), put4_far _ _ _ _ (by omega), put4_far _ _ _ _ (by omega)]
    exact h i y (by omega) hy
theorem Fill4.at_ {w : World} {G : Nat} {arr : Array Value} {xs : List Br} {t : TypeId} (hB : Blk w G t arr) (h : Fill4 arr xs xs.length) (B : Nat) (hG : G < B) : BrsAt w B (some ⟨G, 0, none⟩) xs := by
  intro i x hx
  obtain ⟨h0, h1, h2, h3⟩ := h i x (lt_of_some hx) hx
  refine ⟨G, 0, rfl, hG, ?_⟩
  rw [Nat.zero_add]
  exact ⟨(hB.cell _).trans h0, (hB.cell _).trans h1, (hB.cell _).trans h2, (hB.cell _).trans h3⟩
def ClonedB (xs : List Br) (w : World) (e : Ending) (w' : World) : Prop := ∃ A' c', e = .returned (.slice A' xs.length c') ∧ BrsAt w' w'.heap.size A' xs ∧ Below w.heap.size w w' ∧ (∀ g o, A' = some ⟨g, o, none⟩ → w.heap.size ≤ g)
theorem infoBr : (Tryd.prog.info? 105).map (fun i => (i.zero, i.size, i.bytes)) = some (some (.agg #[.int .i64 0, .string ⟨#[]⟩, .int .i64 0, .string ⟨#[]⟩]), 4, 48) := by kernel_rfl
theorem cloneB_nil (w : World) : Calls Tryd.prog 33 #[.slice none 0 0] w (ClonedB [] w) := by
  have hnil : ∀ W : World, (binOp .eql 46 (.slice none 0 0) (.slice none 0 0)).run Tryd.prog W = .ok (.bool true) W := fun W => Lib.run_eql_slice_nil W _ 105 none 0 0 0 0 Tryd.underlying46
  go_enter Tryd.func33, Tryd.ntmps33
  go_wp2_with fail
  go_ret
  exact ⟨none, 0, rfl, fun i x hx => by simp at hx, Below.refl _ _, fun g o h => by cases h⟩
set_option maxHeartbeats 4000000 in
theorem cloneB_some (a : Addr) (c : Nat) (xs : List Br) (w : World) (hx : BrsAt w w.heap.size (some a) xs) (hn : xs.length ≤ 1048576) :
    Calls Tryd.prog 33 #[.slice (some a) xs.length c] w (ClonedB xs w) := by
  have HX := Lib.hid hx
  clear hx
  obtain ⟨i0, hi, hz0, hz1, hz2⟩ := info_parts infoBr
  have hmk : ∀ W : World, (Instr.makeSlice 46 (.int .i64 (xs.length : Int)) (.int .i64 (xs.length : Int))).run Tryd.prog W = .ok (.slice (some ⟨W.heap.size, 0, none⟩) xs.length xs.length) (W.alloc (.cells (madeCells #[.int .i64 0, .string ⟨#[]⟩, .int .i64 0, .string ⟨#[]⟩] (xs.length * 4)) 105)) := by
    intro W
    have h := run_make_rowN (P := Tryd.prog) 46 105 i0 _ Tryd.underlying46 hi hz0 .i64 .i64 xs.length xs.length (Nat.le_refl _) (by rw [hz2]; omega) (by omega) W
    rw [hz1] at h
    exact h
  clear hi hz0 hz1 hz2 i0
  have hnil : ∀ W : World, (binOp .eql 46 (.slice (some a) xs.length c) (.slice none 0 0)).run Tryd.prog W = .ok (.bool false) W := fun W => Lib.run_eql_slice_nil W _ 105 (some a) xs.length c 0 0 Tryd.underlying46
  go_enter Tryd.func33, Tryd.ntmps33
  go_wp2_with fail
  clear hmk hnil
  go_loopw [4] (fun i wr => ∃ (j : Nat) (arr : Array Value), i = .int .i64 j ∧ j ≤ xs.length ∧ Blk wr w.heap.size 105 arr ∧ Hid (arr.size = xs.length * 4) ∧ Fill4 arr xs j ∧ Below w.heap.size w wr) (fun i _ => xs.length - (intOf i).toNat)
  case atStart => exact ⟨0, _, rfl, by omega, Blk.new _ _ _, by show _ = _; rw [size_madeCells], fun i x hi => absurd hi (by omega), (Below.refl _ _).alloc (Nat.le_refl _) _⟩
  case round =>
    obtain ⟨j, arr, rfl, hj, hB, hsz, hfl, hbw⟩ := hrel
    by_cases hlt : j < xs.length
    · obtain ⟨g, o, hA, hg, C⟩ := (BrsAt.below hbw HX.out) j _ (List.getElem?_eq_getElem hlt)
      injection hA with hA
      subst hA
      have HG := Lib.hid (List.getElem?_eq_getElem hlt)
      obtain ⟨x, hxx⟩ : ∃ x, Hid (xs[j] = x) := ⟨_, Lib.hid rfl⟩
      rw [hxx.out] at C HG
      obtain ⟨c0, c1, c2, c3⟩ := C
      have hz : j * 4 + 3 < arr.size := by rw [hsz.out]; omega
      obtain ⟨o0, q0⟩ : ∃ u, wr.cell? ⟨w.heap.size, j * 4, none⟩ = some u := ⟨_, (hB.cell _).trans (Array.getElem?_eq_getElem (by omega))⟩
      obtain ⟨o1, q1⟩ : ∃ u, wr.cell? ⟨w.heap.size, j * 4 + 1, none⟩ = some u := ⟨_, (hB.cell _).trans (Array.getElem?_eq_getElem (by omega))⟩
      obtain ⟨o2, q2⟩ : ∃ u, wr.cell? ⟨w.heap.size, j * 4 + 2, none⟩ = some u := ⟨_, (hB.cell _).trans (Array.getElem?_eq_getElem (by omega))⟩
      obtain ⟨o3, q3⟩ : ∃ u, wr.cell? ⟨w.heap.size, j * 4 + 3, none⟩ = some u := ⟨_, (hB.cell _).trans (Array.getElem?_eq_getElem (by omega))⟩
      have f0 := hB.frozen (j * 4)
      have f1 := hB.frozen (j * 4 + 1)
      have f2 := hB.frozen (j * 4 + 2)
      have f3 := hB.frozen (j * 4 + 3)
      have HF := Lib.hid hfl
      have HBk := Lib.hid hB
      clear hfl hB hxx
      go_wp2_with fail
      go_roundw
      case rel =>
        refine ⟨j + 1, put4 arr (j * 4) x, by go_num, by omega, ?_, by show _ = _; rw [put4_size]; exact hsz.out, HF.out.next HG.out hz, ?_⟩
        · exact (((HBk.out.set_ (j * 4) _).set_ (j * 4 + 1) _).set_ (j * 4 + 2) _).set_ (j * 4 + 3) _
        · exact (((hbw.setCell (Nat.le_refl _) _).setCell (Nat.le_refl _) _).setCell (Nat.le_refl _) _).setCell (Nat.le_refl _) _
      case measure => simp [intOf]; omega
    · go_wp2_with fail
      go_ret
      have hj2 : j = xs.length := by omega
      subst hj2
      exact ⟨_, _, rfl, hfl.at_ hB _ hB.lt, hbw, fun g o h => by injection h with h; injection h with h _ _; omega⟩
theorem cloneB_any (A : Option Addr) (c : Nat) (xs : List Br) (w : World) (hA : A = none → c = 0 ∧ xs = []) (hx : BrsAt w w.heap.size A xs) (hn : xs.length ≤ 1048576) :
    Calls Tryd.prog 33 #[.slice A xs.length c] w (ClonedB xs w) := by
  cases A with
  | none => obtain ⟨rfl, rfl⟩ := hA rfl; exact cloneB_nil w
  | some a => exact cloneB_some a c xs w hx hn
end Go.Proofs.YtooalmhelfaodaaDoor
