/- cloneKVs: a copy of the list in new memory. -/
import Derived.Test.YtooalmhelfaodaaDoorKvs2
import Derived.WalkSpells
namespace Go.Proofs.YtooalmhelfaodaaDoor
open Go.RowKit
set_option maxRecDepth 100000
set_option linter.unusedVariables false
theorem run_make_rowN {P : Program} (t e : TypeId) (i : TypeInfo) (z : Value) (ht : P.underlying t = some (.slice e)) (hi : P.info? e = some i) (hz : i.zero = some z)
    (kl kc : IntKind) (n c : Nat) (hnc : n ≤ c) (hbytes : i.bytes * c ≤ 281474976710656) (h63 : c ≤ 9223372036854775807) (w : World) :
    (Instr.makeSlice t (.int kl (n : Int)) (.int kc (c : Int))).run P w = .ok (.slice (some ⟨w.heap.size, 0, none⟩) n c) (w.alloc (.cells (madeCells z.cells (c * i.size)) e)) := by
  have hb : (i.bytes : Int) * (c : Int) ≤ 281474976710656 := by
    have h : ((i.bytes * c : Nat) : Int) ≤ 281474976710656 := by omega
    rwa [Int.natCast_mul] at h
  have hr := run_make (P := P) w t e i z ht hi hz kl kc n c (by omega) (by omega) hb (by omega)
  simp only [Int.toNat_natCast] at hr
  exact hr
theorem infoKV : (Tryd.prog.info? 23).map (fun i => (i.zero, i.size, i.bytes)) = some (some (.agg #[.string ⟨#[]⟩, .int .i64 0, .string ⟨#[]⟩, .int .i64 0, .string ⟨#[]⟩]), 5, 64) := by kernel_rfl
def put5 (arr : Array Value) (p : Nat) (x : KVd) : Array Value := ((((arr.setIfInBounds p (.string x.k)).setIfInBounds (p + 1) (.int .i64 x.km)).setIfInBounds (p + 2) (.string x.n)).setIfInBounds (p + 3) (.int .i64 x.vm)).setIfInBounds (p + 4) (.string x.v)
theorem put5_far (arr : Array Value) (p q : Nat) (x : KVd) (h : q < p) : (put5 arr p x)[q]? = arr[q]? := by
  unfold put5
  rw [Array.getElem?_setIfInBounds_ne (by omega), Array.getElem?_setIfInBounds_ne (by omega), Array.getElem?_setIfInBounds_ne (by omega), Array.getElem?_setIfInBounds_ne (by omega), Array.getElem?_setIfInBounds_ne (by omega)]
theorem put5_size (arr : Array Value) (p : Nat) (x : KVd) : (put5 arr p x).size = arr.size := by simp [put5]
theorem set_at (arr : Array Value) (p : Nat) (v : Value) (h : p < arr.size) : (arr.setIfInBounds p v)[p]? = some v := by
  rw [Array.getElem?_setIfInBounds_self_of_lt h]
theorem put5_at (arr : Array Value) (p : Nat) (x : KVd) (h : p + 4 < arr.size) : (put5 arr p x)[p]? = some (.string x.k) ∧ (put5 arr p x)[p + 1]? = some (.int .i64 x.km) ∧ (put5 arr p x)[p + 2]? = some (.string x.n) ∧ (put5 arr p x)[p + 3]? = some (.int .i64 x.vm) ∧ (put5 arr p x)[p + 4]? = some (.string x.v) := by
  unfold put5
  refine ⟨?_, ?_, ?_, ?_, ?_⟩
  · rw [Array.getElem?_setIfInBounds_ne (by omega), Array.getElem?_setIfInBounds_ne (by omega), Array.getElem?_setIfInBounds_ne (by omega), Array.getElem?_setIfInBounds_ne (by omega)]; exact set_at _ _ _ (by omega)
  · rw [Array.getElem?_setIfInBounds_ne (by omega), Array.getElem?_setIfInBounds_ne (by omega), Array.getElem?_setIfInBounds_ne (by omega)]; exact set_at _ _ _ (by simp; omega)
  · rw [Array.getElem?_setIfInBounds_ne (by omega), Array.getElem?_setIfInBounds_ne (by omega)]; exact set_at _ _ _ (by simp; omega)
  · rw [Array.getElem?_setIfInBounds_ne (by omega)]; exact set_at _ _ _ (by simp; omega)
  · exact set_at _ _ _ (by simp; omega)
/-- the first j descriptions lie in the array -/
def Filled (arr : Array Value) (xs : List KVd) (j : Nat) : Prop := ∀ i x, i < j → xs[i]? = some x → arr[i * 5]? = some (.string x.k) ∧ arr[i * 5 + 1]? = some (.int .i64 x.km) ∧ arr[i * 5 + 2]? = some (.string x.n) ∧ arr[i * 5 + 3]? = some (.int .i64 x.vm) ∧ arr[i * 5 + 4]? = some (.string x.v)
theorem Filled.next {arr : Array Value} {xs : List KVd} {j : Nat} {x : KVd} (h : Filled arr xs j) (hx : xs[j]? = some x) (hs : j * 5 + 4 < arr.size) : Filled (put5 arr (j * 5) x) xs (j + 1) := by
  intro i y hi hy
  by_cases hij : i = j
  · subst hij
    rw [hx] at hy
    injection hy with hy
    subst hy
    exact put5_at _ _ _ hs
  · have hlt : i < j := by omega
    rw [put5_far _ _ _ _ (by omega), put5_far _ _ _ _ (by omega), put5_far _ _ _ _ (by omega), put5_far _ _ _ _ (by omega), put5_far _ _ _ _ (by omega)]
    exact h i y hlt hy
theorem Filled.at_ {w : World} {G : Nat} {arr : Array Value} {xs : List KVd} {t : TypeId} (hB : Blk w G t arr) (h : Filled arr xs xs.length) (B : Nat) (hG : G < B) : KvsAt w B (some ⟨G, 0, none⟩) xs := by
  intro i x hx
  obtain ⟨h0, h1, h2, h3, h4⟩ := h i x (by
    rcases Nat.lt_or_ge i xs.length with hlt | hge
    · exact hlt
    · rw [List.getElem?_eq_none hge] at hx; cases hx) hx
  refine ⟨G, 0, rfl, hG, ?_⟩
  rw [Nat.zero_add]
  exact ⟨(hB.cell _).trans h0, (hB.cell _).trans h1, (hB.cell _).trans h2, (hB.cell _).trans h3, (hB.cell _).trans h4⟩
/-- the copy: nil stays nil -/
def Cloned (A : Option Addr) (c : Nat) (xs : List KVd) (w : World) (e : Ending) (w' : World) : Prop :=
  ∃ A' c', e = .returned (.slice A' xs.length c') ∧ KvsAt w' w'.heap.size A' xs ∧ Below w.heap.size w w'
theorem clone_nil (w : World) : Calls Tryd.prog 25 #[.slice none 0 0] w (Cloned none 0 [] w) := by
  have hnil : ∀ W : World, (binOp .eql 36 (.slice none 0 0) (.slice none 0 0)).run Tryd.prog W = .ok (.bool true) W := fun W => Lib.run_eql_slice_nil W _ 23 none 0 0 0 0 Tryd.underlying36
  go_enter Tryd.func25, Tryd.ntmps25
  go_wp2_with fail
  go_ret
  exact ⟨none, 0, rfl, fun i x hx => by simp at hx, Below.refl _ _⟩
set_option maxHeartbeats 4000000 in
theorem clone_some (a : Addr) (c : Nat) (xs : List KVd) (w : World) (hx : KvsAt w w.heap.size (some a) xs) (hn : xs.length ≤ 1048576) :
    Calls Tryd.prog 25 #[.slice (some a) xs.length c] w (Cloned (some a) c xs w) := by
  have HX := Lib.hid hx
  clear hx
  obtain ⟨i0, hi, hz0, hz1, hz2⟩ := info_parts infoKV
  have hmk : ∀ W : World, (Instr.makeSlice 36 (.int .i64 (xs.length : Int)) (.int .i64 (xs.length : Int))).run Tryd.prog W = .ok (.slice (some ⟨W.heap.size, 0, none⟩) xs.length xs.length) (W.alloc (.cells (madeCells #[.string ⟨#[]⟩, .int .i64 0, .string ⟨#[]⟩, .int .i64 0, .string ⟨#[]⟩] (xs.length * 5)) 23)) := by
    intro W
    have h := run_make_rowN (P := Tryd.prog) 36 23 i0 _ Tryd.underlying36 hi hz0 .i64 .i64 xs.length xs.length (Nat.le_refl _) (by rw [hz2]; omega) (by omega) W
    rw [hz1] at h
    exact h
  clear hi hz0 hz1 hz2 i0
  have hnil : ∀ W : World, (binOp .eql 36 (.slice (some a) xs.length c) (.slice none 0 0)).run Tryd.prog W = .ok (.bool false) W := fun W => Lib.run_eql_slice_nil W _ 23 (some a) xs.length c 0 0 Tryd.underlying36
  go_enter Tryd.func25, Tryd.ntmps25
  go_wp2_with fail
  clear hmk hnil
  go_loopw [4] (fun i wr => ∃ (j : Nat) (arr : Array Value), i = .int .i64 j ∧ j ≤ xs.length ∧ Blk wr w.heap.size 23 arr ∧ Hid (arr.size = xs.length * 5) ∧ Filled arr xs j ∧ Below w.heap.size w wr) (fun i _ => xs.length - (intOf i).toNat)
  case atStart => exact ⟨0, _, rfl, by omega, Blk.new _ _ _, by show _ = _; rw [size_madeCells], fun i x hi => absurd hi (by omega), (Below.refl _ _).alloc (Nat.le_refl _) _⟩
  case round =>
    obtain ⟨j, arr, rfl, hj, hB, hsz, hfl, hbw⟩ := hrel
    by_cases hlt : j < xs.length
    · obtain ⟨g, o, hA, hg, C⟩ := (KvsAt.below hbw HX.out) j _ (List.getElem?_eq_getElem hlt)
      injection hA with hA
      subst hA
      have HG := Lib.hid (List.getElem?_eq_getElem hlt)
      obtain ⟨x, hxx⟩ : ∃ x, Hid (xs[j] = x) := ⟨_, Lib.hid rfl⟩
      rw [hxx.out] at C HG
      obtain ⟨c0, c1, c2, c3, c4⟩ := C
      have hz : j * 5 + 4 < arr.size := by rw [hsz.out]; omega
      obtain ⟨o0, q0⟩ : ∃ u, wr.cell? ⟨w.heap.size, j * 5, none⟩ = some u := ⟨_, (hB.cell _).trans (Array.getElem?_eq_getElem (by omega))⟩
      obtain ⟨o1, q1⟩ : ∃ u, wr.cell? ⟨w.heap.size, j * 5 + 1, none⟩ = some u := ⟨_, (hB.cell _).trans (Array.getElem?_eq_getElem (by omega))⟩
      obtain ⟨o2, q2⟩ : ∃ u, wr.cell? ⟨w.heap.size, j * 5 + 2, none⟩ = some u := ⟨_, (hB.cell _).trans (Array.getElem?_eq_getElem (by omega))⟩
      obtain ⟨o3, q3⟩ : ∃ u, wr.cell? ⟨w.heap.size, j * 5 + 3, none⟩ = some u := ⟨_, (hB.cell _).trans (Array.getElem?_eq_getElem (by omega))⟩
      obtain ⟨o4, q4⟩ : ∃ u, wr.cell? ⟨w.heap.size, j * 5 + 4, none⟩ = some u := ⟨_, (hB.cell _).trans (Array.getElem?_eq_getElem (by omega))⟩
      have f0 := hB.frozen (j * 5)
      have f1 := hB.frozen (j * 5 + 1)
      have f2 := hB.frozen (j * 5 + 2)
      have f3 := hB.frozen (j * 5 + 3)
      have f4 := hB.frozen (j * 5 + 4)
      have HF := Lib.hid hfl
      have HBk := Lib.hid hB
      clear hfl hB hxx
      go_wp2_with fail
      go_roundw
      case rel =>
        refine ⟨j + 1, put5 arr (j * 5) x, by go_num, by omega, ?_, by show _ = _; rw [put5_size]; exact hsz.out, HF.out.next HG.out hz, ?_⟩
        · exact ((((HBk.out.set_ (j * 5) _).set_ (j * 5 + 1) _).set_ (j * 5 + 2) _).set_ (j * 5 + 3) _).set_ (j * 5 + 4) _
        · exact ((((hbw.setCell (Nat.le_refl _) _).setCell (Nat.le_refl _) _).setCell (Nat.le_refl _) _).setCell (Nat.le_refl _) _).setCell (Nat.le_refl _) _
      case measure => simp [intOf]; omega
    · go_wp2_with fail
      go_ret
      have hj2 : j = xs.length := by omega
      subst hj2
      exact ⟨_, _, rfl, hfl.at_ hB _ hB.lt, hbw⟩
end Go.Proofs.YtooalmhelfaodaaDoor
