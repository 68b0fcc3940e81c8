/- Copies of slices of bytes and of strings. -/
import Derived.Lib.SliceRun
import Derived.Test.YtooalmhelfaodaaDoorChp
namespace Go.Proofs.YtooalmhelfaodaaDoor
open Go.RowKit
set_option maxRecDepth 100000
set_option linter.unusedVariables false
theorem set_at (arr : Array Value) (p : Nat) (v : Value) (h : p < arr.size) : (arr.setIfInBounds p v)[p]? = some v := by
  rw [Array.getElem?_setIfInBounds_self_of_lt h]
def RdAt (w : World) (B : Nat) (A : Option Addr) (xs : List Value) : Prop := ∀ i v, xs[i]? = some v → ∃ g o, A = some ⟨g, o, none⟩ ∧ g < B ∧ w.cell? ⟨g, o + i, none⟩ = some v
theorem RdAt.below {w w' : World} {B : Nat} {A : Option Addr} {xs : List Value} (hb : Below B w w') (h : RdAt w B A xs) : RdAt w' B A xs := fun i x hx => by
  obtain ⟨g, o, h1, h2, h3⟩ := h i x hx
  exact ⟨g, o, h1, h2, (hb.cell (p := ⟨g, o + i, none⟩) h2).trans h3⟩
theorem RdAt.mono {w : World} {B B' : Nat} {A : Option Addr} {xs : List Value} (hB : B ≤ B') (h : RdAt w B A xs) : RdAt w B' A xs := fun i x hx => by
  obtain ⟨g, o, h1, h2, h3⟩ := h i x hx
  exact ⟨g, o, h1, Nat.lt_of_lt_of_le h2 hB, h3⟩
theorem run_make_rowN {P : Program} (t e : TypeId) (i : TypeInfo) (z : Value) (ht : P.underlying t = some (.slice e)) (hi : P.info? e = some i) (hz : i.zero = some z)
    (kl kc : IntKind) (n c : Nat) (hnc : n ≤ c) (hbytes : i.bytes * c ≤ 281474976710656) (h63 : c ≤ 9223372036854775807) (w : World) :
    (Instr.makeSlice t (.int kl (n : Int)) (.int kc (c : Int))).run P w = .ok (.slice (some ⟨w.heap.size, 0, none⟩) n c) (w.alloc (.cells (madeCells z.cells (c * i.size)) e)) := by
  have hb : (i.bytes : Int) * (c : Int) ≤ 281474976710656 := by
    have h : ((i.bytes * c : Nat) : Int) ≤ 281474976710656 := by omega
    rwa [Int.natCast_mul] at h
  have hr := run_make (P := P) w t e i z ht hi hz kl kc n c (by omega) (by omega) hb (by omega)
  simp only [Int.toNat_natCast] at hr
  exact hr
/-- a new row whose first j cells are those of xs -/
def Fill1 (arr : Array Value) (xs : List Value) (j : Nat) : Prop := ∀ i v, i < j → xs[i]? = some v → arr[i]? = some v
theorem Fill1.next {arr : Array Value} {xs : List Value} {j : Nat} {x : Value} (h : Fill1 arr xs j) (hx : xs[j]? = some x) (hs : j < arr.size) : Fill1 (arr.setIfInBounds j x) xs (j + 1) := by
  intro i y hi hy
  by_cases hij : i = j
  · subst hij
    rw [hx] at hy
    injection hy with hy
    subst hy
    exact set_at _ _ _ hs
  · rw [Array.getElem?_setIfInBounds_ne (by omega)]
    exact h i y (by omega) hy
theorem lt_of_some {α : Type} {xs : List α} {i : Nat} {x : α} (hx : xs[i]? = some x) : i < xs.length := by
  rcases Nat.lt_or_ge i xs.length with hlt | hge
  · exact hlt
  · rw [List.getElem?_eq_none hge] at hx; cases hx
theorem Fill1.at_ {w : World} {G : Nat} {arr : Array Value} {xs : List Value} {t : TypeId} (hB : Blk w G t arr) (h : Fill1 arr xs xs.length) (B : Nat) (hG : G < B) : RdAt w B (some ⟨G, 0, none⟩) xs := by
  intro i x hx
  refine ⟨G, 0, rfl, hG, ?_⟩
  rw [Nat.zero_add]
  exact (hB.cell _).trans (h i x (lt_of_some hx) hx)
/-- the copy -/
def Copied (xs : List Value) (w : World) (e : Ending) (w' : World) : Prop :=
  ∃ A c, e = .returned (.slice A xs.length c) ∧ RdAt w' w'.heap.size A xs ∧ Below w.heap.size w w'
theorem info_cloneU8s : (Tryd.prog.info? 5).map (fun i => (i.zero, i.size, i.bytes)) = some (some (.int .u8 0), 1, 1) := by kernel_rfl
theorem cloneU8s_nil (w : World) : Calls Tryd.prog 39 #[.slice none 0 0] w (Copied [] w) := by
  have hnil : ∀ W : World, (binOp .eql 56 (.slice none 0 0) (.slice none 0 0)).run Tryd.prog W = .ok (.bool true) W := fun W => Lib.run_eql_slice_nil W _ 5 none 0 0 0 0 Tryd.underlying56
  go_enter Tryd.func39, Tryd.ntmps39
  go_wp2_with fail
  go_ret
  exact ⟨none, 0, rfl, fun i x hx => by simp at hx, Below.refl _ _⟩
set_option maxHeartbeats 4000000 in
theorem cloneU8s_some (a : Addr) (c : Nat) (xs : List Value) (w : World) (hx : RdAt w w.heap.size (some a) xs) (h1 : ∀ x ∈ xs, ∃ y, x = .int .u8 y) (hn : xs.length ≤ 1048576) :
    Calls Tryd.prog 39 #[.slice (some a) xs.length c] w (Copied xs w) := by
  have HX := Lib.hid hx
  have H1 := Lib.hid h1
  clear hx h1
  obtain ⟨i0, hi, hz0, hz1, hz2⟩ := info_parts info_cloneU8s
  have hmk : ∀ W : World, (Instr.makeSlice 56 (.int .i64 (xs.length : Int)) (.int .i64 (xs.length : Int))).run Tryd.prog W = .ok (.slice (some ⟨W.heap.size, 0, none⟩) xs.length xs.length) (W.alloc (.cells (madeCells #[.int .u8 0] (xs.length * 1)) 5)) := by
    intro W
    have h := run_make_rowN (P := Tryd.prog) 56 5 i0 _ Tryd.underlying56 hi hz0 .i64 .i64 xs.length xs.length (Nat.le_refl _) (by rw [hz2]; omega) (by omega) W
    rw [hz1] at h
    exact h
  clear hi hz0 hz1 hz2 i0
  have hnil : ∀ W : World, (binOp .eql 56 (.slice (some a) xs.length c) (.slice none 0 0)).run Tryd.prog W = .ok (.bool false) W := fun W => Lib.run_eql_slice_nil W _ 5 (some a) xs.length c 0 0 Tryd.underlying56
  go_enter Tryd.func39, Tryd.ntmps39
  go_wp2_with fail
  clear hmk hnil
  go_loopw [4] (fun i wr => ∃ (j : Nat) (arr : Array Value), i = .int .i64 j ∧ j ≤ xs.length ∧ Blk wr w.heap.size 5 arr ∧ Hid (arr.size = xs.length) ∧ Fill1 arr xs j ∧ Below w.heap.size w wr) (fun i _ => xs.length - (intOf i).toNat)
  case atStart => exact ⟨0, _, rfl, by omega, Blk.new _ _ _, by show _ = _; rw [size_madeCells], fun i x hi => absurd hi (by omega), (Below.refl _ _).alloc (Nat.le_refl _) _⟩
  case round =>
    obtain ⟨j, arr, rfl, hj, hB, hsz, hfl, hbw⟩ := hrel
    by_cases hlt : j < xs.length
    · obtain ⟨g, o, hA, hg, c0⟩ := (RdAt.below hbw HX.out) j _ (List.getElem?_eq_getElem hlt)
      injection hA with hA
      subst hA
      have HG := Lib.hid (List.getElem?_eq_getElem hlt)
      obtain ⟨x, hxx⟩ : ∃ x, Hid (xs[j] = x) := ⟨_, Lib.hid rfl⟩
      have hv := H1.out _ (List.getElem_mem hlt)
      rw [hxx.out] at c0 HG hv
      obtain ⟨y, rfl⟩ := hv
      have hz : j < arr.size := by rw [hsz.out]; omega
      obtain ⟨o0, q0⟩ : ∃ u, wr.cell? ⟨w.heap.size, j, none⟩ = some u := ⟨_, (hB.cell _).trans (Array.getElem?_eq_getElem (by omega))⟩
      have f0 := hB.frozen j
      have HF := Lib.hid hfl
      have HBk := Lib.hid hB
      clear hfl hB hxx
      go_wp2_with fail
      go_roundw
      case rel => exact ⟨j + 1, _, by go_num, by omega, HBk.out.set_ j _, by show _ = _; rw [Array.size_setIfInBounds]; exact hsz.out, HF.out.next HG.out hz, hbw.setCell (Nat.le_refl _) _⟩
      case measure => simp [intOf]; omega
    · go_wp2_with fail
      go_ret
      have hj2 : j = xs.length := by omega
      subst hj2
      exact ⟨_, _, rfl, hfl.at_ hB _ hB.lt, hbw⟩
theorem info_cloneStrs : (Tryd.prog.info? 9).map (fun i => (i.zero, i.size, i.bytes)) = some (some (.string ⟨#[]⟩), 1, 16) := by kernel_rfl
theorem cloneStrs_nil (w : World) : Calls Tryd.prog 40 #[.slice none 0 0] w (Copied [] w) := by
  have hnil : ∀ W : World, (binOp .eql 57 (.slice none 0 0) (.slice none 0 0)).run Tryd.prog W = .ok (.bool true) W := fun W => Lib.run_eql_slice_nil W _ 9 none 0 0 0 0 Tryd.underlying57
  go_enter Tryd.func40, Tryd.ntmps40
  go_wp2_with fail
  go_ret
  exact ⟨none, 0, rfl, fun i x hx => by simp at hx, Below.refl _ _⟩
set_option maxHeartbeats 4000000 in
theorem cloneStrs_some (a : Addr) (c : Nat) (xs : List Value) (w : World) (hx : RdAt w w.heap.size (some a) xs) (h1 : ∀ x ∈ xs, ∃ y, x = .string y) (hn : xs.length ≤ 1048576) :
    Calls Tryd.prog 40 #[.slice (some a) xs.length c] w (Copied xs w) := by
  have HX := Lib.hid hx
  have H1 := Lib.hid h1
  clear hx h1
  obtain ⟨i0, hi, hz0, hz1, hz2⟩ := info_parts info_cloneStrs
  have hmk : ∀ W : World, (Instr.makeSlice 57 (.int .i64 (xs.length : Int)) (.int .i64 (xs.length : Int))).run Tryd.prog W = .ok (.slice (some ⟨W.heap.size, 0, none⟩) xs.length xs.length) (W.alloc (.cells (madeCells #[.string ⟨#[]⟩] (xs.length * 1)) 9)) := by
    intro W
    have h := run_make_rowN (P := Tryd.prog) 57 9 i0 _ Tryd.underlying57 hi hz0 .i64 .i64 xs.length xs.length (Nat.le_refl _) (by rw [hz2]; omega) (by omega) W
    rw [hz1] at h
    exact h
  clear hi hz0 hz1 hz2 i0
  have hnil : ∀ W : World, (binOp .eql 57 (.slice (some a) xs.length c) (.slice none 0 0)).run Tryd.prog W = .ok (.bool false) W := fun W => Lib.run_eql_slice_nil W _ 9 (some a) xs.length c 0 0 Tryd.underlying57
  go_enter Tryd.func40, Tryd.ntmps40
  go_wp2_with fail
  clear hmk hnil
  go_loopw [4] (fun i wr => ∃ (j : Nat) (arr : Array Value), i = .int .i64 j ∧ j ≤ xs.length ∧ Blk wr w.heap.size 9 arr ∧ Hid (arr.size = xs.length) ∧ Fill1 arr xs j ∧ Below w.heap.size w wr) (fun i _ => xs.length - (intOf i).toNat)
  case atStart => exact ⟨0, _, rfl, by omega, Blk.new _ _ _, by show _ = _; rw [size_madeCells], fun i x hi => absurd hi (by omega), (Below.refl _ _).alloc (Nat.le_refl _) _⟩
  case round =>
    obtain ⟨j, arr, rfl, hj, hB, hsz, hfl, hbw⟩ := hrel
    by_cases hlt : j < xs.length
    · obtain ⟨g, o, hA, hg, c0⟩ := (RdAt.below hbw HX.out) j _ (List.getElem?_eq_getElem hlt)
      injection hA with hA
      subst hA
      have HG := Lib.hid (List.getElem?_eq_getElem hlt)
      obtain ⟨x, hxx⟩ : ∃ x, Hid (xs[j] = x) := ⟨_, Lib.hid rfl⟩
      have hv := H1.out _ (List.getElem_mem hlt)
      rw [hxx.out] at c0 HG hv
      obtain ⟨y, rfl⟩ := hv
      have hz : j < arr.size := by rw [hsz.out]; omega
      obtain ⟨o0, q0⟩ : ∃ u, wr.cell? ⟨w.heap.size, j, none⟩ = some u := ⟨_, (hB.cell _).trans (Array.getElem?_eq_getElem (by omega))⟩
      have f0 := hB.frozen j
      have HF := Lib.hid hfl
      have HBk := Lib.hid hB
      clear hfl hB hxx
      go_wp2_with fail
      go_roundw
      case rel => exact ⟨j + 1, _, by go_num, by omega, HBk.out.set_ j _, by show _ = _; rw [Array.size_setIfInBounds]; exact hsz.out, HF.out.next HG.out hz, hbw.setCell (Nat.le_refl _) _⟩
      case measure => simp [intOf]; omega
    · go_wp2_with fail
      go_ret
      have hj2 : j = xs.length := by omega
      subst hj2
      exact ⟨_, _, rfl, hfl.at_ hB _ hB.lt, hbw⟩
end Go.Proofs.YtooalmhelfaodaaDoor
