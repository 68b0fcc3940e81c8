/- Copies of slices of ints and of strings. -/
import Derived.Test.YtbkakiipaehleaaBlk
namespace Go.Proofs.Ytbkakiipaehleaa
open Go.RowKit
set_option maxRecDepth 100000
set_option linter.unusedVariables false
theorem info_cloneInts : (Try.prog.info? 3).map (fun i => (i.zero, i.size, i.bytes)) = some (some (.int .i64 0), 1, 8) := by kernel_rfl
theorem cloneInts_nil (w : World) : Calls Try.prog 29 #[.slice none 0 0] w (Copied [] w) := by
  have hnil : ∀ W : World, (binOp .eql 23 (.slice none 0 0) (.slice none 0 0)).run Try.prog W = .ok (.bool true) W := fun W => Lib.run_eql_slice_nil W _ 3 none 0 0 0 0 Try.underlying23
  go_enter Try.func29, Try.ntmps29
  go_wp2_with fail
  go_ret
  exact ⟨none, 0, rfl, fun i x hx => by simp at hx, Below.refl _ _⟩
set_option maxHeartbeats 4000000 in
theorem cloneInts_some (a : Addr) (c : Nat) (xs : List Value) (w : World) (hx : RdAt w w.heap.size (some a) xs) (h1 : ∀ x ∈ xs, ∃ y, x = .int .i64 y) (hn : xs.length ≤ 1048576) :
    Calls Try.prog 29 #[.slice (some a) xs.length c] w (Copied xs w) := by
  have HX := Lib.hid hx
  have H1 := Lib.hid h1
  clear hx h1
  obtain ⟨i0, hi, hz0, hz1, hz2⟩ := info_parts info_cloneInts
  have hmk : ∀ W : World, (Instr.makeSlice 23 (.int .i64 (xs.length : Int)) (.int .i64 (xs.length : Int))).run Try.prog W = .ok (.slice (some ⟨W.heap.size, 0, none⟩) xs.length xs.length) (W.alloc (.cells (madeCells #[.int .i64 0] (xs.length * 1)) 3)) := by
    intro W
    have h := run_make_rowN (P := Try.prog) 23 3 i0 _ Try.underlying23 hi hz0 .i64 .i64 xs.length xs.length (Nat.le_refl _) (by rw [hz2]; omega) (by omega) W
    rw [hz1] at h
    exact h
  clear hi hz0 hz1 hz2 i0
  have hnil : ∀ W : World, (binOp .eql 23 (.slice (some a) xs.length c) (.slice none 0 0)).run Try.prog W = .ok (.bool false) W := fun W => Lib.run_eql_slice_nil W _ 3 (some a) xs.length c 0 0 Try.underlying23
  go_enter Try.func29, Try.ntmps29
  go_wp2_with fail
  clear hmk hnil
  go_loopw [4] (fun i wr => ∃ (j : Nat) (arr : Array Value), i = .int .i64 j ∧ j ≤ xs.length ∧ Blk wr w.heap.size 3 arr ∧ Hid (arr.size = xs.length) ∧ Fill1 arr xs j ∧ Below w.heap.size w wr) (fun i _ => xs.length - (intOf i).toNat)
  case atStart => exact ⟨0, _, rfl, by omega, Blk.new _ _ _, by show _ = _; rw [size_madeCells], fun i x hi => absurd hi (by omega), (Below.refl _ _).alloc (Nat.le_refl _) _⟩
  case round =>
    obtain ⟨j, arr, rfl, hj, hB, hsz, hfl, hbw⟩ := hrel
    by_cases hlt : j < xs.length
    · obtain ⟨g, o, hA, hg, c0⟩ := (RdAt.below hbw HX.out) j _ (List.getElem?_eq_getElem hlt)
      injection hA with hA
      subst hA
      have HG := Lib.hid (List.getElem?_eq_getElem hlt)
      obtain ⟨x, hxx⟩ : ∃ x, Hid (xs[j] = x) := ⟨_, Lib.hid rfl⟩
      have hv := H1.out _ (List.getElem_mem hlt)
      rw [hxx.out] at c0 HG hv
      obtain ⟨y, rfl⟩ := hv
      have hz : j < arr.size := by rw [hsz.out]; omega
      obtain ⟨o0, q0⟩ : ∃ u, wr.cell? ⟨w.heap.size, j, none⟩ = some u := ⟨_, (hB.cell _).trans (Array.getElem?_eq_getElem (by omega))⟩
      have f0 := hB.frozen j
      have HF := Lib.hid hfl
      have HBk := Lib.hid hB
      clear hfl hB hxx
      go_wp2_with fail
      go_roundw
      case rel => exact ⟨j + 1, _, by go_num, by omega, HBk.out.set_ j _, by show _ = _; rw [Array.size_setIfInBounds]; exact hsz.out, HF.out.next HG.out hz, hbw.setCell (Nat.le_refl _) _⟩
      case measure => simp [intOf]; omega
    · go_wp2_with fail
      go_ret
      have hj2 : j = xs.length := by omega
      subst hj2
      exact ⟨_, _, rfl, hfl.at_ hB _ hB.lt, hbw⟩
theorem info_cloneStrs : (Try.prog.info? 9).map (fun i => (i.zero, i.size, i.bytes)) = some (some (.string ⟨#[]⟩), 1, 16) := by kernel_rfl
theorem cloneStrs_nil (w : World) : Calls Try.prog 23 #[.slice none 0 0] w (Copied [] w) := by
  have hnil : ∀ W : World, (binOp .eql 39 (.slice none 0 0) (.slice none 0 0)).run Try.prog W = .ok (.bool true) W := fun W => Lib.run_eql_slice_nil W _ 9 none 0 0 0 0 Try.underlying39
  go_enter Try.func23, Try.ntmps23
  go_wp2_with fail
  go_ret
  exact ⟨none, 0, rfl, fun i x hx => by simp at hx, Below.refl _ _⟩
set_option maxHeartbeats 4000000 in
theorem cloneStrs_some (a : Addr) (c : Nat) (xs : List Value) (w : World) (hx : RdAt w w.heap.size (some a) xs) (h1 : ∀ x ∈ xs, ∃ y, x = .string y) (hn : xs.length ≤ 1048576) :
    Calls Try.prog 23 #[.slice (some a) xs.length c] w (Copied xs w) := by
  have HX := Lib.hid hx
  have H1 := Lib.hid h1
  clear hx h1
  obtain ⟨i0, hi, hz0, hz1, hz2⟩ := info_parts info_cloneStrs
  have hmk : ∀ W : World, (Instr.makeSlice 39 (.int .i64 (xs.length : Int)) (.int .i64 (xs.length : Int))).run Try.prog W = .ok (.slice (some ⟨W.heap.size, 0, none⟩) xs.length xs.length) (W.alloc (.cells (madeCells #[.string ⟨#[]⟩] (xs.length * 1)) 9)) := by
    intro W
    have h := run_make_rowN (P := Try.prog) 39 9 i0 _ Try.underlying39 hi hz0 .i64 .i64 xs.length xs.length (Nat.le_refl _) (by rw [hz2]; omega) (by omega) W
    rw [hz1] at h
    exact h
  clear hi hz0 hz1 hz2 i0
  have hnil : ∀ W : World, (binOp .eql 39 (.slice (some a) xs.length c) (.slice none 0 0)).run Try.prog W = .ok (.bool false) W := fun W => Lib.run_eql_slice_nil W _ 9 (some a) xs.length c 0 0 Try.underlying39
  go_enter Try.func23, Try.ntmps23
  go_wp2_with fail
  clear hmk hnil
  go_loopw [4] (fun i wr => ∃ (j : Nat) (arr : Array Value), i = .int .i64 j ∧ j ≤ xs.length ∧ Blk wr w.heap.size 9 arr ∧ Hid (arr.size = xs.length) ∧ Fill1 arr xs j ∧ Below w.heap.size w wr) (fun i _ => xs.length - (intOf i).toNat)
  case atStart => exact ⟨0, _, rfl, by omega, Blk.new _ _ _, by show _ = _; rw [size_madeCells], fun i x hi => absurd hi (by omega), (Below.refl _ _).alloc (Nat.le_refl _) _⟩
  case round =>
    obtain ⟨j, arr, rfl, hj, hB, hsz, hfl, hbw⟩ := hrel
    by_cases hlt : j < xs.length
    · obtain ⟨g, o, hA, hg, c0⟩ := (RdAt.below hbw HX.out) j _ (List.getElem?_eq_getElem hlt)
      injection hA with hA
      subst hA
      have HG := Lib.hid (List.getElem?_eq_getElem hlt)
      obtain ⟨x, hxx⟩ : ∃ x, Hid (xs[j] = x) := ⟨_, Lib.hid rfl⟩
      have hv := H1.out _ (List.getElem_mem hlt)
      rw [hxx.out] at c0 HG hv
      obtain ⟨y, rfl⟩ := hv
      have hz : j < arr.size := by rw [hsz.out]; omega
      obtain ⟨o0, q0⟩ : ∃ u, wr.cell? ⟨w.heap.size, j, none⟩ = some u := ⟨_, (hB.cell _).trans (Array.getElem?_eq_getElem (by omega))⟩
      have f0 := hB.frozen j
      have HF := Lib.hid hfl
      have HBk := Lib.hid hB
      clear hfl hB hxx
      go_wp2_with fail
      go_roundw
      case rel => exact ⟨j + 1, _, by go_num, by omega, HBk.out.set_ j _, by show _ = _; rw [Array.size_setIfInBounds]; exact hsz.out, HF.out.next HG.out hz, hbw.setCell (Nat.le_refl _) _⟩
      case measure => simp [intOf]; omega
    · go_wp2_with fail
      go_ret
      have hj2 : j = xs.length := by omega
      subst hj2
      exact ⟨_, _, rfl, hfl.at_ hB _ hB.lt, hbw⟩
end Go.Proofs.Ytbkakiipaehleaa
