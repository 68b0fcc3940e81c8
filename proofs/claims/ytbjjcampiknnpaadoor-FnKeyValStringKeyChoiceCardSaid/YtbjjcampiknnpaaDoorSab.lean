/- strArray: an array of constant terms, one for each string. -/
import Derived.Test.YtbjjcampiknnpaaDoorSar
namespace Go.Proofs.YtbjjcampiknnpaaDoor
open Go.RowKit
set_option maxRecDepth 100000
set_option linter.unusedVariables false
set_option linter.unusedSimpArgs false
def Keeps (bad : TypeId) (w w' : World) : Prop := ∀ g t cs, t ≠ bad → Blk w g t cs → Blk w' g t cs
theorem Keeps.set_ {w : World} {G : Nat} {bad : TypeId} {arr : Array Value} (hG : Blk w G bad arr) (i : Nat) (u : Value) : Keeps bad w (w.setCell ⟨G, i, none⟩ u) := by
  intro g t cs ht h
  refine h.far (p := ⟨G, i, none⟩) ?_ u
  rintro rfl
  unfold Blk at h hG
  rw [h] at hG
  injection hG with hG
  injection hG with _ hG
  exact ht hG
theorem infoCt : (Tryd.prog.info? 57).map (fun i => (i.zero, i.size, i.bytes)) = some (some (.pointer none), 1, 8) := by kernel_rfl
/-- the row so far -/
def PtrT (w : World) (arr : Array Value) (xs : List ByteArray) (j : Nat) : Prop := ∀ i s, i < j → xs[i]? = some s → ∃ t, arr[i]? = some (.pointer (some ⟨t, 0, none⟩)) ∧ t < w.heap.size ∧ Blk w t 73 (ctS s)
def SR (w0 : World) (R : Nat) (xs : List ByteArray) (j : Nat) (arr : Array Value) (w : World) : Prop :=
  Blk w R 57 arr ∧ arr.size = xs.length ∧ PtrT w arr xs j ∧ Below w0.heap.size w0 w ∧ w0.heap.size ≤ R
theorem sr_next {w0 w : World} {R j : Nat} {xs : List ByteArray} {arr : Array Value} {s : ByteArray} (h : SR w0 R xs j arr w) (hs : xs[j]? = some s) :
    SR w0 R xs (j + 1) (arr.setIfInBounds j (.pointer (some ⟨w.heap.size, 0, none⟩))) ((w.setCell ⟨R, j, none⟩ (.pointer (some ⟨w.heap.size, 0, none⟩))).alloc (.cells (ctS s) 73)) := by
  obtain ⟨h1, hsz, h2, h3, h4⟩ := h
  have hjl := lt_of_some hs
  have hz : (w.setCell ⟨R, j, none⟩ (.pointer (some ⟨w.heap.size, 0, none⟩))).heap.size = w.heap.size := by simp [World.setCell]
  have hk : Keeps 57 w (w.setCell ⟨R, j, none⟩ (.pointer (some ⟨w.heap.size, 0, none⟩))) := Keeps.set_ h1 j _
  have k7 := h1.set_ j (.pointer (some ⟨w.heap.size, 0, none⟩))
  have k8 := h3.setCell h4 (p := ⟨R, j, none⟩) (.pointer (some ⟨w.heap.size, 0, none⟩))
  have k9 : PtrT (w.setCell ⟨R, j, none⟩ (.pointer (some ⟨w.heap.size, 0, none⟩))) arr xs j := fun i x hi hx => by
    obtain ⟨t, t1, t2, t3⟩ := h2 i x hi hx
    exact ⟨t, t1, by rw [hz]; exact t2, hk _ _ _ (by decide) t3⟩
  generalize w.setCell ⟨R, j, none⟩ (.pointer (some ⟨w.heap.size, 0, none⟩)) = w2 at *
  have hE := Blk.new w2 73 (ctS s)
  rw [hz] at hE
  have hz2 : (w2.alloc (.cells (ctS s) 73)).heap.size = w.heap.size + 1 := by simp [hz]
  refine ⟨k7.alloc _, by rw [Array.size_setIfInBounds]; exact hsz, ?_, k8.alloc (by have := h3.size; omega) _, h4⟩
  intro k y hk1 hy
  rw [hz2]
  by_cases hkj : k = j
  · subst hkj
    rw [hs] at hy
    injection hy with hy
    subst hy
    exact ⟨w.heap.size, set_at _ _ _ (by omega), by omega, hE⟩
  · obtain ⟨e, e1, e2, e3⟩ := k9 k y (by omega) hy
    exact ⟨e, by rw [Array.getElem?_setIfInBounds_ne (by omega)]; exact e1, by omega, e3.alloc _⟩
def BuiltA (xs : List ByteArray) (w : World) (e : Ending) (w' : World) : Prop := ∃ a A c, e = .returned (.pointer (some ⟨a, 0, none⟩)) ∧ Blk w' a 75 #[.slice A xs.length c] ∧ ElsAt w' w'.heap.size A xs ∧ Below w.heap.size w w'
theorem sr_end {w0 w : World} {R : Nat} {xs : List ByteArray} {arr : Array Value} (h : SR w0 R xs xs.length arr w) :
    Blk (w.alloc (.cells #[.slice (some ⟨R, 0, none⟩) xs.length xs.length] 75)) w.heap.size 75 #[.slice (some ⟨R, 0, none⟩) xs.length xs.length] ∧ ElsAt (w.alloc (.cells #[.slice (some ⟨R, 0, none⟩) xs.length xs.length] 75)) (w.alloc (.cells #[.slice (some ⟨R, 0, none⟩) xs.length xs.length] 75)).heap.size (some ⟨R, 0, none⟩) xs ∧ Below w0.heap.size w0 (w.alloc (.cells #[.slice (some ⟨R, 0, none⟩) xs.length xs.length] 75)) := by
  obtain ⟨h1, hsz, h2, h3, h4⟩ := h
  refine ⟨Blk.new _ _ _, fun i s hs => ?_, h3.alloc h3.size _⟩
  obtain ⟨t, t1, t2, t3⟩ := h2 i s (lt_of_some hs) hs
  have hR := h1.lt
  exact ⟨R, t, rfl, by simp; omega, ((h1.alloc _).cell i).trans t1, by simp; omega, t3.alloc _⟩
set_option maxHeartbeats 4000000 in
theorem strArr (A : Option Addr) (c : Nat) (xs : List ByteArray) (w : World) (hx : RdAt w w.heap.size A (xs.map Value.string)) (hn : xs.length ≤ 1048576) :
    Calls Tryd.prog 26 #[.slice A xs.length c] w (BuiltA xs w) := by
  have HX := Lib.hid hx
  clear hx
  obtain ⟨i0, hi, hz0, hz1, hz2⟩ := info_parts infoCt
  have hmk : ∀ W : World, (Instr.makeSlice 70 (.int .i64 (xs.length : Int)) (.int .i64 (xs.length : Int))).run Tryd.prog W = .ok (.slice (some ⟨W.heap.size, 0, none⟩) xs.length xs.length) (W.alloc (.cells (madeCells #[.pointer none] (xs.length * 1)) 57)) := by
    intro W
    have h := run_make_rowN (P := Tryd.prog) 70 57 i0 _ Tryd.underlying70 hi hz0 .i64 .i64 xs.length xs.length (Nat.le_refl _) (by rw [hz2]; omega) (by omega) W
    rw [hz1] at h
    exact h
  clear hi hz0 hz1 hz2 i0
  go_enter Tryd.func26, Tryd.ntmps26
  go_wp2_with fail
  clear hmk
  go_loopw [4] (fun iv wr => ∃ (j : Nat) (arr : Array Value), iv = .int .i64 j ∧ j ≤ xs.length ∧ Hid (SR w w.heap.size xs j arr wr)) (fun iv _ => xs.length - (intOf iv).toNat)
  case atStart => exact ⟨0, _, rfl, Nat.zero_le _, Lib.hid ⟨Blk.new _ _ _, by rw [size_madeCells], fun i s hi => absurd hi (by omega), (Below.refl _ _).alloc (Nat.le_refl _) _, Nat.le_refl _⟩⟩
  case round =>
    obtain ⟨j, arr, rfl, hj, HR⟩ := hrel
    by_cases hlt : j < xs.length
    · obtain ⟨g, o, rfl, hg, c0⟩ := str_at (HX.out.below HR.out.2.2.2.1) (List.getElem?_eq_getElem hlt)
      have HG := Lib.hid (List.getElem?_eq_getElem hlt)
      generalize xs[j] = s at *
      have hgl : g < wr.heap.size := by have := HR.out.2.2.2.1.size; omega
      have hRl := HR.out.1.lt
      have j0 : (0 : Int) ≤ j := by omega
      have j1 : (j : Int) < xs.length := by omega
      have hjs : j < arr.size := by rw [HR.out.2.1]; exact hlt
      obtain ⟨o0, q0⟩ : ∃ u, wr.cell? ⟨w.heap.size, j, none⟩ = some u := ⟨_, (HR.out.1.cell _).trans (Array.getElem?_eq_getElem hjs)⟩
      have f0 := HR.out.1.frozen j
      clear hjs
      go_wp2_with fail
      go_roundw
      case rel => exact ⟨j + 1, _, by go_num, by omega, Lib.hid (sr_next HR.out HG.out)⟩
      case measure => simp [intOf]; omega
    · obtain rfl : j = xs.length := by omega
      obtain ⟨r1, r2, r3⟩ := sr_end HR.out
      have R1 := Lib.hid r1
      have R2 := Lib.hid r2
      clear r1 r2
      go_wp2_with fail
      go_ret
      exact ⟨_, _, _, rfl, R1.out, R2.out, r3⟩
end Go.Proofs.YtbjjcampiknnpaaDoor
