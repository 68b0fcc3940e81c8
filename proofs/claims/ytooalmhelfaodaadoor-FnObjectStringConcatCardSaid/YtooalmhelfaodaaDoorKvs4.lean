/- buildObject: the object of a list of descriptions. -/
import Derived.Test.YtooalmhelfaodaaDoorKvs3
namespace Go.Proofs.YtooalmhelfaodaaDoor
open Go.RowKit
set_option maxRecDepth 100000
set_option linter.unusedVariables false
section
variable {w : World} {B G : Nat} {arr : Array Value} (hG : Blk w G 26 arr)
include hG
theorem Blk.off {g : Nat} {t : TypeId} {cs : Array Value} (h : Blk w g t cs) (ht : t ≠ 26) (i : Nat) (u : Value) : Blk (w.setCell ⟨G, i, none⟩ u) g t cs := by
  refine h.far (p := ⟨G, i, none⟩) ?_ u
  rintro rfl
  unfold Blk at h hG
  rw [h] at hG
  injection hG with hG
  injection hG with _ hG
  exact ht hG
theorem TermIs.off {t : Nat} (i : Nat) (u : Value) : ∀ {x : Leaf}, TermIs w B t x → TermIs (w.setCell ⟨G, i, none⟩ u) B t x
  | .ident, h => ⟨h.1, Blk.off hG h.2 (by decide) i u⟩ | .null, h => ⟨h.1, Blk.off hG h.2 (by decide) i u⟩ | .tru, h => ⟨h.1, Blk.off hG h.2 (by decide) i u⟩ | .fls, h => ⟨h.1, Blk.off hG h.2 (by decide) i u⟩ | .num _, h => ⟨h.1, Blk.off hG h.2 (by decide) i u⟩ | .brk _, h => ⟨h.1, Blk.off hG h.2 (by decide) i u⟩
  | .func _, ⟨h1, j, h2, h3, h4⟩ => ⟨h1, j, h2, Blk.off hG h3 (by decide) i u, Blk.off hG h4 (by decide) i u⟩
  | .idx _, ⟨h0, h1, j, h2, h3, h4⟩ => ⟨h0, h1, j, h2, Blk.off hG h3 (by decide) i u, Blk.off hG h4 (by decide) i u⟩
theorem OptQ.off {v : Value} (i : Nat) (u : Value) : ∀ {x : Option Leaf}, OptQ w B v x → OptQ (w.setCell ⟨G, i, none⟩ u) B v x
  | none, h => h
  | some _, ⟨h1, q, h2, h3, t, h4, h5⟩ => ⟨h1, q, h2, h3, t, Blk.off hG h4 (by decide) i u, TermIs.off hG i u h5⟩
theorem KvIs.off {e : Nat} {key : ByteArray} {kq val : Option Leaf} (i : Nat) (u : Value) (h : KvIs w B e key kq val) : KvIs (w.setCell ⟨G, i, none⟩ u) B e key kq val := by
  obtain ⟨h1, p, v, h2, h3, h4⟩ := h
  exact ⟨h1, p, v, Blk.off hG h2 (by decide) i u, OptQ.off hG i u h3, OptQ.off hG i u h4⟩
end
theorem infoPtr : (Tryd.prog.info? 26).map (fun i => (i.zero, i.size, i.bytes)) = some (some (.pointer none), 1, 8) := by kernel_rfl
/-- the first j pointers lead to the pairs -/
def Ptrs (w : World) (arr : Array Value) (xs : List KVd) (j : Nat) : Prop := ∀ i x, i < j → xs[i]? = some x → ∃ e, arr[i]? = some (.pointer (some ⟨e, 0, none⟩)) ∧ KvIs w w.heap.size e x.it.key x.it.kq x.it.val
def Built (xs : List KVd) (w : World) (e : Ending) (w' : World) : Prop := ∃ o, e = .returned (.pointer (some ⟨o, 0, none⟩)) ∧ ObjIs w' w'.heap.size o (xs.map KVd.it) ∧ Below w.heap.size w w'
set_option maxHeartbeats 4000000 in
theorem build_any (A : Option Addr) (c : Nat) (xs : List KVd) (w : World) (hx : KvsAt w w.heap.size A xs) (hn : xs.length ≤ 1048576) :
    Calls Tryd.prog 26 #[.slice A xs.length c] w (Built xs w) := by
  have HX := Lib.hid hx
  clear hx
  obtain ⟨i0, hi, hz0, hz1, hz2⟩ := info_parts infoPtr
  have hmk : ∀ W : World, (Instr.makeSlice 31 (.int .i64 (xs.length : Int)) (.int .i64 (xs.length : Int))).run Tryd.prog W = .ok (.slice (some ⟨W.heap.size, 0, none⟩) xs.length xs.length) (W.alloc (.cells (madeCells #[.pointer none] (xs.length * 1)) 26)) := by
    intro W
    have h := run_make_rowN (P := Tryd.prog) 31 26 i0 _ Tryd.underlying31 hi hz0 .i64 .i64 xs.length xs.length (Nat.le_refl _) (by rw [hz2]; omega) (by omega) W
    rw [hz1] at h
    exact h
  clear hi hz0 hz1 hz2 i0
  go_enter Tryd.func26, Tryd.ntmps26
  go_wp2_with fail
  clear hmk
  go_loopw [4] (fun i wr => ∃ (j : Nat) (arr : Array Value), i = .int .i64 j ∧ j ≤ xs.length ∧ Blk wr w.heap.size 26 arr ∧ Hid (arr.size = xs.length) ∧ Ptrs wr arr xs j ∧ Below w.heap.size w wr) (fun i _ => xs.length - (intOf i).toNat)
  case atStart => exact ⟨0, _, rfl, by omega, Blk.new _ _ _, by show _ = _; rw [size_madeCells], fun i x hi => absurd hi (by omega), (Below.refl _ _).alloc (Nat.le_refl _) _⟩
  case round =>
    obtain ⟨j, arr, rfl, hj, hB, hsz, hfl, hbw⟩ := hrel
    by_cases hlt : j < xs.length
    · obtain ⟨g, o, rfl, hg, C⟩ := (KvsAt.below hbw HX.out) j _ (List.getElem?_eq_getElem hlt)
      have HG := Lib.hid (List.getElem?_eq_getElem hlt)
      obtain ⟨x, hxx⟩ : ∃ x, Hid (xs[j] = x) := ⟨_, Lib.hid rfl⟩
      rw [hxx.out] at C HG
      obtain ⟨c0, c1, c2, c3, c4⟩ := C
      have hz : j < arr.size := by rw [hsz.out]; omega
      have hbk := Lib.hid fun w => buildKV_any x.k x.n x.v x.km x.vm w
      have hgl : w.heap.size < wr.heap.size := hB.lt
      have HF := Lib.hid hfl
      have HBk := Lib.hid hB
      clear hfl hB hxx
      go_wp2_with fail
      with_reducible refine (hbk.out _).mono ?_
      rintro eA wA ⟨g', rfl, hgA, hKA, hbA⟩
      have hBA := HBk.out.below hbA hgl
      obtain ⟨o0, q0⟩ : ∃ u, wA.cell? ⟨w.heap.size, j, none⟩ = some u := ⟨_, (hBA.cell _).trans (Array.getElem?_eq_getElem (by omega))⟩
      have f0 := hBA.frozen j
      have HA := Lib.hid hBA
      have HK := Lib.hid hKA
      clear hBA hKA c0 c1 c2 c3 c4
      go_wp2_with fail
      go_roundw
      case rel =>
        refine ⟨j + 1, arr.setIfInBounds j (.pointer (some ⟨g', 0, none⟩)), by go_num, by omega, HA.out.set_ _ _, by show _ = _; rw [Array.size_setIfInBounds]; exact hsz.out, ?_, ?_⟩
        · intro i y hi hy
          have hs : (wA.setCell ⟨w.heap.size, j, none⟩ (.pointer (some ⟨g', 0, none⟩))).heap.size = wA.heap.size := by simp [World.setCell]
          by_cases hij : i = j
          · subst hij
            have hyx : y = x := by have := HG.out; rw [hy] at this; injection this
            subst hyx
            refine ⟨g', set_at _ _ _ hz, ?_⟩
            rw [hs]
            exact KvIs.off HA.out i _ HK.out
          · obtain ⟨e, h1, h2⟩ := HF.out i y (by omega) hy
            refine ⟨e, ?_, ?_⟩
            · rw [Array.getElem?_setIfInBounds_ne (by omega)]; exact h1
            · rw [hs]
              exact KvIs.off HA.out j _ ((h2.below hbA).mono hbA.size)
        · exact (hbw.trans (hbA.mono (by omega))).setCell (Nat.le_refl _) _
      case measure => simp [intOf]; omega
    · have hj2 : j = xs.length := by omega
      have HJ := Lib.hid hj2
      clear hj2
      go_wp2_with fail
      go_ret
      have hj2 := HJ.out
      subst hj2
      have hBel : Below wr.heap.size wr (wr.alloc (.cells #[.slice (some ⟨w.heap.size, 0, none⟩) xs.length xs.length] 33)) := (Below.refl _ _).alloc (Nat.le_refl _) _
      refine ⟨wr.heap.size, rfl, ⟨by simp, some ⟨w.heap.size, 0, none⟩, xs.length, ?_, ?_⟩, hbw.alloc hbw.size _⟩
      · rw [List.length_map]; exact Blk.new _ _ _
      · intro i x hx
        rw [List.getElem?_map] at hx
        cases hxi : xs[i]? with
        | none => rw [hxi] at hx; cases hx
        | some y =>
          rw [hxi] at hx
          injection hx with hx
          subst hx
          have hlt2 : i < xs.length := by
            rcases Nat.lt_or_ge i xs.length with h1 | h1
            · exact h1
            · rw [List.getElem?_eq_none h1] at hxi; cases hxi
          obtain ⟨e, h1, h2⟩ := hfl i y hlt2 hxi
          refine ⟨w.heap.size, rfl, by have := hB.lt; simp; omega, e, ?_, (h2.below hBel).mono (by simp)⟩
          exact ((hB.alloc _).cell i).trans h1
end Go.Proofs.YtooalmhelfaodaaDoor
