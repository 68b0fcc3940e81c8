/- buildTerm: the constant term of a tree. -/
import Derived.Test.YtbjjcampiknnpaaDoorNb
import Derived.Test.YtbjjcampiknnpaaDoorSab
import Derived.Laws.MakeOwn
import Derived.Deep.RegionHeld3
namespace Go.Proofs.YtbjjcampiknnpaaDoor
open Go.RowKit
set_option maxRecDepth 100000
set_option linter.unusedVariables false
set_option linter.unusedSimpArgs false
theorem Blk.at_ {w : World} {k : Nat} (t : TypeId) (cs : Array Value) (h : w.heap.size = k) : Blk (w.alloc (.cells cs t)) k t cs := h ▸ Blk.new w t cs
theorem infoCk : (Tryd.prog.info? 28).map (fun i => (i.zero, i.size, i.bytes)) = some (some (.pointer none), 1, 8) := by kernel_rfl
theorem size_set (w : World) (p : Addr) (v : Value) : (w.setCell p v).heap.size = w.heap.size := by simp [World.setCell]
/-- the row of terms so far -/
def TR (n : Nat) (w0 : World) (v0 : Array Value) (R : Nat) (kids : List Nd) (j : Nat) (arr : Array Value) (w : World) : Prop :=
  Blk w R 57 arr ∧ arr.size = kids.length ∧ (∀ i x, i < j → kids[i]? = some x → ∃ u, arr[i]? = some (.pointer (some ⟨u, 0, none⟩)) ∧ TermAt w (R + 1) w.heap.size n u x) ∧ Blk w w0.heap.size 26 v0 ∧ Below w0.heap.size w0 w ∧ w0.heap.size < R
theorem tr_next {n : Nat} {w0 w w1 : World} {v0 : Array Value} {R j u : Nat} {kids : List Nd} {arr : Array Value} {x : Nd} (h : TR n w0 v0 R kids j arr w) (hx : kids[j]? = some x) (hb : Below w.heap.size w w1) (ht : TermAt w1 w.heap.size w1.heap.size n u x) :
    TR n w0 v0 R kids (j + 1) (arr.setIfInBounds j (.pointer (some ⟨u, 0, none⟩))) (w1.setCell ⟨R, j, none⟩ (.pointer (some ⟨u, 0, none⟩))) := by
  obtain ⟨h1, hsz, h2, h3, h4, h5⟩ := h
  have hjl := lt_of_some hx
  have hR := h1.lt
  have s1 := hb.size
  refine ⟨(h1.below hb hR).set_ j _, by rw [Array.size_setIfInBounds]; exact hsz, ?_, (h3.below hb h3.lt).far (by show w0.heap.size ≠ R; omega) _, (h4.trans (hb.mono h4.size)).setCell (by show w0.heap.size ≤ R; omega) _, h5⟩
  intro k y hk1 hy
  rw [size_set]
  by_cases hkj : k = j
  · subst hkj
    rw [hx] at hy
    injection hy with hy
    subst hy
    exact ⟨u, set_at _ _ _ (by omega), (ht.wide (show R + 1 ≤ w.heap.size by omega) (Nat.le_refl _)).set_ _ (by show R < R + 1; omega)⟩
  · obtain ⟨e, e1, e2⟩ := h2 k y (by omega) hy
    exact ⟨e, by rw [Array.getElem?_setIfInBounds_ne (by omega)]; exact e1, ((e2.below hb).wide (Nat.le_refl _) s1).set_ _ (by show R < R + 1; omega)⟩
/-- the row of pairs so far -/
def OR (n : Nat) (w0 : World) (v0 : Array Value) (R : Nat) (kids : List Nd) (j : Nat) (arr : Array Value) (w : World) : Prop :=
  Blk w R 28 arr ∧ arr.size = kids.length ∧ (∀ i x, i < j → kids[i]? = some x → ∃ c u, arr[i]? = some (.pointer (some ⟨c, 0, none⟩)) ∧ R + 1 ≤ c ∧ c < w.heap.size ∧ Blk w c 60 #[.string x.key, .string ⟨#[]⟩, .pointer (some ⟨u, 0, none⟩)] ∧ TermAt w (R + 1) w.heap.size n u x) ∧ Blk w w0.heap.size 26 v0 ∧ Below w0.heap.size w0 w ∧ w0.heap.size < R
theorem or_next {n : Nat} {w0 w w1 : World} {v0 : Array Value} {R j u : Nat} {kids : List Nd} {arr : Array Value} {x : Nd} (h : OR n w0 v0 R kids j arr w) (hx : kids[j]? = some x) (hb : Below w.heap.size w w1) (ht : TermAt w1 w.heap.size w1.heap.size n u x) :
    OR n w0 v0 R kids (j + 1) (arr.setIfInBounds j (.pointer (some ⟨w1.heap.size, 0, none⟩))) ((w1.setCell ⟨R, j, none⟩ (.pointer (some ⟨w1.heap.size, 0, none⟩))).alloc (.cells #[.string x.key, .string ⟨#[]⟩, .pointer (some ⟨u, 0, none⟩)] 60)) := by
  obtain ⟨h1, hsz, h2, h3, h4, h5⟩ := h
  have hjl := lt_of_some hx
  have hR := h1.lt
  have s1 := hb.size
  have hz : ∀ o, ((w1.setCell ⟨R, j, none⟩ (.pointer (some ⟨w1.heap.size, 0, none⟩))).alloc o).heap.size = w1.heap.size + 1 := fun o => by simp [World.setCell]
  refine ⟨((h1.below hb hR).set_ j _).alloc _, by rw [Array.size_setIfInBounds]; exact hsz, ?_, ((h3.below hb h3.lt).far (by show w0.heap.size ≠ R; omega) _).alloc _, ((h4.trans (hb.mono h4.size)).setCell (by show w0.heap.size ≤ R; omega) _).alloc (by rw [size_set]; have := h4.size; omega) _, h5⟩
  intro k y hk1 hy
  rw [hz]
  by_cases hkj : k = j
  · subst hkj
    rw [hx] at hy
    injection hy with hy
    subst hy
    exact ⟨w1.heap.size, u, set_at _ _ _ (by omega), by omega, by omega, Blk.at_ _ _ (size_set _ _ _), (((ht.wide (show R + 1 ≤ w.heap.size by omega) (Nat.le_refl _)).set_ _ (by show R < R + 1; omega)).alloc _).wide (Nat.le_refl _) (by omega)⟩
  · obtain ⟨c, e, e1, e2, e3, e4, e5⟩ := h2 k y (by omega) hy
    exact ⟨c, e, by rw [Array.getElem?_setIfInBounds_ne (by omega)]; exact e1, e2, by omega, ((e4.below hb e3).far (by show c ≠ R; omega) _).alloc _, (((e5.below hb).set_ _ (by show R < R + 1; omega)).alloc _).wide (Nat.le_refl _) (by omega)⟩
def BtR (n : Nat) (T : Nd) (w : World) (e : Ending) (w' : World) : Prop := ∃ t, e = .returned (.pointer (some ⟨t, 0, none⟩)) ∧ TermAt w' w.heap.size w'.heap.size n t T ∧ Below w.heap.size w w'
theorem tr_end {n : Nat} {w0 w : World} {v0 : Array Value} {R k : Nat} {num key : ByteArray} {kids : List Nd} {arr : Array Value} (h : TR n w0 v0 R kids kids.length arr w) (hk : k % 6 = 4) :
    BtR (n + 1) (.mk k num key kids) w0 (.returned (.pointer (some ⟨w.heap.size + 1, 0, none⟩))) ((w.alloc (.cells #[.slice (some ⟨R, 0, none⟩) kids.length kids.length] 75)).alloc (.cells (ctv none (some ⟨w.heap.size, 0, none⟩) ⟨#[]⟩ false false false) 73)) := by
  obtain ⟨h1, hsz, h2, h3, h4, h5⟩ := h
  have hR := h1.lt
  have s4 := h4.size
  have hz : ∀ o o', ((w.alloc o).alloc o').heap.size = w.heap.size + 2 := fun o o' => by simp
  refine ⟨_, rfl, ⟨by omega, by rw [hz]; omega, .inr (.inr (.inr (.inr (.inl ⟨hk, w.heap.size, R, arr, Blk.at_ _ _ (by simp), by omega, by rw [hz]; omega, (Blk.new _ _ _).alloc _, by omega, by rw [hz]; omega, (h1.alloc _).alloc _, fun i x hi => ?_⟩))))⟩, (h4.alloc s4 _).alloc (by simp; omega) _⟩
  obtain ⟨u, u1, u2⟩ := h2 i x (lt_of_some hi) hi
  exact ⟨u, u1, ((u2.alloc _).alloc _).wide (by omega) (by rw [hz]; omega)⟩
theorem or_end {n : Nat} {w0 w : World} {v0 : Array Value} {R k : Nat} {num key : ByteArray} {kids : List Nd} {arr : Array Value} (h : OR n w0 v0 R kids kids.length arr w) (hk : k % 6 = 5) :
    BtR (n + 1) (.mk k num key kids) w0 (.returned (.pointer (some ⟨w.heap.size + 1, 0, none⟩))) ((w.alloc (.cells #[.slice (some ⟨R, 0, none⟩) kids.length kids.length] 84)).alloc (.cells (ctv (some ⟨w.heap.size, 0, none⟩) none ⟨#[]⟩ false false false) 73)) := by
  obtain ⟨h1, hsz, h2, h3, h4, h5⟩ := h
  have hR := h1.lt
  have s4 := h4.size
  have hz : ∀ o o', ((w.alloc o).alloc o').heap.size = w.heap.size + 2 := fun o o' => by simp
  refine ⟨_, rfl, ⟨by omega, by rw [hz]; omega, .inr (.inr (.inr (.inr (.inr ⟨hk, w.heap.size, R, arr, Blk.at_ _ _ (by simp), by omega, by rw [hz]; omega, (Blk.new _ _ _).alloc _, by omega, by rw [hz]; omega, (h1.alloc _).alloc _, fun i x hi => ?_⟩))))⟩, (h4.alloc s4 _).alloc (by simp; omega) _⟩
  obtain ⟨c, u, u1, u2, u3, u4, u5⟩ := h2 i x (lt_of_some hi) hi
  exact ⟨c, u, u1, by omega, by rw [hz]; omega, (u4.alloc _).alloc _, ((u5.alloc _).alloc _).wide (by omega) (by rw [hz]; omega)⟩
set_option maxHeartbeats 8000000 in
theorem buildTerm_any : ∀ (n : Nat) (T : Nd) (v : Value) (B : Nat) (w : World), NdAt w B n v T → B ≤ w.heap.size → sz n T ≤ 1048576 →
    Calls Tryd.prog 32 #[v] w (BtR n T w) := by
  intro n
  induction n with
  | zero => intro T v B w h; exact h.elim
  | succ n ih =>
    intro T v B w h hB hz
    obtain ⟨k, num, key, kids⟩ := T
    obtain ⟨A, cap, rfl, hk, hl, hn, hy, hK⟩ := h
    have HK := Lib.hid hK
    have IH := Lib.hid ih
    have hs : sz (n + 1) (.mk k num key kids) = num.size + key.size + szs (sz n) kids := rfl
    rw [hs] at hz
    have hlen := szs_len (sz n) kids
    have HZ := Lib.hid (show ∀ x ∈ kids, sz n x ≤ 1048576 from fun x hx => by have := szs_mem (sz n) hx; omega)
    have hkl : kids.length ≤ 16384 := by omega
    clear hK ih hs hz hlen
    have hbox : Below w.heap.size w (w.alloc (.cells (ndv k num key A kids.length cap) 26)) := (Below.refl _ _).alloc (Nat.le_refl _) _
    have HBX := Lib.hid hbox
    clear hbox
    rcases (show k % 6 = 0 ∨ k % 6 = 1 ∨ k % 6 = 2 ∨ k % 6 = 3 ∨ k % 6 = 4 ∨ k % 6 = 5 by omega) with h6 | h6 | h6 | h6 | h6 | h6
    · have e6 : (k : Int) % 6 = 0 := by omega
      have H6 := Lib.hid h6
      go_enter Tryd.func32, Tryd.ntmps32
      go_wp2_with fail
      go_ret
      exact ⟨_, rfl, ⟨by simp, by simp, .inl ⟨H6.out, Blk.at_ _ _ (by simp)⟩⟩, HBX.out.alloc (by simp) _⟩
    · have e6 : (k : Int) % 6 = 1 := by omega
      have H6 := Lib.hid h6
      go_enter Tryd.func32, Tryd.ntmps32
      go_wp2_with fail
      go_ret
      exact ⟨_, rfl, ⟨by simp, by simp, .inr (.inl ⟨H6.out, Blk.at_ _ _ (by simp)⟩)⟩, HBX.out.alloc (by simp) _⟩
    · have e6 : (k : Int) % 6 = 2 := by omega
      have H6 := Lib.hid h6
      go_enter Tryd.func32, Tryd.ntmps32
      go_wp2_with fail
      go_ret
      exact ⟨_, rfl, ⟨by simp, by simp, .inr (.inr (.inl ⟨H6.out, Blk.at_ _ _ (by simp)⟩))⟩, HBX.out.alloc (by simp) _⟩
    · have e6 : (k : Int) % 6 = 3 := by omega
      have H6 := Lib.hid h6
      go_enter Tryd.func32, Tryd.ntmps32
      go_wp2_with fail
      go_ret
      exact ⟨_, rfl, ⟨by simp, by simp, .inr (.inr (.inr (.inl ⟨H6.out, Blk.at_ _ _ (by simp)⟩)))⟩, HBX.out.alloc (by simp) _⟩
    · have e6 : (k : Int) % 6 = 4 := by omega
      have H6 := Lib.hid h6
      obtain ⟨i0, hi, hz0, hz1, hz2⟩ := info_parts infoCt
      have hmk : ∀ W : World, (Instr.makeSlice 70 (.int .i64 (kids.length : Int)) (.int .i64 (kids.length : Int))).run Tryd.prog W = .ok (.slice (some ⟨W.heap.size, 0, none⟩) kids.length kids.length) (W.alloc (.cells (madeCells #[.pointer none] (kids.length * 1)) 57)) := by
        intro W
        have h := run_make_rowN (P := Tryd.prog) 70 57 i0 _ Tryd.underlying70 hi hz0 .i64 .i64 kids.length kids.length (Nat.le_refl _) (by rw [hz2]; omega) (by omega) W
        rw [hz1] at h
        exact h
      clear hi hz0 hz1 hz2 i0
      go_enter Tryd.func32, Tryd.ntmps32
      go_wp2_with fail
      clear hmk e6 h6
      go_loopw [4] (fun iv wr => ∃ (j : Nat) (arr : Array Value), iv = .int .i64 j ∧ j ≤ kids.length ∧ Hid (TR n w (ndv k num key A kids.length cap) (w.heap.size + 1) kids j arr wr)) (fun iv _ => kids.length - (intOf iv).toNat)
      case atStart => exact ⟨0, _, rfl, Nat.zero_le _, Lib.hid ⟨Blk.at_ _ _ (by simp), by rw [size_madeCells], fun i s hi => absurd hi (by omega), (Blk.new _ _ _).alloc _, HBX.out.alloc (by simp) _, by omega⟩⟩
      case round =>
        obtain ⟨j, arr, rfl, hj, HR⟩ := hrel
        have HW := Lib.hid HR.out.2.2.2.2.1
        have d3 : wr.cell? ⟨w.heap.size, 3, none⟩ = some (.slice A kids.length cap) := HR.out.2.2.2.1.cell 3
        by_cases hlt : j < kids.length
        · obtain ⟨⟨k', num', key', kids'⟩, hx⟩ : ∃ x, Hid (kids[j]? = some x) := ⟨_, Lib.hid (List.getElem?_eq_getElem hlt)⟩
          obtain ⟨g, o, A', cap', rfl, hg, c0, c1, c2, c3, hN⟩ := HK.out j k' num' key' kids' hx.out
          have hgw : g < w.heap.size := Nat.lt_of_lt_of_le hg hB
          have d4 := (HW.out.cell (p := ⟨g, o + j * 4, none⟩) hgw).trans c0
          have d5 := (HW.out.cell (p := ⟨g, o + j * 4 + 1, none⟩) hgw).trans c1
          have d6 := (HW.out.cell (p := ⟨g, o + j * 4 + 2, none⟩) hgw).trans c2
          have d7 := (HW.out.cell (p := ⟨g, o + j * 4 + 3, none⟩) hgw).trans c3
          have hc := Lib.hid (IH.out (.mk k' num' key' kids') _ w.heap.size wr ((hN.mono hB).below HW.out) HW.out.size (HZ.out _ (List.mem_of_getElem? hx.out)))
          have j0 : (0 : Int) ≤ j := by omega
          have j1 : (j : Int) < kids.length := by omega
          clear c0 c1 c2 c3 hN
          go_wp2_with ((with_reducible refine (hc.out).mono ?_); rintro e1 w1 ⟨u, rfl, hu, hb1⟩; have HU := Lib.hid hu; have HB1 := Lib.hid hb1; have hR1 := HR.out.1.below hb1 HR.out.1.lt; have hRl := hR1.lt; have hjs : j < arr.size := (by rw [HR.out.2.1]; exact hlt); obtain ⟨o0, q0⟩ : ∃ u, w1.cell? ⟨w.heap.size + 1, j, none⟩ = some u := ⟨_, (hR1.cell _).trans (Array.getElem?_eq_getElem hjs)⟩; have f0 := hR1.frozen j; clear hu hb1 hR1 hjs)
          go_wp2_with fail
          go_roundw
          case rel => exact ⟨j + 1, _, by go_num, by omega, Lib.hid (tr_next HR.out hx.out HB1.out HU.out)⟩
          case measure => simp [intOf]; omega
        · obtain rfl : j = kids.length := by omega
          have HE := Lib.hid (tr_end (num := num) (key := key) HR.out H6.out)
          go_wp2_with fail
          go_ret
          exact HE.out
    · have e6 : (k : Int) % 6 = 5 := by omega
      have H6 := Lib.hid h6
      obtain ⟨i0, hi, hz0, hz1, hz2⟩ := info_parts infoCk
      have hmk : ∀ W : World, (Instr.makeSlice 82 (.int .i64 (kids.length : Int)) (.int .i64 (kids.length : Int))).run Tryd.prog W = .ok (.slice (some ⟨W.heap.size, 0, none⟩) kids.length kids.length) (W.alloc (.cells (madeCells #[.pointer none] (kids.length * 1)) 28)) := by
        intro W
        have h := run_make_rowN (P := Tryd.prog) 82 28 i0 _ Tryd.underlying82 hi hz0 .i64 .i64 kids.length kids.length (Nat.le_refl _) (by rw [hz2]; omega) (by omega) W
        rw [hz1] at h
        exact h
      clear hi hz0 hz1 hz2 i0
      go_enter Tryd.func32, Tryd.ntmps32
      go_wp2_with fail
      clear hmk e6 h6
      go_loopw [6] (fun iv wr => ∃ (j : Nat) (arr : Array Value), iv = .int .i64 j ∧ j ≤ kids.length ∧ Hid (OR n w (ndv k num key A kids.length cap) (w.heap.size + 1) kids j arr wr)) (fun iv _ => kids.length - (intOf iv).toNat)
      case atStart => exact ⟨0, _, rfl, Nat.zero_le _, Lib.hid ⟨Blk.at_ _ _ (by simp), by rw [size_madeCells], fun i s hi => absurd hi (by omega), (Blk.new _ _ _).alloc _, HBX.out.alloc (by simp) _, by omega⟩⟩
      case round =>
        obtain ⟨j, arr, rfl, hj, HR⟩ := hrel
        have HW := Lib.hid HR.out.2.2.2.2.1
        have d3 : wr.cell? ⟨w.heap.size, 3, none⟩ = some (.slice A kids.length cap) := HR.out.2.2.2.1.cell 3
        have hlw := Lib.hid HR.out.2.2.2.1.lt
        by_cases hlt : j < kids.length
        · obtain ⟨⟨k', num', key', kids'⟩, hx⟩ : ∃ x, Hid (kids[j]? = some x) := ⟨_, Lib.hid (List.getElem?_eq_getElem hlt)⟩
          obtain ⟨g, o, A', cap', rfl, hg, c0, c1, c2, c3, hN⟩ := HK.out j k' num' key' kids' hx.out
          have hgw : g < w.heap.size := Nat.lt_of_lt_of_le hg hB
          have d4 := (HW.out.cell (p := ⟨g, o + j * 4, none⟩) hgw).trans c0
          have d5 := (HW.out.cell (p := ⟨g, o + j * 4 + 1, none⟩) hgw).trans c1
          have d6 := (HW.out.cell (p := ⟨g, o + j * 4 + 2, none⟩) hgw).trans c2
          have d7 := (HW.out.cell (p := ⟨g, o + j * 4 + 3, none⟩) hgw).trans c3
          have hc := Lib.hid fun W (hW : Below w.heap.size wr W) => IH.out (.mk k' num' key' kids') _ w.heap.size W ((hN.mono hB).below (HW.out.trans hW)) (HW.out.trans hW).size (HZ.out _ (List.mem_of_getElem? hx.out))
          have j0 : (0 : Int) ≤ j := by omega
          have j1 : (j : Int) < kids.length := by omega
          have hcells := Lib.hid fun (W' : World) (ba : Below (w.heap.size + 1) wr W') => (show W'.cell? ⟨w.heap.size, 3, none⟩ = some (.slice (some ⟨g, o, none⟩) kids.length cap) ∧ W'.cell? ⟨g, o + j * 4, none⟩ = some (.int .u8 k') ∧ W'.cell? ⟨g, o + j * 4 + 1, none⟩ = some (.string num') ∧ W'.cell? ⟨g, o + j * 4 + 2, none⟩ = some (.string key') ∧ W'.cell? ⟨g, o + j * 4 + 3, none⟩ = some (.slice A' kids'.length cap') from ⟨(ba.cell (p := ⟨w.heap.size, 3, none⟩) (Nat.lt_succ_self _)).trans d3, (ba.cell (p := ⟨g, _, none⟩) (Nat.lt_succ_of_lt hgw)).trans d4, (ba.cell (p := ⟨g, _, none⟩) (Nat.lt_succ_of_lt hgw)).trans d5, (ba.cell (p := ⟨g, _, none⟩) (Nat.lt_succ_of_lt hgw)).trans d6, (ba.cell (p := ⟨g, _, none⟩) (Nat.lt_succ_of_lt hgw)).trans d7⟩)
          clear c0 c1 c2 c3 hN
          go_wp2_with fail
          go_region_held3 (fun W => W.cell? ⟨w.heap.size, 3, none⟩ = some (.slice (some ⟨g, o, none⟩) kids.length cap) ∧ W.cell? ⟨g, o + j * 4, none⟩ = some (.int .u8 k') ∧ W.cell? ⟨g, o + j * 4 + 1, none⟩ = some (.string num') ∧ W.cell? ⟨g, o + j * 4 + 2, none⟩ = some (.string key') ∧ W.cell? ⟨g, o + j * 4 + 3, none⟩ = some (.slice A' kids'.length cap'))
            (first | exact ⟨d3, d4, d5, d6, d7⟩ | exact hcells.out _ kC.out | exact hcells.out _ (kC.out.alloc kG.out _) | exact hcells.out _ ((kC.out.setCell kR.out _).alloc (by simpa [World.setCell] using kG.out) _))
            (first
              | (go_at_call 32; ((with_reducible refine (hc.out _ ((Below.refl _ _).drew)).mono ?_); rintro e1 w1 ⟨u, rfl, hu, hb1'⟩; have hb1 := ((Below.refl wr.heap.size wr).drew).trans (show Below wr.heap.size wr.drew w1 from hb1'); have HU := Lib.hid (show TermAt w1 wr.heap.size w1.heap.size n u _ from hu); have HB1 := Lib.hid hb1; have hR1 := HR.out.1.below hb1 HR.out.1.lt; have hRl := hR1.lt; have hjs : j < arr.size := (by rw [HR.out.2.1]; exact hlt); obtain ⟨o0, q0⟩ : ∃ u, w1.cell? ⟨w.heap.size + 1, j, none⟩ = some u := ⟨_, (hR1.cell _).trans (Array.getElem?_eq_getElem hjs)⟩; have f0 := hR1.frozen j; have kC := Lib.hid (hb1.mono (show w.heap.size + 1 ≤ wr.heap.size from hlw.out)); have kG := Lib.hid (Nat.le_trans (show w.heap.size + 1 ≤ wr.heap.size from hlw.out) hb1.size); have kR := Lib.hid (Nat.le_refl (w.heap.size + 1)); clear hu hb1 hb1' hR1 hjs)))
          go_wp2_with fail
          go_roundw
          case rel => exact ⟨j + 1, _, by go_num, by omega, Lib.hid (or_next HR.out hx.out HB1.out HU.out)⟩
          case measure => simp [intOf]; omega
        · obtain rfl : j = kids.length := by omega
          have HE := Lib.hid (or_end (num := num) (key := key) HR.out H6.out)
          go_wp2_with fail
          go_ret
          exact HE.out
end Go.Proofs.YtbjjcampiknnpaaDoor
