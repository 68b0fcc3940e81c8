/- A slice of pair descriptions that came in, opened to what the walks speak of. -/
import Derived.Test.YtooalmhelfaodaaDoorOpen
import Derived.Test.YtooalmhelfaodaaDoorLawB
import Derived.Deep.Slices
import Derived.Deep.Fields
import Derived.ChangeSame
namespace Go.Proofs.YtooalmhelfaodaaDoor
open Go.Joins Go.ChangeShapes Go.WideShapes Go.RowKit Go.Deep
section
variable {H : Type} {enc : TypeId × Value → H} {P : Program} {w : World} {base : Nat} {spare : Nat → Bool} {held : Bool}
theorem open_slice_fields {t e : TypeId} {fs : Array Field} {fuel : Nat} {cs : List Value} {x : DataW H × List MemPlace} (ht : P.underlying t = some (.slice e)) (he : P.underlying e = some (.struct fs))
    (hone : oneCellFields P fs = true) (hC : P.cellsOf e = fs.size) (h : DataW.trod enc P w base spare held fuel t cs = some x) :
    (cs = [.slice none 0 0] ∧ x = (.nil, [])) ∨
    ∃ (a : Addr) (len cap m : Nat) (D : Nat → DataW H) (Pl : Nat → List MemPlace), cs = [.slice (some a) len cap] ∧ base ≤ a.block ∧ len ≤ cap ∧ cap ≤ maxLen ∧ m = (if spare a.block then cap else len) ∧
      x = (.slice ((List.range len).map D) ((List.range (m - len)).map fun j => D (len + j)), MemPlace.row a (m * fs.size) ++ (List.range m).flatMap Pl) ∧
      ∀ i, i < m → ∃ (ys : List (DataW H × List MemPlace)) (n : Nat), D i = .agg (ys.map (·.1)) ∧ Pl i = ys.flatMap (·.2) ∧ ys.length = fs.size ∧
        ∀ (j : Nat) (f : Field), fs[j]? = some f → ∃ (v : Value) (y : DataW H × List MemPlace), w.cell? (a.add (i * fs.size + j)) = some v ∧ ys[j]? = some y ∧ DataW.trod enc P w base spare held n f.type [v] = some y := by
  rcases open_slice ht h with h0 | ⟨a, len, cap, m, n, D, Pl, hcs, hb, hl, hm, hmm, hx, hi⟩
  · exact .inl h0
  · refine .inr ⟨a, len, cap, m, D, Pl, hcs, hb, hl, hm, hmm, by rw [hC] at hx; exact hx, fun i him => ?_⟩
    obtain ⟨cs', hc, ht'⟩ := hi i him
    rw [hC] at hc
    obtain ⟨ys, n', hn', hy, hlen, hyl, hf⟩ := DataW.trod_struct he ht'
    obtain ⟨_, hcl, hat⟩ := World.cells?_some hc
    simp only [Prod.mk.injEq] at hy
    refine ⟨ys, n', hy.1, hy.2, hyl, fun j f hj => ?_⟩
    obtain ⟨ho, hk⟩ := hone_of hone j f hj
    have hjl : j < fs.size := (Array.getElem?_eq_some_iff.1 hj).1
    have hcell := hat j hjl
    have hv : cs'[j]? = some (cs'[j]'(by omega)) := List.getElem?_eq_getElem (by omega)
    have h1 := hf j f hj
    rw [ho, hk] at h1
    have hone' : (cs'.drop j).take 1 = [cs'[j]'(by omega)] := by
      rw [List.drop_eq_getElem_cons (by omega)]
      rfl
    rw [hone'] at h1
    have hys : ys[j]? = some (ys[j]'(by omega)) := List.getElem?_eq_getElem (by omega)
    refine ⟨_, _, ?_, hys, h1.trans hys⟩
    rw [← Go.Deep.add_add, hcell, hv]
end
set_option maxRecDepth 100000 in
theorem open_kvs {H : Type} {enc : TypeId × Value → H} {W : World} {v : Value} {d : DataW H} {p : List MemPlace} {r : Reach} {b0 : Nat} {sp : Nat → Bool} {held : Bool}
    (hv : Value.okWide Tryd.prog W r b0 36 v) (h : DataW.Trod enc Tryd.prog W 0 sp held 36 v d p) : ∃ A c xs, v = .slice A xs.length c ∧ KvsIn W A c xs := by
  obtain ⟨ao, len, cap, rfl⟩ := okWide_slice Tryd.underlying36 hv
  obtain ⟨fuel, hf⟩ := h
  rcases open_slice_fields Tryd.underlying36 Tryd.underlying23 (by kernel_rfl) (by kernel_rfl) hf with ⟨hcs, _⟩ | ⟨a, len', cap', m, D, Pl, hcs, _, hl, hm, hmm, _, hi⟩
  · simp [Value.cells] at hcs
    obtain ⟨rfl, rfl, rfl⟩ := hcs
    exact ⟨none, 0, [], rfl, fun _ => ⟨rfl, rfl⟩, fun i x hx => by simp at hx, by simp⟩
  · simp [Value.cells] at hcs
    obtain ⟨rfl, rfl, rfl⟩ := hcs
    have hml : len ≤ m := by rw [hmm]; split <;> omega
    have hgen : ∀ n, n ≤ len → ∃ xs : List KVd, xs.length = n ∧ ∀ i x, xs[i]? = some x → ∃ g o, (some a : Option Addr) = some ⟨g, o, none⟩ ∧ g < W.heap.size ∧ C5 W g (o + i * 5) x := by
      intro n
      induction n with
      | zero => intro _; exact ⟨[], rfl, fun i x hx => by simp at hx⟩
      | succ n ih =>
        intro hn
        obtain ⟨xs, hxl, hxs⟩ := ih (by omega)
        obtain ⟨ys, k, _, _, hyl, hfld⟩ := hi n (by omega)
        obtain ⟨u0, y0, q0, z0, t0⟩ := hfld 0 _ rfl
        obtain ⟨u1, y1, q1, z1, t1⟩ := hfld 1 _ rfl
        obtain ⟨u2, y2, q2, z2, t2⟩ := hfld 2 _ rfl
        obtain ⟨u3, y3, q3, z3, t3⟩ := hfld 3 _ rfl
        obtain ⟨u4, y4, q4, z4, t4⟩ := hfld 4 _ rfl
        obtain ⟨s0, e0, _, _⟩ := DataW.trod_string Tryd.underlying9 t0
        obtain ⟨n1, e1, _, _⟩ := DataW.trod_int Tryd.underlying3 t1
        obtain ⟨s2, e2, _, _⟩ := DataW.trod_string Tryd.underlying9 t2
        obtain ⟨n3, e3, _, _⟩ := DataW.trod_int Tryd.underlying3 t3
        obtain ⟨s4, e4, _, _⟩ := DataW.trod_string Tryd.underlying9 t4
        simp only [List.cons.injEq, and_true] at e0 e1 e2 e3 e4
        subst e0 e1 e2 e3 e4
        obtain ⟨g, o, rfl⟩ : ∃ g o, a = ⟨g, o, none⟩ := by
          obtain ⟨_, _, _, _, _, hfld0⟩ := hi 0 (by omega)
          obtain ⟨u, _, hu, _⟩ := hfld0 0 _ rfl
          obtain ⟨g, o, spot⟩ := a
          have hspot : spot = none := by simpa [Addr.add] using World.cell?_spot hu
          subst hspot
          exact ⟨g, o, rfl⟩
        have q0' : W.cell? ⟨g, o + (n * 5 + 0), none⟩ = some (.string s0) := by rw [← Go.WideShapes.add_plain]; exact q0
        have q1' : W.cell? ⟨g, o + (n * 5 + 1), none⟩ = some (.int .i64 n1) := by rw [← Go.WideShapes.add_plain]; exact q1
        have q2' : W.cell? ⟨g, o + (n * 5 + 2), none⟩ = some (.string s2) := by rw [← Go.WideShapes.add_plain]; exact q2
        have q3' : W.cell? ⟨g, o + (n * 5 + 3), none⟩ = some (.int .i64 n3) := by rw [← Go.WideShapes.add_plain]; exact q3
        have q4' : W.cell? ⟨g, o + (n * 5 + 4), none⟩ = some (.string s4) := by rw [← Go.WideShapes.add_plain]; exact q4
        refine ⟨xs ++ [⟨s0, n1, s2, n3, s4⟩], by simp [hxl], fun i x hx => ?_⟩
        by_cases hin : i < xs.length
        · rw [List.getElem?_append_left hin] at hx
          exact hxs i x hx
        · rw [List.getElem?_append_right (by omega)] at hx
          have hi0 : i - xs.length = 0 := by
            rcases Nat.eq_zero_or_pos (i - xs.length) with h1 | h1
            · exact h1
            · rw [List.getElem?_eq_none (by simp; omega)] at hx; cases hx
          rw [hi0] at hx
          simp at hx
          subst hx
          have hin2 : i = n := by omega
          subst hin2
          exact ⟨g, o, rfl, World.block_lt_of_cell? W _ q0', q0', q1', q2', q3', q4'⟩
    obtain ⟨xs, hxl, hxs⟩ := hgen len (Nat.le_refl _)
    refine ⟨some a, cap, xs, by rw [hxl], fun h => (by cases h), hxs, ?_⟩
    unfold maxLen at hm; omega
end Go.Proofs.YtooalmhelfaodaaDoor
