/- The codes under change, with the row's header known. -/
import Derived.Test.YtaeficfjocinaaaTrM
namespace Go.Proofs.Ytaeficfjocinaaa
open Go.RowKit Go.Maps
set_option maxRecDepth 100000
set_option linter.unusedVariables false
structure GV (w : World) (base C n : Nat) (V : Value) (b : Nat → Nat) (A : Nat → Int) (W : Nat → Value) : Prop where
  cs : ∃ cc, CS w base C cc V (gds n b A W)
  inj : ∀ i j, i < n → j < n → b i = b j → i = j
section
variable {w w' : World} {base C n : Nat} {V : Value} {b : Nat → Nat} {A A' : Nat → Int} {W W' : Nat → Value}
theorem GC.gv (h : GC w base C n b A W) : ∃ V, GV w base C n V b A W := by
  obtain ⟨⟨cc, X, hc⟩, hi⟩ := h
  exact ⟨X, ⟨cc, hc⟩, hi⟩
theorem GV.gc (h : GV w base C n V b A W) : GC w base C n b A W := by
  obtain ⟨⟨cc, hc⟩, hi⟩ := h
  exact ⟨⟨cc, V, hc⟩, hi⟩
theorem GV.blk (h : GV w base C n V b A W) {q : Nat} (hq : q < n) : Blk w (b q) 90 #[W q, .int .i64 (A q)] := h.gc.blk hq
theorem GV.lo (h : GV w base C n V b A W) {q : Nat} (hq : q < n) : base ≤ b q := h.gc.lo hq
theorem GV.c5 (h : GV w base C n V b A W) : w.cell? ⟨C, 5, none⟩ = some V := by
  obtain ⟨⟨cc, hc⟩, hi⟩ := h
  exact (hc.c.cell 5).trans hc.h5
theorem GV.lt (h : GV w base C n V b A W) : C < w.heap.size := h.gc.cs.lt
theorem GV.le (h : GV w base C n V b A W) : base ≤ C := h.gc.cs.le
theorem GV.shape (h : GV w base C n V b A W) : ∃ A0 cap, V = .slice A0 n cap := by
  obtain ⟨⟨cc, hc⟩, hi⟩ := h
  obtain ⟨A0, cap, e, _⟩ := own_open hc.o
  exact ⟨A0, cap, by rw [e, gds_len]⟩
theorem GV.open_ {A0 : Option Addr} {cap : Nat} (h : GV w base C n (.slice A0 n cap) b A W) (hn : 0 < n) : ∃ g, A0 = some ⟨g, 0, none⟩ ∧ g < w.heap.size ∧ ∀ q, q < n → w.cell? ⟨g, q, none⟩ = some (.pointer (some ⟨b q, 0, none⟩)) := by
  have h5 := h.c5
  obtain ⟨g, cap', c5, _, hg, hq⟩ := h.gc.open_ hn
  rw [h5] at c5
  injection c5 with c5
  injection c5 with c5
  exact ⟨g, c5, hg, hq⟩
theorem GV.congr (h : GV w base C n V b A W) (hA : ∀ q, q < n → A q = A' q) (hW : ∀ q, q < n → W q = W' q) : GV w base C n V b A' W' := by
  have e : gds n b A W = gds n b A' W' := by
    refine List.map_congr_left fun q hq => ?_
    rw [hA q (List.mem_range.1 hq), hW q (List.mem_range.1 hq)]
  exact ⟨e ▸ h.cs, h.inj⟩
theorem GV.alloc (h : GV w base C n V b A W) (o : Obj) : GV (w.alloc o) base C n V b A W := by
  obtain ⟨⟨cc, h⟩, hi⟩ := h
  exact ⟨⟨cc, h.c.alloc o, h.h5, h.o.alloc o, fun c hc => (h.at_ c hc).alloc o, h.lo, h.le⟩, hi⟩
theorem GV.set_ (h : GV w base C n V b A W) {k i : Nat} (hk : k < n) (u : Value) (hA : ∀ q, q < n → q ≠ k → A' q = A q ∧ W' q = W q)
    (hu : (#[W k, .int .i64 (A k)] : Array Value).setIfInBounds i u = #[W' k, .int .i64 (A' k)]) : GV (w.setCell ⟨b k, i, none⟩ u) base C n V b A' W' := by
  have hb := h.blk hk
  obtain ⟨⟨cc, hc⟩, hi⟩ := h
  refine ⟨⟨cc, hc.c.far (p := ⟨b k, i, none⟩) (hc.c.ne_ hb (by decide)) u, hc.h5, ?_, fun c hm => ?_, fun c hm => ?_, hc.le⟩, hi⟩
  · have := owns_far hc.o (p := ⟨b k, i, none⟩) (own_blk_ne hc.o hb (by decide)) u
    rw [gds_pv, gds_len] at this
    rw [gds_pv, gds_len]
    exact this
  · obtain ⟨q, hq, rfl⟩ := gds_mem hm
    show Blk _ (b q) _ _
    by_cases hqk : q = k
    · subst hqk
      have h2 := hb.set_ i u
      rw [hu] at h2
      exact h2
    · have h2 := (hc.at_ _ (List.mem_of_getElem? (gds_at hq))).far (p := ⟨b k, i, none⟩) (fun e => hqk (hi q k hq hk e)) u
      rw [(hA q hq hqk).1, (hA q hq hqk).2]
      exact h2
  · obtain ⟨q, hq, rfl⟩ := gds_mem hm
    have := hc.lo _ (List.mem_of_getElem? (gds_at (b := b) (A := A) (W := W) hq))
    exact this
theorem GV.grown (h : GV w base C n V b A W) {row : Option Nat} (hg : w.grownBy w' row) (hr : ∀ g, row = some g → ∀ c t fz, w.heap[g]? = some (.cells c t fz) → t = 3) : GV w' base C n V b A W := by
  obtain ⟨⟨cc, hc⟩, hi⟩ := h
  have keep : ∀ {q : Nat} {t : TypeId} {cs : Array Value}, Blk w q t cs → t ≠ 3 → some q ≠ row := fun {q t cs} hq ht e => ht (hr q e.symm cs t _ hq)
  refine ⟨⟨cc, hc.c.grown hg (keep hc.c (by decide)), hc.h5, hc.o.kept hg ?_, fun c hm => (hc.at_ c hm).grown hg (keep (hc.at_ c hm) (by decide)), hc.lo, hc.le⟩, hi⟩
  cases hX : V.ownBlock with
  | none => exact .inl rfl
  | some g =>
    refine .inr fun e => ?_
    obtain ⟨c, fz, h2⟩ := own_kind hc.o g hX
    have := hr g e.symm c _ fz h2
    exact absurd this (by decide)
end
theorem stk_len (o : Nat → Int) : ∀ i, (stk o i).length ≤ i
  | 0 => Nat.le_refl _
  | i + 1 => by
    have := stk_len o i
    unfold stk
    split
    · simp; omega
    · split
      · rw [List.length_tail]; omega
      · omega
section
variable {w w' : World} {base g cap : Nat} {V : Value} {l : List Nat}
theorem Pcs.push {j : Nat} (h : w.ownsRow base 3 1 (.slice (some ⟨g, 0, none⟩) (l.length + 1) cap) (l.length + 1) ((l.reverse.map fun k : Nat => Value.int .i64 (k : Int)) ++ [.int .i64 (j : Int)])) : Pcs w base (.slice (some ⟨g, 0, none⟩) (l.length + 1) cap) (j :: l) := by
  unfold Pcs
  rw [List.reverse_cons, List.map_append]
  exact h
theorem Pcs.kind (h : Pcs w base V l) : ∀ q, V.ownBlock = some q → ∀ c t fz, w.heap[q]? = some (.cells c t fz) → t = 3 := by
  intro q hq c t fz hh
  obtain ⟨c', fz', h2⟩ := own_kind h q hq
  rw [h2] at hh
  injection hh with hh
  injection hh with _ e _
  exact e.symm
theorem Pcs.ne_blk (h : Pcs w base V l) {q : Nat} {t : TypeId} {cs : Array Value} (hb : Blk w q t cs) (ht : t ≠ 3) : V.ownBlock ≠ some q := own_blk_ne h hb (fun e => ht e.symm)
theorem Pcs.shape (h : Pcs w base V l) : ∃ A0 c, V = .slice A0 l.length c ∧ (0 < l.length → ∃ q, A0 = some ⟨q, 0, none⟩) := own_open2 h
/-- the innermost scope, read -/
theorem Pcs.top {A0 : Option Addr} {c k : Nat} {t : List Nat} (h : Pcs w base (.slice A0 (t.length + 1) c) (k :: t)) : ∃ q, A0 = some ⟨q, 0, none⟩ ∧ q < w.heap.size ∧ w.cell? ⟨q, t.length, none⟩ = some (.int .i64 (k : Int)) := by
  obtain ⟨A1, c1, e, hc⟩ := own_open h
  injection e with e1 e2 e3
  subst e1
  obtain ⟨q, hq, h2⟩ := hc t.length (.int .i64 (k : Int)) (by rw [List.reverse_cons, List.map_append, List.getElem?_append_right (by simp)]; simp)
  exact ⟨q, hq, World.block_lt_of_cell? w _ h2, h2⟩
theorem Pcs.pop {q c k : Nat} {t : List Nat} (h : Pcs w base (.slice (some ⟨q, 0, none⟩) (t.length + 1) c) (k :: t)) : Pcs w base (.slice (some ⟨q, 0, none⟩) t.length c) t := by
  have h2 := owns_take h t.length (by simp)
  unfold Pcs
  rw [List.reverse_cons, List.map_append, Nat.mul_one, List.take_append_of_le_length (by simp), List.take_of_length_le (by simp)] at h2
  exact h2
end
end Go.Proofs.Ytaeficfjocinaaa
