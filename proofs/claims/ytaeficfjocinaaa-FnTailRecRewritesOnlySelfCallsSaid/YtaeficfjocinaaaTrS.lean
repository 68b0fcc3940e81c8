/- Codes of whatever value at blocks of their own; codes of triples. -/
import Derived.Test.YtaeficfjocinaaaCoF
import Derived.Test.YtaeficfjocinaaaTrP
namespace Go.Proofs.Ytaeficfjocinaaa
open Go.RowKit
set_option maxRecDepth 100000
set_option linter.unusedVariables false
def gds (n : Nat) (b : Nat → Nat) (A : Nat → Int) (W : Nat → Value) : List (Option Cd) := (List.range n).map fun q => some ⟨b q, W q, A q⟩
theorem gds_len (n : Nat) (b : Nat → Nat) (A : Nat → Int) (W : Nat → Value) : (gds n b A W).length = n := by simp [gds]
theorem gds_at {n : Nat} {b : Nat → Nat} {A : Nat → Int} {W : Nat → Value} {q : Nat} (h : q < n) : (gds n b A W)[q]? = some (some ⟨b q, W q, A q⟩) := by simp [gds, h]
theorem gds_pv (n : Nat) (b : Nat → Nat) (A : Nat → Int) (W : Nat → Value) : (gds n b A W).map pv = (List.range n).map fun q => Value.pointer (some ⟨b q, 0, none⟩) := by
  simp [gds, pv]
theorem gds_mem {n : Nat} {b : Nat → Nat} {A : Nat → Int} {W : Nat → Value} {c : Cd} (h : some c ∈ gds n b A W) : ∃ q, q < n ∧ c = ⟨b q, W q, A q⟩ := by
  obtain ⟨q, hq, he⟩ := List.mem_map.1 h
  injection he with he
  exact ⟨q, List.mem_range.1 hq, he.symm⟩
structure GC (w : World) (base C n : Nat) (b : Nat → Nat) (A : Nat → Int) (W : Nat → Value) : Prop where
  cs : CSx w base C (gds n b A W)
  inj : ∀ i j, i < n → j < n → b i = b j → i = j
section
variable {w w' : World} {base C n : Nat} {b : Nat → Nat} {A A' : Nat → Int} {W W' : Nat → Value}
theorem GC.blk (h : GC w base C n b A W) {q : Nat} (hq : q < n) : Blk w (b q) 90 #[W q, .int .i64 (A q)] := h.cs.code (gds_at hq)
theorem GC.congr (h : GC w base C n b A W) (hA : ∀ q, q < n → A q = A' q) (hV : ∀ q, q < n → W q = W' q) : GC w base C n b A' W' := by
  have e : gds n b A W = gds n b A' W' := by
    refine List.map_congr_left fun q hq => ?_
    rw [hA q (List.mem_range.1 hq), hV q (List.mem_range.1 hq)]
  exact ⟨e ▸ h.cs, h.inj⟩
theorem GC.below (h : GC w base C n b A W) (hb : Below w.heap.size w w') : GC w' base C n b A W := ⟨h.cs.below hb, h.inj⟩
theorem GC.drewN (h : GC w base C n b A W) (k : Nat) : GC (w.drewN k) base C n b A W := ⟨h.cs.drewN k, h.inj⟩
theorem GC.alloc (h : GC w base C n b A W) (o : Obj) : GC (w.alloc o) base C n b A W := ⟨h.cs.alloc o, h.inj⟩
theorem GC.set_ (h : GC w base C n b A W) {k i : Nat} (hk : k < n) (u : Value) (hA : ∀ q, q < n → q ≠ k → A' q = A q ∧ W' q = W q)
    (hu : (#[W k, .int .i64 (A k)] : Array Value).setIfInBounds i u = #[W' k, .int .i64 (A' k)]) : GC (w.setCell ⟨b k, i, none⟩ u) base C n b A' W' := by
  have hb := h.blk hk
  obtain ⟨⟨cc, X, hc⟩, hi⟩ := h
  refine ⟨⟨cc, X, hc.c.far (p := ⟨b k, i, none⟩) (hc.c.ne_ hb (by decide)) u, hc.h5, ?_, fun c hm => ?_, fun c hm => ?_, hc.le⟩, hi⟩
  · have := owns_far hc.o (p := ⟨b k, i, none⟩) (own_blk_ne hc.o hb (by decide)) u
    rw [gds_pv, gds_len] at this
    rw [gds_pv, gds_len]
    exact this
  · obtain ⟨q, hq, rfl⟩ := gds_mem hm
    show Blk _ (b q) _ _
    by_cases hqk : q = k
    · subst hqk
      have h2 := hb.set_ i u
      rw [hu] at h2
      exact h2
    · have h2 := (hc.at_ _ (List.mem_of_getElem? (gds_at hq))).far (p := ⟨b k, i, none⟩) (fun e => hqk (hi q k hq hk e)) u
      rw [(hA q hq hqk).1, (hA q hq hqk).2]
      exact h2
  · obtain ⟨q, hq, rfl⟩ := gds_mem hm
    have := hc.lo _ (List.mem_of_getElem? (gds_at (b := b) (A := A) (W := W) hq))
    exact this
theorem GC.lo (h : GC w base C n b A W) {q : Nat} (hq : q < n) : base ≤ b q := by
  obtain ⟨⟨cc, X, hc⟩, hi⟩ := h
  exact hc.lo _ (List.mem_of_getElem? (gds_at hq))
theorem GC.open_ (h : GC w base C n b A W) (hn : 0 < n) : ∃ g cap, w.cell? ⟨C, 5, none⟩ = some (.slice (some ⟨g, 0, none⟩) n cap) ∧ C < w.heap.size ∧ g < w.heap.size ∧ ∀ q, q < n → w.cell? ⟨g, q, none⟩ = some (.pointer (some ⟨b q, 0, none⟩)) := by
  obtain ⟨A', cap, c5, hlt, hc⟩ := h.cs.open_
  rw [gds_len] at c5
  obtain ⟨g, rfl, hg, _⟩ := hc 0 _ (gds_at hn)
  refine ⟨g, cap, c5, hlt, hg, fun q hq => ?_⟩
  obtain ⟨g', e, _, h2⟩ := hc q _ (gds_at hq)
  injection e with e
  injection e with e
  subst e
  exact h2
/-- the codes of the first n places, each at some block -/
def Mats (cs : List (Option Cd)) (A : Nat → Int) (W : Nat → Value) (n : Nat) : Prop := cs.length = n ∧ ∀ i, i < n → ∃ b, cs[i]? = some (some ⟨b, W i, A i⟩)
theorem Mats.snoc {cs : List (Option Cd)} {c : Cd} (h : Mats cs A W n) (hv : c.v = W n) (ho : c.op = A n) : Mats (cs ++ [some c]) A W (n + 1) := by
  refine ⟨by simp [h.1], fun i hi => ?_⟩
  by_cases hin : i < n
  · obtain ⟨b', hb'⟩ := h.2 i hin
    exact ⟨b', by rw [List.getElem?_append_left (by rw [h.1]; exact hin)]; exact hb'⟩
  · have : i = n := by omega
    subst this
    refine ⟨c.b, ?_⟩
    rw [List.getElem?_append_right (by rw [h.1]; omega)]
    simp only [h.1, Nat.sub_self, List.getElem?_cons_zero]
    rw [← hv, ← ho]
theorem gc_of {cs : List (Option Cd)} (hc : CSx w base C cs) (hI : Mats cs A W n) (hD : Dist cs) : ∃ b, GC w base C n b A W := by
  let b : Nat → Nat := fun q => match cs[q]? with
    | some (some c) => c.b
    | _ => 0
  have hb : ∀ q, q < n → cs[q]? = some (some ⟨b q, W q, A q⟩) := fun q hq => by
    obtain ⟨k, hk⟩ := hI.2 q hq
    have e : b q = k := by simp only [b, hk]
    rw [e]
    exact hk
  have e : cs = gds n b A W := by
    refine List.ext_getElem? fun q => ?_
    by_cases hq : q < n
    · rw [hb q hq, gds_at hq]
    · rw [List.getElem?_eq_none (by rw [hI.1]; omega), List.getElem?_eq_none (by rw [gds_len]; omega)]
  refine ⟨b, e ▸ hc, fun i j hi hj hij => hD i j _ _ (hb i hi) (hb j hj) hij⟩
end
/-- the value of a code: a number, or a triple -/
def tri (x y z : Int) : Value := .iface 85 (.agg #[.int .i64 x, .int .i64 y, .int .i64 z])
def valT (o x y z : Nat → Int) (i : Nat) : Value := if isT o z i then tri (x i) (y i) (z i) else .iface 3 (.int .i64 (x i))
set_option maxHeartbeats 1000000 in
theorem appendTriple_any (base C : Nat) (cs : List (Option Cd)) (op x y z : Int) (w : World) (h : CSx w base C cs) (hn : cs.length ≤ 10000000) :
    Calls Try.prog 43 #[.pointer (some ⟨C, 0, none⟩), .int .i64 op, .int .i64 x, .int .i64 y, .int .i64 z] w (Appd base C (cs ++ [some ⟨w.heap.size, tri x y z, op⟩]) w) := by
  have hlt := h.lt
  have hle := h.le
  have hc := Lib.hid (comp_append base C cs (some ⟨w.heap.size, tri x y z, op⟩) (some ⟨w.heap.size, 0, none⟩) (w.alloc (.cells #[.iface 85 (.agg #[.int .i64 x, .int .i64 y, .int .i64 z]), .int .i64 op] 90)) (h.alloc _) (fun c hc => by
    injection hc with hc
    subst hc
    exact ⟨Blk.new _ _ _, by show base ≤ w.heap.size; omega⟩) rfl hn)
  have hb : Below base w (w.alloc (.cells #[.iface 85 (.agg #[.int .i64 x, .int .i64 y, .int .i64 z]), .int .i64 op] 90)) := (Below.refl _ _).alloc (by omega) _
  have hk : Lib.OthersKept 35 (some C) w (w.alloc (.cells #[.iface 85 (.agg #[.int .i64 x, .int .i64 y, .int .i64 z]), .int .i64 op] 90)) := (Lib.OthersKept.refl _ _ w).alloc _
  clear h
  go_enter Try.func43, Try.ntmps43
  go_wp2_with fail
  with_reducible refine (hc.out).mono ?_
  rintro e w1 ⟨rfl, h1, h2, h3⟩
  go_wp2_with fail
  go_end0
  exact ⟨rfl, h1, hb.trans h2, hk.trans h3⟩
end Go.Proofs.Ytaeficfjocinaaa
