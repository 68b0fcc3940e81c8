/- Int codes at blocks of their own: one op, one value turned. -/
import Derived.Test.YtaeficfjocinaaaBui
import Derived.Test.YtaeficfjocinaaaCoP
namespace Go.Proofs.Ytaeficfjocinaaa
open Go.RowKit
set_option linter.unusedVariables false
def cds (n : Nat) (b : Nat → Nat) (A V : Nat → Int) : List (Option Cd) := (List.range n).map fun q => ic (b q) (A q) (V q)
theorem cds_len (n : Nat) (b : Nat → Nat) (A V : Nat → Int) : (cds n b A V).length = n := by simp [cds]
theorem cds_at {n : Nat} {b : Nat → Nat} {A V : Nat → Int} {q : Nat} (h : q < n) : (cds n b A V)[q]? = some (ic (b q) (A q) (V q)) := by simp [cds, h]
theorem cds_pv (n : Nat) (b : Nat → Nat) (A V : Nat → Int) : (cds n b A V).map pv = (List.range n).map fun q => Value.pointer (some ⟨b q, 0, none⟩) := by
  simp [cds, ic, pv]
theorem cds_mem {n : Nat} {b : Nat → Nat} {A V : Nat → Int} {c : Cd} (h : some c ∈ cds n b A V) : ∃ q, q < n ∧ c = ⟨b q, .iface 3 (.int .i64 (V q)), A q⟩ := by
  obtain ⟨q, hq, he⟩ := List.mem_map.1 h
  injection he with he
  exact ⟨q, List.mem_range.1 hq, he.symm⟩
structure IC (w : World) (base C n : Nat) (b : Nat → Nat) (A V : Nat → Int) : Prop where
  cs : CSx w base C (cds n b A V)
  inj : ∀ i j, i < n → j < n → b i = b j → i = j
section
variable {w w' : World} {base C n : Nat} {b : Nat → Nat} {A V A' V' : Nat → Int}
theorem IC.blk (h : IC w base C n b A V) {q : Nat} (hq : q < n) : Blk w (b q) 90 #[.iface 3 (.int .i64 (V q)), .int .i64 (A q)] := h.cs.code (cds_at hq)
theorem IC.congr (h : IC w base C n b A V) (hA : ∀ q, q < n → A q = A' q) (hV : ∀ q, q < n → V q = V' q) : IC w base C n b A' V' := by
  have e : cds n b A V = cds n b A' V' := by
    refine List.map_congr_left fun q hq => ?_
    rw [hA q (List.mem_range.1 hq), hV q (List.mem_range.1 hq)]
  exact ⟨e ▸ h.cs, h.inj⟩
theorem IC.drewN (h : IC w base C n b A V) (k : Nat) : IC (w.drewN k) base C n b A V := ⟨h.cs.drewN k, h.inj⟩
theorem IC.set_ (h : IC w base C n b A V) {k i : Nat} (hk : k < n) (u : Value) (hA : ∀ q, q < n → q ≠ k → A' q = A q ∧ V' q = V q)
    (hu : (#[.iface 3 (.int .i64 (V k)), .int .i64 (A k)] : Array Value).setIfInBounds i u = #[.iface 3 (.int .i64 (V' k)), .int .i64 (A' k)]) : IC (w.setCell ⟨b k, i, none⟩ u) base C n b A' V' := by
  have hb := h.blk hk
  obtain ⟨⟨cc, X, hc⟩, hi⟩ := h
  refine ⟨⟨cc, X, hc.c.far (p := ⟨b k, i, none⟩) (hc.c.ne_ hb (by decide)) u, hc.h5, ?_, fun c hm => ?_, fun c hm => ?_, hc.le⟩, hi⟩
  · have := owns_far hc.o (p := ⟨b k, i, none⟩) (own_blk_ne hc.o hb (by decide)) u
    rw [cds_pv, cds_len] at this
    rw [cds_pv, cds_len]
    exact this
  · obtain ⟨q, hq, rfl⟩ := cds_mem hm
    show Blk _ (b q) _ _
    by_cases hqk : q = k
    · subst hqk
      have h2 := hb.set_ i u
      rw [hu] at h2
      exact h2
    · have h2 := (hc.at_ _ (List.mem_of_getElem? (cds_at hq))).far (p := ⟨b k, i, none⟩) (fun e => hqk (hi q k hq hk e)) u
      rw [(hA q hq hqk).1, (hA q hq hqk).2]
      exact h2
  · obtain ⟨q, hq, rfl⟩ := cds_mem hm
    have := hc.lo _ (List.mem_of_getElem? (cds_at (b := b) (A := A) (V := V) hq))
    exact this
theorem IC.op (h : IC w base C n b A V) {k : Nat} (hk : k < n) (o' : Int) : IC (w.setCell ⟨b k, 1, none⟩ (.int .i64 o')) base C n b (upd A k o') V :=
  h.set_ hk _ (fun q _ hne => ⟨if_neg hne, rfl⟩) (by simp [upd])
theorem IC.val (h : IC w base C n b A V) {k : Nat} (hk : k < n) (v' : Int) : IC (w.setCell ⟨b k, 0, none⟩ (.iface 3 (.int .i64 v'))) base C n b A (upd V k v') :=
  h.set_ hk _ (fun q _ hne => ⟨rfl, if_neg hne⟩) (by simp [upd])
/-- a list of ints as a function -/
def oF (l : List Int) (i : Nat) : Int := l[i]?.getD 0
theorem oF_at {l : List Int} {i : Nat} {x : Int} (h : l[i]? = some x) : oF l i = x := by simp [oF, h]
theorem ic_of {cs : List (Option Cd)} {xs ys : List Int} (hc : CSx w base C cs) (hI : Ints cs xs ys n) (hD : Dist cs) (hx : n ≤ xs.length) (hy : n ≤ ys.length) : ∃ b, IC w base C n b (oF xs) (oF ys) := by
  let b : Nat → Nat := fun q => match cs[q]? with
    | some (some c) => c.b
    | _ => 0
  have hb : ∀ q, q < n → cs[q]? = some (ic (b q) (oF xs q) (oF ys q)) := fun q hq => by
    obtain ⟨k, hk⟩ := hI.2 q xs[q] ys[q] hq (List.getElem?_eq_getElem (by omega)) (List.getElem?_eq_getElem (by omega))
    have e : b q = k := by simp only [b, hk]; rfl
    rw [e, oF_at (List.getElem?_eq_getElem (by omega)), oF_at (List.getElem?_eq_getElem (by omega))]
    exact hk
  have e : cs = cds n b (oF xs) (oF ys) := by
    refine List.ext_getElem? fun q => ?_
    by_cases hq : q < n
    · rw [hb q hq, cds_at hq]
    · rw [List.getElem?_eq_none (by rw [hI.1]; omega), List.getElem?_eq_none (by rw [cds_len]; omega)]
  refine ⟨b, e ▸ hc, fun i j hi hj hij => hD i j _ _ (hb i hi) (hb j hj) hij⟩
/-- the code behind the one at hand -/
def nx (n : Nat) (b : Nat → Nat) (k : Nat) : Value := if k = n then .pointer none else .pointer (some ⟨b k, 0, none⟩)
end
end Go.Proofs.Ytaeficfjocinaaa
