/- Slices of integers and of strings that came in, opened to what the walks speak of. -/
import Derived.Test.YtbkakiipaehleaaFmtRows
import Derived.Test.YtbkakiipaehleaaFmtBlk
import Derived.WalkKit
import Derived.ProofKit
import Derived.OpenShut
import Derived.ShutString
import Derived.SliceStrings
import Derived.Carry
namespace Go.Proofs.YtbkakiipaehleaaFmt
open Go.ChangeShapes Go.WideShapes Go.RowKit
theorem own : ownKnob Tryf.prog.godebug = none := by kernel_rfl
theorem laidOut : laidOutB Tryf.prog = true := by kernel_rfl
/-- what a slice of one-cell elements that came in gives a walk -/
def RdIn (W : World) (A : Option Addr) (c : Nat) (xs : List Value) : Prop := (A = none → c = 0 ∧ xs = []) ∧ RdAt W W.heap.size A xs ∧ xs.length ≤ 9223372036854775807
theorem rdin_of {W : World} {a : Addr} {xs : List Value} {cap : Nat} (h : ∀ i v, xs[i]? = some v → W.cell? (a.add i) = some v) (hl : xs.length ≤ maxLen) : RdIn W (some a) cap xs := by
  refine ⟨fun h => (by cases h), fun i v hi => ?_, hl⟩
  have h0 : 0 < xs.length := by have := lt_of_some hi; omega
  have hc0 := h 0 xs[0] (List.getElem?_eq_getElem h0)
  obtain ⟨g, o, spot⟩ := a
  have hspot : spot = none := by simpa [Addr.add] using World.cell?_spot hc0
  subst hspot
  have hc := h i v hi
  rw [Go.WideShapes.add_plain] at hc
  exact ⟨g, o, rfl, World.block_lt_of_cell? W _ hc, hc⟩
set_option maxRecDepth 100000 in
theorem open_intsR {H : Type} {enc : TypeId × Value → H} {W : World} {v : Value} {d : DataW H} {p : List MemPlace} {r : Reach} {b0 : Nat} {sp : Nat → Bool} {held : Bool} {T E : TypeId} {k : IntKind}
    (hT : Tryf.prog.underlying T = some (.slice E)) (hE : Tryf.prog.underlying E = some (.int k)) (hC : Tryf.prog.cellsOf E = 1)
    (hv : Value.okWide Tryf.prog W r b0 T v) (h : DataW.Trod enc Tryf.prog W 0 sp held T v d p) : ∃ A c, ∃ xs : List Int, v = .slice A xs.length c ∧ RdIn W A c (xs.map (Value.int k)) ∧ (∀ x ∈ xs, (Lit.int k x).wf = true) := by
  obtain ⟨ao, len, cap, rfl⟩ := okWide_slice hT hv
  obtain ⟨fuel, hf⟩ := h
  rcases open_ints hT hE hC hf with ⟨hcs, _⟩ | ⟨a, len', cap', zs, hcs, _, hl, hm, hz, _, hcell, hwz⟩
  · simp [Value.cells] at hcs
    obtain ⟨rfl, rfl, rfl⟩ := hcs
    exact ⟨none, 0, [], rfl, ⟨fun _ => ⟨rfl, rfl⟩, fun i x hx => by simp at hx, by simp⟩, fun x hx => by cases hx⟩
  · simp [Value.cells] at hcs
    obtain ⟨rfl, rfl, rfl⟩ := hcs
    have hzl : len ≤ zs.length := by have := hz; first | omega | (split at this <;> omega)
    refine ⟨some a, cap, zs.take len, by rw [List.length_take, Nat.min_eq_left hzl], rdin_of (fun i v hi => ?_) (by simp; omega), fun x hx => hwz x (List.mem_of_mem_take hx)⟩
    rw [List.getElem?_map] at hi
    cases hzi : (zs.take len)[i]? with
    | none => rw [hzi] at hi; cases hi
    | some z =>
      rw [hzi] at hi
      injection hi with hi
      subst hi
      have hlt := lt_of_some hzi
      rw [List.length_take] at hlt
      rw [List.getElem?_take_of_lt (by omega)] at hzi
      rw [hcell i (by omega)]
      simp [List.getD, hzi]
set_option maxRecDepth 100000 in
theorem open_strsR {H : Type} {enc : TypeId × Value → H} {W : World} {v : Value} {d : DataW H} {p : List MemPlace} {r : Reach} {b0 : Nat} {sp : Nat → Bool} {held : Bool} {T E : TypeId}
    (hT : Tryf.prog.underlying T = some (.slice E)) (hE : Tryf.prog.underlying E = some .string) (hC : Tryf.prog.cellsOf E = 1)
    (hv : Value.okWide Tryf.prog W r b0 T v) (h : DataW.Trod enc Tryf.prog W 0 sp held T v d p) : ∃ A c, ∃ xs : List ByteArray, v = .slice A xs.length c ∧ RdIn W A c (xs.map Value.string) ∧ (∀ x ∈ xs, x.size ≤ 9223372036854775807) := by
  obtain ⟨ao, len, cap, rfl⟩ := okWide_slice hT hv
  obtain ⟨fuel, hf⟩ := h
  rcases open_strings hT hE hC hf with ⟨hcs, _⟩ | ⟨a, len', cap', zs, hcs, _, hl, hm, hz, _, hcell, hwz⟩
  · simp [Value.cells] at hcs
    obtain ⟨rfl, rfl, rfl⟩ := hcs
    exact ⟨none, 0, [], rfl, ⟨fun _ => ⟨rfl, rfl⟩, fun i x hx => by simp at hx, by simp⟩, fun x hx => by cases hx⟩
  · simp [Value.cells] at hcs
    obtain ⟨rfl, rfl, rfl⟩ := hcs
    have hzl : len ≤ zs.length := by have := hz; first | omega | (split at this <;> omega)
    refine ⟨some a, cap, zs.take len, by rw [List.length_take, Nat.min_eq_left hzl], rdin_of (fun i v hi => ?_) (by simp; omega), fun x hx => hwz x (List.mem_of_mem_take hx)⟩
    rw [List.getElem?_map] at hi
    cases hzi : (zs.take len)[i]? with
    | none => rw [hzi] at hi; cases hi
    | some z =>
      rw [hzi] at hi
      injection hi with hi
      subst hi
      have hlt := lt_of_some hzi
      rw [List.length_take] at hlt
      rw [List.getElem?_take_of_lt (by omega)] at hzi
      rw [hcell i (by omega)]
      simp [List.getD, hzi]
theorem rdin_nil {W : World} {A : Option Addr} {c : Nat} {xs : List Int} (h : RdIn W A c (xs.map (Value.int .i64))) : A = none → c = 0 ∧ xs = [] := fun hA => ⟨(h.1 hA).1, by simpa using (h.1 hA).2⟩
end Go.Proofs.YtbkakiipaehleaaFmt
