/- A tree that came in, opened to what the walks speak of; the form's own reach bounds its strings. -/
import Derived.Test.YtbjjcampiknnpaaDoorOpen
import Derived.Test.YtbjjcampiknnpaaDoorNd
import Derived.WalkKit
import Derived.ProofKit
import Derived.OpenShut
import Derived.ShutString
import Derived.SliceStrings
import Derived.Carry
namespace Go.Proofs.YtbjjcampiknnpaaDoor
open Go.Joins Go.ChangeShapes Go.WideShapes Go.RowKit Go.Deep
section
variable {H : Type} {enc : TypeId × Value → H} {P : Program} {w : World} {base : Nat} {spare : Nat → Bool} {held : Bool}
theorem agg4 {t : TypeId} {f0 f1 f2 f3 : Field} {fuel : Nat} {cs : List Value} {x : DataW H × List MemPlace} (hs : P.underlying t = some (.struct #[f0, f1, f2, f3])) (hone : oneCellFields P #[f0, f1, f2, f3] = true) (hC : P.cellsOf t = 4)
    (h : DataW.trod enc P w base spare held fuel t cs = some x) :
    ∃ (v0 v1 v2 v3 : Value) (y0 y1 y2 y3 : DataW H × List MemPlace) (n : Nat), fuel = n + 1 ∧ cs = [v0, v1, v2, v3] ∧ x.1 = .agg [y0.1, y1.1, y2.1, y3.1] ∧
      DataW.trod enc P w base spare held n f0.type [v0] = some y0 ∧ DataW.trod enc P w base spare held n f1.type [v1] = some y1 ∧ DataW.trod enc P w base spare held n f2.type [v2] = some y2 ∧ DataW.trod enc P w base spare held n f3.type [v3] = some y3 := by
  obtain ⟨xs, n, hn, hx, hcl, hlen, hg⟩ := DataW.trod_struct hs h
  match cs, hcl.trans hC with
  | [c0, c1, c2, c3], _ =>
    obtain ⟨o0, k0⟩ := hone_of hone 0 f0 rfl
    obtain ⟨o1, k1⟩ := hone_of hone 1 f1 rfl
    obtain ⟨o2, k2⟩ := hone_of hone 2 f2 rfl
    obtain ⟨o3, k3⟩ := hone_of hone 3 f3 rfl
    match xs, hlen with
    | [y0, y1, y2, y3], _ =>
      exact ⟨c0, c1, c2, c3, y0, y1, y2, y3, n, hn, rfl, by rw [hx]; rfl, by simpa [o0, k0] using hg 0 f0 rfl, by simpa [o1, k1] using hg 1 f1 rfl, by simpa [o2, k2] using hg 2 f2 rfl, by simpa [o3, k3] using hg 3 f3 rfl⟩
theorem weights_of {t : TypeId} {d : DataW H} {l : List (DataW H)} (h : d ∈ l) {x : Nat} (hx : x ∈ d.weights P t) : x ∈ DataW.weightsAll P t l := by
  induction l with
  | nil => cases h
  | cons y r ih =>
    simp only [DataW.weightsAll]
    rcases List.mem_cons.1 h with h | h
    · subst h; exact List.mem_append_left _ hx
    · exact List.mem_append_right _ (ih h)
theorem weights_each : ∀ (ts vs : List TypeId) (ds gs : List (DataW H)), ts.length = ds.length → DataW.weightsEach P (ts ++ vs) (ds ++ gs) = DataW.weightsEach P ts ds ++ DataW.weightsEach P vs gs
  | [], vs, [], gs, _ => by simp [DataW.weightsEach]
  | t :: ts, vs, d :: ds, gs, h => by
    simp only [List.cons_append, DataW.weightsEach]
    rw [weights_each ts vs ds gs (by simpa using h), List.append_assoc]
  | [], _, _ :: _, _, h => by simp at h
  | _ :: _, _, [], _, h => by simp at h
theorem trodAll_len : ∀ {ts : List TypeId} {vs : List Value} {ds : List (DataW H)} {ps : List MemPlace}, DataW.TrodAll enc P w base spare held ts vs ds ps → ts.length = ds.length
  | [], [], [], _, _ => rfl
  | t :: ts, v :: vs, d :: ds, _, h => by
    obtain ⟨p, q, _, h2, _⟩ := h
    simp only [List.length_cons, trodAll_len h2]
  | [], _ :: _, _, _, h => by simp [DataW.TrodAll] at h
  | [], [], _ :: _, _, h => by simp [DataW.TrodAll] at h
  | _ :: _, [], _, _, h => by simp [DataW.TrodAll] at h
  | _ :: _, _ :: _, [], _, h => by simp [DataW.TrodAll] at h
/-- the form's own reach, for the arguments -/
theorem sized_ds {ts vs : List TypeId} {args : List Value} {ds gs : List (DataW H)} {ps : List MemPlace} (hA : DataW.TrodAll enc P w base spare held ts args ds ps) (hall : (DataW.weightsEach P (ts ++ vs) (ds ++ gs)).all (· ≤ reachBytes) = true) : ∀ x ∈ DataW.weightsEach P ts ds, x ≤ reachBytes := by
  intro x hx
  rw [weights_each _ _ _ _ (trodAll_len hA)] at hall
  have := List.all_eq_true.1 hall x (List.mem_append_left _ hx)
  simpa using this
end
set_option maxRecDepth 100000 in
set_option maxHeartbeats 1000000 in
theorem open_nd {H : Type} {enc : TypeId × Value → H} {W : World} {sp : Nat → Bool} {held : Bool} : ∀ (fuel : Nat) (cs : List Value) (x : DataW H × List MemPlace), DataW.trod enc Tryd.prog W 0 sp held fuel 26 cs = some x → (∀ y ∈ x.1.weights Tryd.prog 26, y ≤ reachBytes) →
    ∃ (k : Nat) (num key : ByteArray) (A : Option Addr) (cap : Nat) (kids : List Nd), cs = [.int .u8 k, .string num, .string key, .slice A kids.length cap] ∧ NdAt W W.heap.size (fuel / 2) (.agg #[.int .u8 k, .string num, .string key, .slice A kids.length cap]) (.mk k num key kids) := by
  intro fuel
  induction fuel using Nat.strongRecOn with
  | ind fuel ih =>
    intro cs x h hw
    obtain ⟨v0, v1, v2, v3, y0, y1, y2, y3, n, hn, rfl, hx, t0, t1, t2, t3⟩ := agg4 Tryd.underlying26 (by kernel_rfl) (by kernel_rfl) h
    obtain ⟨m, e0, rfl, hm⟩ := DataW.trod_int Tryd.underlying5 t0
    obtain ⟨num, e1, rfl, _⟩ := DataW.trod_string Tryd.underlying9 t1
    obtain ⟨key, e2, rfl, _⟩ := DataW.trod_string Tryd.underlying9 t2
    simp only [List.cons.injEq, and_true] at e0 e1 e2
    subst e0 e1 e2
    obtain ⟨k, rfl, hk⟩ : ∃ k : Nat, m = (k : Int) ∧ k < 256 := by
      simp [Lit.wf, IntKind.min, IntKind.max, IntKind.signed, IntKind.bits] at hm
      exact ⟨m.toNat, by omega, by omega⟩
    rw [hx] at hw
    simp only [DataW.weights, Tryd.underlying26, List.map_cons, List.map_nil, DataW.weightsEach] at hw
    have hrb : reachBytes ≤ 140737488355328 := by decide
    have hsn : num.size ≤ 140737488355328 := by
      have := hw num.data.toList.length (by simp)
      rw [size_list'] at this
      omega
    have hsk : key.size ≤ 140737488355328 := by
      have := hw key.data.toList.length (by simp)
      rw [size_list'] at this
      omega
    rcases DataW.trod_slice Tryd.underlying24 t3 with ⟨e3, hy3⟩ | ⟨a, len, cap, elems, rest, n', hn', e3, hy3, _, hl, hmx, hel, hi, _, _⟩
    · simp only [List.cons.injEq, and_true] at e3
      subst e3
      refine ⟨k, num, key, none, 0, [], rfl, ?_⟩
      obtain ⟨n2, rfl⟩ : ∃ n2, n = n2 + 1 := by
        cases n with
        | zero => simp [DataW.trod] at t0
        | succ n2 => exact ⟨n2, rfl⟩
      rw [hn, show (n2 + 1 + 1) / 2 = n2 / 2 + 1 by omega]
      exact ⟨none, 0, rfl, hk, by simp, hsn, hsk, fun i k' num' key' kids' h => by simp at h⟩
    · simp only [List.cons.injEq, and_true] at e3
      subst e3 hy3
      have hsl : len ≤ 140737488355328 := by
        have h1 := hw ((elems.length + rest.length) * Tryd.prog.bytesOf 26) (by
          simp only [List.mem_append]
          refine Or.inr (Or.inr (Or.inr (Or.inl ?_)))
          simp [DataW.weights, Tryd.underlying24])
        have hb : 1 ≤ Tryd.prog.bytesOf 26 := of_decide_eq_true (by kernel_rfl)
        have h2 := Nat.le_mul_of_pos_right (elems.length + rest.length) (show 0 < Tryd.prog.bytesOf 26 by omega)
        omega
      have hwe : ∀ e ∈ elems, ∀ y ∈ e.1.weights Tryd.prog 26, y ≤ reachBytes := fun e he y hy => hw y (by
        simp only [List.mem_append]
        refine Or.inr (Or.inr (Or.inr (Or.inl ?_)))
        simp only [DataW.weights, Tryd.underlying24]
        exact List.mem_cons_of_mem _ (List.mem_append_left _ (weights_of (List.mem_map_of_mem he) hy)))
      have hplain : 0 < len → ∃ g o, a = ⟨g, o, none⟩ := fun h0 => by
        have h1 := hi 0 h0
        have hqe : 0 < elems.length := by omega
        rw [List.getElem?_eq_getElem hqe, Option.bind_eq_some_iff] at h1
        obtain ⟨cs', hc, ht⟩ := h1
        obtain ⟨_, hcl, hcell⟩ := World.cells?_some hc
        obtain ⟨k', num', key', A', cap', kids', rfl, hN⟩ := ih n' (by omega) cs' _ ht (hwe _ (List.getElem_mem hqe))
        have hc4 : Tryd.prog.cellsOf 26 = 4 := by kernel_rfl
        rw [hc4] at hcell
        have q0 : W.cell? _ = some _ := hcell 0 (by omega)
        obtain ⟨g, o, spot⟩ := a
        have hspot : spot = none := by simpa [Addr.add] using World.cell?_spot q0
        subst hspot
        exact ⟨g, o, rfl⟩
      have hgen : ∀ q, q ≤ len → ∃ kids : List Nd, kids.length = q ∧ ∀ (i k' : Nat) (num' key' : ByteArray) (kids' : List Nd), kids[i]? = some (.mk k' num' key' kids') → ∃ g o A' cap', (some a : Option Addr) = some ⟨g, o, none⟩ ∧ g < W.heap.size ∧ W.cell? ⟨g, o + i * 4, none⟩ = some (.int .u8 k') ∧ W.cell? ⟨g, o + i * 4 + 1, none⟩ = some (.string num') ∧
          W.cell? ⟨g, o + i * 4 + 2, none⟩ = some (.string key') ∧ W.cell? ⟨g, o + i * 4 + 3, none⟩ = some (.slice A' kids'.length cap') ∧ NdAt W W.heap.size (n' / 2) (.agg #[.int .u8 k', .string num', .string key', .slice A' kids'.length cap']) (.mk k' num' key' kids') := by
        intro q
        induction q with
        | zero => intro _; exact ⟨[], rfl, fun i _ _ _ _ hx => by simp at hx⟩
        | succ q ihq =>
          intro hq
          obtain ⟨kids, hkl, hks⟩ := ihq (by omega)
          have hqe : q < elems.length := by omega
          have h1 := hi q (by omega)
          rw [List.getElem?_eq_getElem hqe, Option.bind_eq_some_iff] at h1
          obtain ⟨cs', hc, ht⟩ := h1
          obtain ⟨_, hcl, hcell⟩ := World.cells?_some hc
          obtain ⟨k', num', key', A', cap', kids', rfl, hN⟩ := ih n' (by omega) cs' _ ht (hwe _ (List.getElem_mem hqe))
          have hc4 : Tryd.prog.cellsOf 26 = 4 := by kernel_rfl
          rw [hc4] at hcell
          obtain ⟨g, o, rfl⟩ := hplain (by omega)
          have q0 := hcell 0 (by omega)
          have q0' : W.cell? ⟨g, o + q * 4, none⟩ = some (.int .u8 k') := by
            rw [Go.WideShapes.add_plain, Go.WideShapes.add_plain] at q0
            exact q0
          have q1' : W.cell? ⟨g, o + q * 4 + 1, none⟩ = some (.string num') := by
            have q1 := hcell 1 (by omega)
            rw [Go.WideShapes.add_plain, Go.WideShapes.add_plain] at q1
            exact q1
          have q2' : W.cell? ⟨g, o + q * 4 + 2, none⟩ = some (.string key') := by
            have q1 := hcell 2 (by omega)
            rw [Go.WideShapes.add_plain, Go.WideShapes.add_plain] at q1
            exact q1
          have q3' : W.cell? ⟨g, o + q * 4 + 3, none⟩ = some (.slice A' kids'.length cap') := by
            have q1 := hcell 3 (by omega)
            rw [Go.WideShapes.add_plain, Go.WideShapes.add_plain] at q1
            exact q1
          refine ⟨kids ++ [.mk k' num' key' kids'], by simp [hkl], fun i k2 num2 key2 kids2 hx => ?_⟩
          by_cases hin : i < kids.length
          · rw [List.getElem?_append_left hin] at hx
            exact hks i k2 num2 key2 kids2 hx
          · rw [List.getElem?_append_right (by omega)] at hx
            have hi0 : i - kids.length = 0 := by
              rcases Nat.eq_zero_or_pos (i - kids.length) with h1 | h1
              · exact h1
              · rw [List.getElem?_eq_none (by simp; omega)] at hx; cases hx
            rw [hi0] at hx
            simp only [List.getElem?_cons_zero, Option.some.injEq, Nd.mk.injEq] at hx
            obtain ⟨rfl, rfl, rfl, rfl⟩ := hx
            have hin2 : i = q := by omega
            subst hin2
            exact ⟨g, o, A', cap', rfl, World.block_lt_of_cell? W _ q0', q0', q1', q2', q3', hN⟩
      obtain ⟨kids, hkl, hks⟩ := hgen len (Nat.le_refl _)
      refine ⟨k, num, key, some a, cap, kids, by rw [hkl], ?_⟩
      rw [hn, hn', show (n' + 1 + 1) / 2 = n' / 2 + 1 by omega]
      exact ⟨some a, cap, rfl, hk, by omega, hsn, hsk, hks⟩
set_option maxRecDepth 100000 in
theorem open_node {H : Type} {enc : TypeId × Value → H} {W : World} {v : Value} {d : DataW H} {p : List MemPlace} {r : Reach} {b0 : Nat} {sp : Nat → Bool} {held : Bool} (hv : Value.okWide Tryd.prog W r b0 26 v) (h : DataW.Trod enc Tryd.prog W 0 sp held 26 v d p) (hw : ∀ y ∈ d.weights Tryd.prog 26, y ≤ reachBytes) :
    ∃ (n k : Nat) (num key : ByteArray) (A : Option Addr) (cap : Nat) (kids : List Nd), v = .agg #[.int .u8 k, .string num, .string key, .slice A kids.length cap] ∧ NdAt W W.heap.size n (.agg #[.int .u8 k, .string num, .string key, .slice A kids.length cap]) (.mk k num key kids) := by
  obtain ⟨cs, rfl, _⟩ := okWide_struct Tryd.underlying26 hv
  obtain ⟨fuel, hf⟩ := h
  obtain ⟨k, num, key, A, cap, kids, e, hN⟩ := open_nd fuel _ _ hf hw
  obtain ⟨cs⟩ := cs
  have e' : cs = _ := e
  subst e'
  exact ⟨_, k, num, key, A, cap, kids, rfl, hN⟩
end Go.Proofs.YtbjjcampiknnpaaDoor
