/- The description of an if-expression that came in, opened to what the walks speak of. -/
import Derived.Test.YtooalmhelfaodaaDoorOpen
import Derived.Test.YtooalmhelfaodaaDoorIfB
import Derived.Deep.Slices
import Derived.Deep.Fields
import Derived.ChangeSame
namespace Go.Proofs.YtooalmhelfaodaaDoor
open Go.Joins Go.ChangeShapes Go.WideShapes Go.RowKit Go.Deep
set_option maxRecDepth 100000
theorem k45 : Tryd.prog.cellsOf 45 = 2 := by kernel_rfl
theorem k3 : Tryd.prog.cellsOf 3 = 1 := by kernel_rfl
theorem k9 : Tryd.prog.cellsOf 9 = 1 := by kernel_rfl
theorem k4 : Tryd.prog.cellsOf 4 = 1 := by kernel_rfl
theorem k46 : Tryd.prog.cellsOf 46 = 1 := by kernel_rfl
theorem k105 : Tryd.prog.cellsOf 105 = 4 := by kernel_rfl
theorem k48 : Tryd.prog.cellsOf 48 = 8 := by kernel_rfl
section
variable {H : Type} {enc : TypeId × Value → H} {w : World} {base : Nat} {spare : Nat → Bool} {held : Bool}
theorem trod_atom {fuel : Nat} {cs : List Value} {x : DataW H × List MemPlace} (h : DataW.trod enc Tryd.prog w base spare held fuel 45 cs = some x) : ∃ (k : Int) (s : ByteArray), cs = [.int .i64 k, .string s] := by
  obtain ⟨y0, y1, n, _, hl, t0, t1⟩ := trod_struct2 Tryd.underlying45 h
  rw [k45] at hl
  match cs, hl with
  | [a, b], _ =>
    have t0' : DataW.trod enc Tryd.prog w base spare held n 3 [a] = some y0 := by rw [← t0]; show _ = DataW.trod enc _ _ _ _ _ _ 3 (([a, b].drop 0).take (Tryd.prog.cellsOf 3)); rw [k3]; rfl
    have t1' : DataW.trod enc Tryd.prog w base spare held n 9 [b] = some y1 := by rw [← t1]; show _ = DataW.trod enc _ _ _ _ _ _ 9 (([a, b].drop 1).take (Tryd.prog.cellsOf 9)); rw [k9]; rfl
    obtain ⟨k, e0, _, _⟩ := DataW.trod_int Tryd.underlying3 t0'
    obtain ⟨s, e1, _, _⟩ := DataW.trod_string Tryd.underlying9 t1'
    simp only [List.cons.injEq, and_true] at e0 e1
    subst e0 e1
    exact ⟨k, s, rfl⟩
theorem trod_branch {fuel : Nat} {cs : List Value} {x : DataW H × List MemPlace} (h : DataW.trod enc Tryd.prog w base spare held fuel 105 cs = some x) : ∃ b : Br, cs = [.int .i64 b.k1, .string b.s1, .int .i64 b.k2, .string b.s2] := by
  obtain ⟨y0, y1, n, _, hl, t0, t1⟩ := trod_struct2 Tryd.underlying105 h
  rw [k105] at hl
  match cs, hl with
  | [a, b, c, d], _ =>
    have t0' : DataW.trod enc Tryd.prog w base spare held n 45 [a, b] = some y0 := by rw [← t0]; show _ = DataW.trod enc _ _ _ _ _ _ 45 (([a, b, c, d].drop 0).take (Tryd.prog.cellsOf 45)); rw [k45]; rfl
    have t1' : DataW.trod enc Tryd.prog w base spare held n 45 [c, d] = some y1 := by rw [← t1]; show _ = DataW.trod enc _ _ _ _ _ _ 45 (([a, b, c, d].drop 2).take (Tryd.prog.cellsOf 45)); rw [k45]; rfl
    obtain ⟨p1, q1, e0⟩ := trod_atom t0'
    obtain ⟨p2, q2, e1⟩ := trod_atom t1'
    simp only [List.cons.injEq, and_true] at e0 e1
    obtain ⟨rfl, rfl⟩ := e0
    obtain ⟨rfl, rfl⟩ := e1
    exact ⟨⟨p1, q1, p2, q2⟩, rfl⟩
theorem trod_branches {W : World} {sp : Nat → Bool} {hd : Bool} {fuel : Nat} {v : Value} {x : DataW H × List MemPlace} (h : DataW.trod enc Tryd.prog W 0 sp hd fuel 46 [v] = some x) :
    ∃ A c, ∃ es : List Br, v = .slice A es.length c ∧ BrsAt W W.heap.size A es ∧ (A = none → c = 0 ∧ es = []) := by
  rcases open_slice Tryd.underlying46 h with ⟨hcs, _⟩ | ⟨a, len, cap, m, n, D, Pl, hcs, hbase, hl, hm, hmm, hx, hi⟩
  · simp only [List.cons.injEq, and_true] at hcs
    subst hcs
    exact ⟨none, 0, [], rfl, fun i x hx => by simp at hx, fun _ => ⟨rfl, rfl⟩⟩
  · simp only [List.cons.injEq, and_true] at hcs
    subst hcs
    have hml : len ≤ m := by rw [hmm]; split <;> omega
    have hat : ∀ i, i < len → ∃ b : Br, ∀ j v, [Value.int .i64 b.k1, .string b.s1, .int .i64 b.k2, .string b.s2][j]? = some v → W.cell? (a.add (i * 4 + j)) = some v := by
      intro i hil
      obtain ⟨cs', hc, ht'⟩ := hi i (by omega)
      rw [k105] at hc
      obtain ⟨_, hcl, hat⟩ := World.cells?_some hc
      obtain ⟨b, rfl⟩ := trod_branch ht'
      refine ⟨b, fun j v hj => ?_⟩
      have hjl : j < 4 := by have := (List.getElem?_eq_some_iff.1 hj).1; simpa using this
      rw [← Go.Deep.add_add, hat j hjl, hj]
    have hgen : ∀ n, n ≤ len → ∃ es : List Br, es.length = n ∧ ∀ i b, es[i]? = some b → ∀ j v, [Value.int .i64 b.k1, .string b.s1, .int .i64 b.k2, .string b.s2][j]? = some v → W.cell? (a.add (i * 4 + j)) = some v := by
      intro n
      induction n with
      | zero => intro _; exact ⟨[], rfl, fun i b hb => by simp at hb⟩
      | succ n ih =>
        intro hn
        obtain ⟨es, hel, hes⟩ := ih (by omega)
        obtain ⟨b, hb⟩ := hat n (by omega)
        refine ⟨es ++ [b], by simp [hel], fun i b' hb' => ?_⟩
        by_cases hin : i < es.length
        · rw [List.getElem?_append_left hin] at hb'
          exact hes i b' hb'
        · rw [List.getElem?_append_right (by omega)] at hb'
          have hi0 : i - es.length = 0 := by
            rcases Nat.eq_zero_or_pos (i - es.length) with h1 | h1
            · exact h1
            · rw [List.getElem?_eq_none (by simp; omega)] at hb'; cases hb'
          rw [hi0] at hb'
          simp at hb'
          subst hb'
          obtain rfl : i = n := by omega
          exact hb
    obtain ⟨es, hel, hes⟩ := hgen len (Nat.le_refl _)
    refine ⟨some a, cap, es, by rw [hel], fun i b hb => ?_, fun h => by cases h⟩
    have h0 := hes i b hb 0 _ rfl
    obtain ⟨g, o, rfl⟩ : ∃ g o, a = ⟨g, o, none⟩ := by
      obtain ⟨g, o, spot⟩ := a
      have hpos : 0 < es.length := Nat.lt_of_le_of_lt (Nat.zero_le _) (lt_of_some hb)
      have h00 := hes 0 es[0] (List.getElem?_eq_getElem hpos) 0 _ rfl
      have hspot : spot = none := by simpa [Addr.add] using World.cell?_spot h00
      subst hspot
      exact ⟨g, o, rfl⟩
    have h1 := hes i b hb 1 _ rfl
    have h2 := hes i b hb 2 _ rfl
    have h3 := hes i b hb 3 _ rfl
    rw [Go.WideShapes.add_plain] at h0 h1 h2 h3
    exact ⟨g, o, rfl, World.block_lt_of_cell? W _ h0, h0, h1, h2, h3⟩
theorem open_iff {W : World} {v : Value} {d : DataW H} {p : List MemPlace} {r : Reach} {b0 : Nat} {sp : Nat → Bool} {hd : Bool}
    (hv : Value.okWide Tryd.prog W r b0 48 v) (h : DataW.Trod enc Tryd.prog W 0 sp hd 48 v d p) :
    ∃ (kc kt ke : Int) (sc st se : ByteArray) (A : Option Addr) (c : Nat) (es : List Br) (he : Bool), v = .agg #[.int .i64 kc, .string sc, .int .i64 kt, .string st, .slice A es.length c, .bool he, .int .i64 ke, .string se] ∧ BrsAt W W.heap.size A es ∧ (A = none → c = 0 ∧ es = []) := by
  obtain ⟨cs, rfl, hsz⟩ := okWide_struct Tryd.underlying48 hv
  obtain ⟨l⟩ := cs
  match l, hsz.trans k48 with
  | [c0, c1, c2, c3, c4, c5, c6, c7], _ =>
    obtain ⟨fuel, hf⟩ := h
    obtain ⟨xs, n, _, _, _, hlen, hg⟩ := DataW.trod_struct Tryd.underlying48 hf
    match xs, hlen with
    | [y0, y1, y2, y3, y4], _ =>
      have t0 : DataW.trod enc Tryd.prog W 0 sp hd n 45 [c0, c1] = some y0 := by simpa [Value.cells, k45] using hg 0 _ rfl
      have t1 : DataW.trod enc Tryd.prog W 0 sp hd n 45 [c2, c3] = some y1 := by simpa [Value.cells, k45] using hg 1 _ rfl
      have t2 : DataW.trod enc Tryd.prog W 0 sp hd n 46 [c4] = some y2 := by simpa [Value.cells, k46] using hg 2 _ rfl
      have t3 : DataW.trod enc Tryd.prog W 0 sp hd n 4 [c5] = some y3 := by simpa [Value.cells, k4] using hg 3 _ rfl
      have t4 : DataW.trod enc Tryd.prog W 0 sp hd n 45 [c6, c7] = some y4 := by simpa [Value.cells, k45] using hg 4 _ rfl
      obtain ⟨kc, sc, e0⟩ := trod_atom t0
      obtain ⟨kt, st, e1⟩ := trod_atom t1
      obtain ⟨A, c, es, rfl, hB, hA⟩ := trod_branches t2
      obtain ⟨he, e3, _⟩ := DataW.trod_bool Tryd.underlying4 t3
      obtain ⟨ke, se, e4⟩ := trod_atom t4
      simp only [List.cons.injEq, and_true] at e0 e1 e3 e4
      obtain ⟨rfl, rfl⟩ := e0
      obtain ⟨rfl, rfl⟩ := e1
      obtain ⟨rfl, rfl⟩ := e4
      subst e3
      exact ⟨kc, kt, ke, sc, st, se, A, c, es, he, rfl, hB, hA⟩
end
end Go.Proofs.YtooalmhelfaodaaDoor
