/- n001_65: the law on arrays of strings. -/
import Derived.Test.YtbjjcampiknnpaaDoorSab
import Derived.Test.YtbjjcampiknnpaaDoorOpenS
import Derived.Laws.AppendOwnNone
namespace Go.Proofs.YtbjjcampiknnpaaDoor
open Go.RowKit
set_option maxRecDepth 100000
set_option linter.unusedVariables false
set_option linter.unusedSimpArgs false
section
variable {P : Program} {w : World}
theorem wpList_append_rd {ops : Array Oper} {rest : List Oper} {o : Oper} {a : Act} {Q : Exit → Act → World → Prop} (hgd : o.guard = none) (s x : Operand) (t : TypeId)
    (ho : o.op = .call { callee := .builtin .append, args := #[s, x], argTypes := #[t, t] })
    (base : Nat) (e : TypeId) (i : TypeInfo) (z : Value) (size bytes : Nat) (ht : P.underlying t = some (.slice e)) (hi : P.info? e = some i) (hz : i.zero = some z)
    (hsize : i.size = size) (hs1 : size = 1) (hby : i.bytes = bytes) (hzs : z.cells.size = size)
    (v : Value) (n : Nat) (xs : List Value) (hs : a.eval s = v) (hown : w.ownsRow base e size v n xs)
    (A : Option Addr) (c : Nat) (news : List Value) (hx : a.eval x = .slice A news.length c) (hrd : RdIn w A c news) (h1 : ∀ u ∈ news, u.oneCell' = true)
    (h63 : n + news.length ≤ maxLen) (hbytes : (n + news.length) * bytes ≤ 140737488355328) (hbase : base ≤ w.heap.size)
    (h : ∀ v' w', w'.ownsRow base e size v' (n + news.length) (xs ++ news) → w.grownBy w' v.ownBlock → wpList P ops Q rest (a.put o.dst v') w') : wpList P ops Q (o :: rest) a w := by
  cases A with
  | none =>
    obtain ⟨rfl, rfl⟩ := hrd.1 rfl
    exact wpList_append_own_none hgd s x t ho base e i size ht hi v n xs hs hown hx (h v w (by simpa using hown) ⟨rfl, rfl, rfl, Nat.le_refl _, fun _ _ _ => rfl⟩)
  | some ad =>
    refine wpList_append_own w hgd s x t ho base e i z size bytes ht hi hz hsize hby hzs (by omega) v n xs hs hown ad news.length c news hx (by rw [hs1, Nat.mul_one]) ?_ h1 h63 hbytes hbase fun v' w' q1 q2 _ => h v' w' q1 q2
    intro j u hu
    obtain ⟨g, o', he, _, hc⟩ := hrd.2.1 j u hu
    injection he with he
    subst he
    rw [Go.WideShapes.add_plain]
    exact hc
end
theorem RdIn.below {w w' : World} {A : Option Addr} {c : Nat} {xs : List Value} (h : RdIn w A c xs) (hb : Below w.heap.size w w') : RdIn w' A c xs := ⟨h.1, (h.2.1.below hb).mono hb.size, h.2.2⟩
theorem own_read {w : World} {base : Nat} {e : TypeId} {v : Value} {n : Nat} {xs : List Value} (h : w.ownsRow base e 1 v n xs) : ∃ A c, v = .slice A xs.length c ∧ RdAt w w.heap.size A xs := by
  obtain ⟨hl, hh⟩ := h
  have h' : w.ownsRow base e 1 v n xs := ⟨hl, hh⟩
  rcases hh with ⟨rfl, rfl⟩ | ⟨g, cap, cur, rfl, hb, hc, _⟩
  · simp at hl
    subst hl
    exact ⟨none, 0, rfl, fun i u hu => by simp at hu⟩
  · rw [Nat.mul_one] at hl
    subst hl
    refine ⟨_, cap, rfl, fun i u hu => ⟨g, 0, rfl, (h'.lt g rfl).2, ?_⟩⟩
    rw [Nat.zero_add, World.ownsRow.cellAt h' i (by rw [Nat.mul_one]; exact lt_of_some hu)]
    exact hu
theorem tabs_two {w : World} (h : Lib.Utf8Tabs 0 1 w) : 2 ≤ w.heap.size := World.block_lt_of_cell? w _ (h.2 0 (by omega)).1
theorem infoStr : (Tryd.prog.info? 9).map (fun i => (i.zero, i.size, i.bytes)) = some (some (.string ⟨#[]⟩), 1, 16) := by kernel_rfl
theorem one_str (xs : List ByteArray) : ∀ u ∈ xs.map Value.string, u.oneCell' = true := by
  intro u hu
  obtain ⟨s, _, rfl⟩ := List.mem_map.1 hu
  rfl
/-- a text of an array -/
def AT (S : ByteArray) (xs : List ByteArray) : Prop := S = ⟨(arrT xs).toArray⟩
theorem AT.size {S : ByteArray} {xs : List ByteArray} (h : AT S xs) : S.size = (joinQ xs).length + 2 := by
  subst h
  show (arrT xs).toArray.size = _
  simp [arrT]
theorem AT.first {S : ByteArray} {xs : List ByteArray} (h : AT S xs) (hl : 0 < S.size) : S[0].toNat = 91 := by
  subst h
  rfl
theorem AT.last {S : ByteArray} {xs : List ByteArray} (h : AT S xs) (hl : S.size - 1 < S.size) : S[S.size - 1].toNat = 93 := by
  have hz := h.size
  subst h
  show ((arrT xs).toArray[(arrT xs).toArray.size - 1]'hl).toNat = 93
  simp [arrT]
theorem AT.cat {S1 S2 S3 : ByteArray} {xs ys : List ByteArray} (h1 : AT S1 xs) (h2 : AT S2 ys) (h3 : AT S3 (xs ++ ys)) (sep : ByteArray) (hs : sep = if xs = [] ∨ ys = [] then ⟨#[]⟩ else ⟨#[44, 32]⟩) :
    (S3.toList == (S1.extract 0 (S1.size - 1) ++ sep ++ S2.extract 1 S2.size).toList) = true := by
  have z1 := h1.size
  have z2 := h2.size
  rw [beq_iff_eq, Lib.toList_data, Lib.toList_data, ByteArray.data_append, ByteArray.data_append, Array.toList_append, Array.toList_append, Lib.extract_data, Lib.extract_data, z1, z2]
  subst h1 h2 h3
  have e1 : ((arrT xs).drop 0).take ((joinQ xs).length + 2 - 1 - 0) = [91] ++ joinQ xs := by
    simp [arrT]
  have e2 : ((arrT ys).drop 1).take ((joinQ ys).length + 2 - 1) = joinQ ys ++ [93] := by
    simp [arrT]
    exact List.take_of_length_le (by simp)
  show arrT (xs ++ ys) = ((arrT xs).drop 0).take ((joinQ xs).length + 2 - 1 - 0) ++ sep.data.toList ++ ((arrT ys).drop 1).take ((joinQ ys).length + 2 - 1)
  rw [e1, e2, hs, arrT, joinQ_append]
  by_cases hx : xs = []
  · subst hx; simp [joinQ]
  · by_cases hy : ys = []
    · subst hy; simp [joinQ, hx]
    · simp [hx, hy]
end Go.Proofs.YtbjjcampiknnpaaDoor
