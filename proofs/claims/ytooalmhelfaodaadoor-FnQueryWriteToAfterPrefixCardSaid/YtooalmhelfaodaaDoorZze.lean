/- The chain that zzBuild makes, on plain lists; what other blocks keep while the text grows. -/
import Derived.Test.YtooalmhelfaodaaDoorZzc
import Derived.Test.YtooalmhelfaodaaDoorChb
namespace Go.Proofs.YtooalmhelfaodaaDoor
open Go.RowKit
set_option linter.unusedVariables false
def kAt (ks : List Nat) (j : Nat) : Nat := ks.getD j 0
def opAt (os : List Nat) (j : Nat) : Nat := if h : j < os.length then os[j] % 24 + 1 else 1
def patAt (os : List Nat) (ps : List ByteArray) (j : Nat) : Option ByteArray := if opAt os j = 1 then (if (txt ps j).size = 0 then none else some (txt ps j)) else none
def chain (ks os : List Nat) (ts ps : List ByteArray) : Nat → Qu
  | 0 => .leaf (zzL (kAt ks 0) (txt ts 0))
  | j + 1 => .bin (chain ks os ts ps j) (opAt os j) (patAt os ps j) (zzL (kAt ks (j + 1)) (txt ts (j + 1)))
def flat (ks os : List Nat) (ts ps : List ByteArray) (j : Nat) : List UInt8 := outQ (chain ks os ts ps j) []
theorem opAt_bd (os : List Nat) (j : Nat) : 1 ≤ opAt os j ∧ opAt os j ≤ 24 := by
  unfold opAt
  split
  · have := Nat.mod_lt os[j] (show 24 > 0 by omega); omega
  · omega
theorem flat_zero (ks os : List Nat) (ts ps : List ByteArray) : flat ks os ts ps 0 = (zzS (kAt ks 0) (txt ts 0)).data.toList := zzL_out _ _
theorem flat_succ (ks os : List Nat) (ts ps : List ByteArray) (j : Nat) : flat ks os ts ps (j + 1) = flat ks os ts ps j ++ tlB (opAt os j) (patAt os ps j) (zzL (kAt ks (j + 1)) (txt ts (j + 1))) := outQ_bin _ _ _ _ _
theorem flat_pat (ks os : List Nat) (ts ps : List ByteArray) (j : Nat) (h1 : opAt os j = 1) (h2 : (txt ps j).size ≠ 0) :
    flat ks os ts ps (j + 1) = flat ks os ts ps j ++ [32, 97, 115, 32] ++ (txt ps j).data.toList ++ [32, 124, 32] ++ (zzS (kAt ks (j + 1)) (txt ts (j + 1))).data.toList := by
  rw [flat_succ]
  unfold patAt
  rw [if_pos h1, if_neg h2, h1, tlB_pat, zzL_out]
  simp only [List.append_assoc]
theorem flat_comma (ks os : List Nat) (ts ps : List ByteArray) (j : Nat) (h1 : opAt os j = 2) :
    flat ks os ts ps (j + 1) = flat ks os ts ps j ++ [44, 32] ++ (zzS (kAt ks (j + 1)) (txt ts (j + 1))).data.toList := by
  rw [flat_succ]
  unfold patAt
  rw [if_neg (by omega), h1, tlB_comma, zzL_out]
  simp only [List.append_assoc]
theorem flat_op (ks os : List Nat) (ts ps : List ByteArray) (j : Nat) (h1 : opAt os j ≠ 2) (hp : patAt os ps j = none) :
    flat ks os ts ps (j + 1) = flat ks os ts ps j ++ [32] ++ (opS (opAt os j)).data.toList ++ [32] ++ (zzS (kAt ks (j + 1)) (txt ts (j + 1))).data.toList := by
  rw [flat_succ, hp, tlB_op _ _ h1, zzL_out]
  simp only [List.append_assoc]
theorem txt_le {ts : List ByteArray} (h : ∀ s ∈ ts, s.size ≤ 1048576) (j : Nat) : (txt ts j).size ≤ 1048576 := by
  unfold txt
  cases hx : ts[j]? with
  | none => show 0 ≤ _; omega
  | some s => exact h s (List.mem_of_getElem? hx)
theorem zzL_wt (k : Nat) (s : ByteArray) (h : s.size ≤ 1048576) : (zzL k s).wt ≤ 1048584 := by
  unfold zzL
  have h6 : k % 6 < 6 := Nat.mod_lt _ (by omega)
  rcases (show k % 6 = 0 ∨ k % 6 = 1 ∨ k % 6 = 2 ∨ k % 6 = 3 ∨ k % 6 = 4 ∨ k % 6 = 5 by omega) with h' | h' | h' | h' | h' | h'
  all_goals
    rw [h']
    simp only [Leaf.wt]
  all_goals first | omega | skip
  by_cases h0 : s.size = 0
  · rw [if_pos h0]; show 1 + 8 ≤ _; omega
  · rw [if_neg h0]; omega
theorem zzS_le (k : Nat) (s : ByteArray) (h : s.size ≤ 1048576) : (zzS k s).size ≤ 1048577 := by
  have h1 := outL_len (zzL k s) []
  have h2 := zzL_wt k s h
  unfold zzS
  have h6 : k % 6 < 6 := Nat.mod_lt _ (by omega)
  rcases (show k % 6 = 0 ∨ k % 6 = 1 ∨ k % 6 = 2 ∨ k % 6 = 3 ∨ k % 6 = 4 ∨ k % 6 = 5 by omega) with h' | h' | h' | h' | h' | h'
  all_goals rw [h']
  · show 1 ≤ _; omega
  · show 4 ≤ _; omega
  · show 4 ≤ _; omega
  · show 5 ≤ _; omega
  · show s.size ≤ _; omega
  · rw [← size_list]
    simp only [List.length_cons]
    by_cases h0 : s.size = 0
    · rw [if_pos h0]; show 1 + 1 ≤ _; omega
    · rw [if_neg h0, size_list]; omega
theorem chain_wt (ks os : List Nat) (ts ps : List ByteArray) (ht : ∀ s ∈ ts, s.size ≤ 1048576) (hp : ∀ s ∈ ps, s.size ≤ 1048576) (j : Nat) : (chain ks os ts ps j).wt ≤ 2097300 * j + 1048584 := by
  induction j with
  | zero => exact Nat.le_trans (zzL_wt _ _ (txt_le ht 0)) (by omega)
  | succ j ih =>
    have h1 := zzL_wt (kAt ks (j + 1)) _ (txt_le ht (j + 1))
    have h2 : wtP (patAt os ps j) ≤ 1048580 := by
      have h3 := txt_le hp j
      unfold patAt
      split
      · split
        · show 0 ≤ _; omega
        · show (txt ps j).size + 4 ≤ _; omega
      · show 0 ≤ _; omega
    show (chain ks os ts ps j).wt + wtP (patAt os ps j) + _ + 8 ≤ _
    omega
theorem flat_len (ks os : List Nat) (ts ps : List ByteArray) (ht : ∀ s ∈ ts, s.size ≤ 1048576) (hp : ∀ s ∈ ps, s.size ≤ 1048576) (j : Nat) (hj : j ≤ 65536) : (flat ks os ts ps j).length ≤ 137451000000 := by
  have h1 := outQ_len (chain ks os ts ps j) []
  have h2 := chain_wt ks os ts ps ht hp j
  unfold flat
  simp only [List.length_nil] at h1
  omega
/-! other blocks, while a row of bytes grows -/
section
variable {w w' : World} {B : Nat} (hk : Lib.OthersKept 5 none w w')
include hk
theorem Blk.kept {g : Nat} {t : TypeId} {cs : Array Value} (h : Blk w g t cs) (ht : t ≠ 5) : Blk w' g t cs :=
  hk g _ h (by intro e; cases e) (fun c fz e => by injection e with _ e; exact ht e)
theorem TermIs.kept {t : Nat} : ∀ {x : Leaf}, TermIs w B t x → TermIs w' B t x
  | .ident, h => ⟨h.1, Blk.kept hk h.2 (by decide)⟩ | .null, h => ⟨h.1, Blk.kept hk h.2 (by decide)⟩ | .tru, h => ⟨h.1, Blk.kept hk h.2 (by decide)⟩ | .fls, h => ⟨h.1, Blk.kept hk h.2 (by decide)⟩ | .num _, h => ⟨h.1, Blk.kept hk h.2 (by decide)⟩ | .brk _, h => ⟨h.1, Blk.kept hk h.2 (by decide)⟩
  | .func _, ⟨h1, j, h2, h3, h4⟩ => ⟨h1, j, h2, Blk.kept hk h3 (by decide), Blk.kept hk h4 (by decide)⟩
  | .idx _, ⟨h0, h1, j, h2, h3, h4⟩ => ⟨h0, h1, j, h2, Blk.kept hk h3 (by decide), Blk.kept hk h4 (by decide)⟩
theorem QIs.kept {q : Nat} {x : Leaf} : QIs w B q x → QIs w' B q x
  | ⟨h1, t, h2, h3⟩ => ⟨h1, t, Blk.kept hk h2 (by decide), TermIs.kept hk h3⟩
theorem PatIs.kept {P : Value} : ∀ {o : Option ByteArray}, PatIs w B P o → PatIs w' B P o
  | none, h => h
  | some s, ⟨h0, L, p, h1, h2, h3, h4, h5⟩ => ⟨h0, L, p, h1, h2, h3, Blk.kept hk h4 (by decide), Blk.kept hk h5 (by decide)⟩
theorem QuIs.kept : ∀ {t : Qu} {q : Nat}, QuIs w B q t → QuIs w' B q t
  | .nothing, _, ⟨h1, h2⟩ => ⟨h1, Blk.kept hk h2 (by decide)⟩
  | .leaf x, _, h => QIs.kept hk h
  | .bin a op pat b, _, ⟨h1, ho, l, r, P, h2, h3, h4, h5⟩ => ⟨h1, ho, l, r, P, Blk.kept hk h2 (by decide), QuIs.kept h3, QIs.kept hk h4, PatIs.kept hk h5⟩
end
/-- a slice of bytes of the call's own that holds the text l -/
def Txw (B : Nat) (v : Value) (l : List UInt8) (w : World) : Prop := w.ownsRowF B 5 1 v l.length (Lib.byteCells l)
theorem Txw.next {B : Nat} {v' : Value} {l m : List UInt8} {w' : World} {n : Nat} {cs : List Value} (hn : n = m.length) (hc : cs = Lib.byteCells m) (h : w'.ownsRowF B 5 1 v' (l.length + n) (Lib.byteCells l ++ cs)) : Txw B v' (l ++ m) w' := by
  subst hn hc
  unfold Txw
  rw [Lib.byteCells_append, List.length_append]
  exact h
theorem Txw.nextS {B : Nat} {v' : Value} {l : List UInt8} {s : ByteArray} {w' : World} (h : w'.ownsRowF B 5 1 v' (l.length + s.size) (Lib.byteCells l ++ Lib.strCells s)) : Txw B v' (l ++ s.data.toList) w' :=
  Txw.next (size_list s).symm rfl h
theorem Txw.below {B : Nat} {v : Value} {l : List UInt8} {w w' : World} (h : Txw B v l w) (hb : Below w.heap.size w w') : Txw B v l w' := by
  refine ⟨h.1, ?_⟩
  rcases h.2 with hn | ⟨g, cap, cur, fz, hv, hB, hg, rest⟩
  · exact .inl hn
  · exact .inr ⟨g, cap, cur, fz, hv, hB, (hb.block g (Array.getElem?_eq_some_iff.1 hg).1).trans hg, rest⟩
theorem Txw.set_ {B : Nat} {v : Value} {l : List UInt8} {w : World} {g : Nat} {t : TypeId} {cs : Array Value} (h : Txw B v l w) (hG : Blk w g t cs) (ht : t ≠ 5) (i : Nat) (u : Value) : Txw B v l (w.setCell ⟨g, i, none⟩ u) := by
  refine ⟨h.1, ?_⟩
  rcases h.2 with hn | ⟨k, cap, cur, fz, hv, hB, hg, rest⟩
  · exact .inl hn
  · refine .inr ⟨k, cap, cur, fz, hv, hB, ?_, rest⟩
    rw [Below.heap_setCell]
    · exact hg
    · rintro rfl
      unfold Blk at hG
      rw [hG] at hg
      injection hg with hg
      injection hg with _ hg
      exact ht hg
/-- the builder of chains, midway: the query so far, the text so far -/
def ZS (w0 : World) (q : Nat) (t : Qu) (v : Value) (l : List UInt8) (w : World) : Prop := QuIs w w.heap.size q t ∧ Txw w0.heap.size v l w ∧ Below w0.heap.size w0 w
theorem ZS.below {w0 w w' : World} {q : Nat} {t : Qu} {v : Value} {l : List UInt8} (h : ZS w0 q t v l w) (hb : Below w.heap.size w w') : ZS w0 q t v l w' :=
  ⟨(h.1.below hb).mono hb.size, h.2.1.below hb, h.2.2.trans (hb.mono h.2.2.size)⟩
theorem ZS.drew {w0 w : World} {q : Nat} {t : Qu} {v : Value} {l : List UInt8} (h : ZS w0 q t v l w) : ZS w0 q t v l w.drew := h.below (Below.refl _ _).drew
theorem ZS.alloc {w0 w : World} {q : Nat} {t : Qu} {v : Value} {l : List UInt8} (h : ZS w0 q t v l w) (o : Obj) : ZS w0 q t v l (w.alloc o) := h.below ((Below.refl _ _).alloc (Nat.le_refl _) o)
theorem ZS.grown {w0 w w' : World} {q : Nat} {t : Qu} {v v' : Value} {l m : List UInt8} (h : ZS w0 q t v l w) (hown : Txw w0.heap.size v' m w') (hg : w.grownBy w' v.ownBlock) : ZS w0 q t v' m w' := by
  have hk : Lib.OthersKept 5 none w w' := (Lib.OthersKept.refl _ _ w).grown hg (Lib.ownsRowF_kind h.2.1)
  exact ⟨(QuIs.kept hk h.1).mono hg.size, hown, h.2.2.grown hg h.2.2.size (fun k hk => (World.ownsRowF.lt h.2.1 k hk).1)⟩
theorem zs_bare {w0 wr w1 : World} {qb q2 op : Nat} {a : Qu} {x : Leaf} {v : Value} {l : List UInt8} (h : ZS w0 qb a v l wr) (hb : Below wr.heap.size wr w1) (hq : QIs w1 w1.heap.size q2 x) (ho : 1 ≤ op ∧ op ≤ 24) :
    ZS w0 w1.heap.size (.bin a op none x) v l (w1.alloc (.cells #[.pointer none, .slice none 0 0, .slice none 0 0, .pointer none, .pointer (some ⟨qb, 0, none⟩), .pointer (some ⟨q2, 0, none⟩), .slice none 0 0, .int .i64 op] 119)) := by
  have h1 := h.below hb
  have hA : Below w1.heap.size w1 (w1.alloc (.cells #[.pointer none, .slice none 0 0, .slice none 0 0, .pointer none, .pointer (some ⟨qb, 0, none⟩), .pointer (some ⟨q2, 0, none⟩), .slice none 0 0, .int .i64 op] 119)) := (Below.refl _ _).alloc (Nat.le_refl _) _
  have h2 := h1.below hA
  exact ⟨⟨by simp, ho, qb, q2, _, Blk.new w1 _ _, h2.1, (hq.below hA).mono hA.size, rfl⟩, h2.2.1, h2.2.2⟩
theorem zs_pat {w0 wr w1 : World} {qb q2 op : Nat} {a : Qu} {x : Leaf} {v : Value} {l : List UInt8} {s : ByteArray} (hs : s.size ≠ 0) (h : ZS w0 qb a v l wr) (hb : Below wr.heap.size wr w1) (hq : QIs w1 w1.heap.size q2 x) (ho : 1 ≤ op ∧ op ≤ 24) :
    ZS w0 w1.heap.size (.bin a op (some s) x) v l (((w1.alloc (.cells #[.pointer none, .slice none 0 0, .slice none 0 0, .pointer none, .pointer (some ⟨qb, 0, none⟩), .pointer (some ⟨q2, 0, none⟩), .slice (some ⟨w1.heap.size + 1 + 1, 0, none⟩) 1 1, .int .i64 op] 119)).alloc (.cells #[.string s, .slice none 0 0, .slice none 0 0] 126)).alloc (.cells #[.pointer (some ⟨w1.heap.size + 1, 0, none⟩)] 123)) := by
  have h1 := h.below hb
  have hA : Below w1.heap.size w1 (w1.alloc (.cells #[.pointer none, .slice none 0 0, .slice none 0 0, .pointer none, .pointer (some ⟨qb, 0, none⟩), .pointer (some ⟨q2, 0, none⟩), .slice (some ⟨w1.heap.size + 1 + 1, 0, none⟩) 1 1, .int .i64 op] 119)) := (Below.refl _ _).alloc (Nat.le_refl _) _
  have hN := Blk.new w1 119 #[.pointer none, .slice none 0 0, .slice none 0 0, .pointer none, .pointer (some ⟨qb, 0, none⟩), .pointer (some ⟨q2, 0, none⟩), .slice (some ⟨w1.heap.size + 1 + 1, 0, none⟩) 1 1, .int .i64 op]
  generalize hW2 : w1.alloc (.cells #[.pointer none, .slice none 0 0, .slice none 0 0, .pointer none, .pointer (some ⟨qb, 0, none⟩), .pointer (some ⟨q2, 0, none⟩), .slice (some ⟨w1.heap.size + 1 + 1, 0, none⟩) 1 1, .int .i64 op] 119) = w2 at *
  have hz2 : w2.heap.size = w1.heap.size + 1 := by rw [← hW2]; simp
  have hP := (Blk.new w2 126 #[.string s, .slice none 0 0, .slice none 0 0]).alloc (.cells #[.pointer (some ⟨w1.heap.size + 1, 0, none⟩)] 123)
  have hL := Blk.new (w2.alloc (.cells #[.string s, .slice none 0 0, .slice none 0 0] 126)) 123 #[.pointer (some ⟨w1.heap.size + 1, 0, none⟩)]
  have hN3 := (hN.alloc (.cells #[.string s, .slice none 0 0, .slice none 0 0] 126)).alloc (.cells #[.pointer (some ⟨w1.heap.size + 1, 0, none⟩)] 123)
  have hB3 : Below w1.heap.size w1 ((w2.alloc (.cells #[.string s, .slice none 0 0, .slice none 0 0] 126)).alloc (.cells #[.pointer (some ⟨w1.heap.size + 1, 0, none⟩)] 123)) := (hA.alloc (by omega) _).alloc (by simp; omega) _
  have hz3 : ((w2.alloc (.cells #[.string s, .slice none 0 0, .slice none 0 0] 126)).alloc (.cells #[.pointer (some ⟨w1.heap.size + 1, 0, none⟩)] 123)).heap.size = w1.heap.size + 1 + 1 + 1 := by simp [hz2]
  have hzL : (w2.alloc (.cells #[.string s, .slice none 0 0, .slice none 0 0] 126)).heap.size = w1.heap.size + 1 + 1 := by simp [hz2]
  rw [hzL] at hL
  rw [hz2] at hP
  generalize (w2.alloc (.cells #[.string s, .slice none 0 0, .slice none 0 0] 126)).alloc (.cells #[.pointer (some ⟨w1.heap.size + 1, 0, none⟩)] 123) = w3 at *
  have h4 := h1.below hB3
  refine ⟨⟨by rw [hz3]; omega, ho, qb, q2, _, hN3, h4.1, (hq.below hB3).mono hB3.size, ⟨hs, _, _, rfl, by rw [hz3]; omega, by rw [hz3]; omega, hL, hP⟩⟩, h4.2.1, h4.2.2⟩
end Go.Proofs.YtooalmhelfaodaaDoor
