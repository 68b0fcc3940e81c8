/- Rows that a call owns: small laws. -/
import Derived.Test.YtaeficfjocinaaaBlk
import Derived.BigQuiet
import Derived.Deep.QuietTactic
import Derived.Deep.RegionLaw
import Derived.RegionTactic
import Derived.IntWalk
import Derived.Deep.LoopGhost
import Derived.Deep.DeepCutAuto
namespace Go.Proofs.Ytaeficfjocinaaa
open Go.RowKit
set_option linter.unusedVariables false
theorem owns_kept {w w' : World} {base : Nat} {e e' : TypeId} {size n S : Nat} {v : Value} {xs : List Value} {t : TypeId} {cs : Array Value} (h : w.ownsRow base e size v n xs) (hS : Blk w S t cs) (hk : Lib.OthersKept e' (some S) w w') (h1 : e ≠ t) (h2 : e ≠ e') : w'.ownsRow base e size v n xs := by
  have hne := own_blk_ne h hS h1
  rcases h with ⟨hl, ⟨rfl, h0⟩ | ⟨g, cap, cur, rfl, hb, hg, hr⟩⟩
  · exact ⟨hl, .inl ⟨rfl, h0⟩⟩
  · refine ⟨hl, .inr ⟨g, cap, cur, rfl, hb, hk g _ hg (fun e => hne (by simpa [Value.ownBlock] using e)) (fun c fz e => ?_), hr⟩⟩
    injection e with _ e
    exact h2 e
theorem owns_ne {w : World} {base base' : Nat} {e e' : TypeId} {size size' n n' : Nat} {v v' : Value} {xs xs' : List Value} (h : w.ownsRow base e size v n xs) (h' : w.ownsRow base' e' size' v' n' xs') (hne : e ≠ e') : v.ownBlock = none ∨ v.ownBlock ≠ v'.ownBlock := by
  rcases h with ⟨_, ⟨rfl, _⟩ | ⟨g, cap, cur, rfl, _, hg, _⟩⟩
  · exact .inl rfl
  · refine .inr fun e => ?_
    have h2 := own_blk_ne h' (show Blk w g _ cur from hg) (fun e => hne e.symm)
    exact h2 (by rw [← e]; rfl)
theorem own_open {w : World} {base : Nat} {t : TypeId} {V : Value} {k : Nat} {ps : List Value} (h : w.ownsRow base t 1 V k ps) : ∃ A cap, V = .slice A k cap ∧ ∀ j u, ps[j]? = some u → ∃ g, A = some ⟨g, 0, none⟩ ∧ w.cell? ⟨g, j, none⟩ = some u := by
  have h0 := h
  rcases h with ⟨hl, ⟨rfl, rfl⟩ | ⟨g, cap, cur, rfl, _⟩⟩
  · exact ⟨none, 0, rfl, fun j u hj => by have := lt_of_some hj; simp at hl; subst hl; cases hj⟩
  · refine ⟨_, cap, rfl, fun j u hj => ⟨g, rfl, ?_⟩⟩
    have := h0.cells (g := g) rfl j u hj
    rw [Go.WideShapes.add_plain] at this
    simpa using this
theorem own_open2 {w : World} {base : Nat} {t : TypeId} {V : Value} {k size : Nat} {ps : List Value} (h : w.ownsRow base t size V k ps) : ∃ A cap, V = .slice A k cap ∧ (0 < k → ∃ g, A = some ⟨g, 0, none⟩) := by
  rcases h with ⟨hl, ⟨rfl, rfl⟩ | ⟨g, cap, cur, rfl, _⟩⟩
  · exact ⟨none, 0, rfl, fun h => absurd h (by omega)⟩
  · exact ⟨_, cap, rfl, fun _ => ⟨g, rfl⟩⟩
theorem owns_set {w : World} {base : Nat} {e : TypeId} {size g n cap : Nat} {xs : List Value} (h : w.ownsRow base e size (.slice (some ⟨g, 0, none⟩) n cap) n xs) (j : Nat) (u : Value) : (w.setCell ⟨g, j, none⟩ u).ownsRow base e size (.slice (some ⟨g, 0, none⟩) n cap) n (xs.set j u) := by
  rcases h with ⟨hl, ⟨h0, _⟩ | ⟨g', cap', cur, h0, hb, hg, h1, h2, h3, h4⟩⟩
  · simp at h0
  · obtain ⟨rfl, rfl⟩ : g = g' ∧ cap = cap' := by simpa using h0
    refine ⟨by rw [List.length_set]; exact hl, .inr ⟨g, cap, cur.setIfInBounds j u, rfl, hb, (show Blk w g e cur from hg).set_ j u, h1, h2, by rw [Array.size_setIfInBounds]; exact h3, ?_⟩⟩
    rw [Array.toList_setIfInBounds, List.take_set, h4]
theorem owns_take {w : World} {base : Nat} {e : TypeId} {size g n cap : Nat} {xs : List Value} (h : w.ownsRow base e size (.slice (some ⟨g, 0, none⟩) n cap) n xs) (m : Nat) (hm : m ≤ n) : w.ownsRow base e size (.slice (some ⟨g, 0, none⟩) m cap) m (xs.take (m * size)) := by
  rcases h with ⟨hl, ⟨h0, _⟩ | ⟨g', cap', cur, h0, hb, hg, h1, h2, h3, h4⟩⟩
  · simp at h0
  · obtain ⟨rfl, rfl⟩ : g = g' ∧ cap = cap' := by simpa using h0
    have hms : m * size ≤ n * size := Nat.mul_le_mul_right _ hm
    refine ⟨by rw [List.length_take, hl]; omega, .inr ⟨g, cap, cur, rfl, hb, hg, by omega, h2, h3, ?_⟩⟩
    rw [← h4, List.take_take]
    congr 1
    omega
theorem owns_row {w : World} {base : Nat} {e : TypeId} {size g n cap : Nat} {xs : List Value} (h : w.ownsRow base e size (.slice (some ⟨g, 0, none⟩) n cap) n xs) : ∃ cur, Blk w g e cur ∧ n ≤ cap ∧ cur.size = cap * size := by
  rcases h with ⟨hl, ⟨h0, _⟩ | ⟨g', cap', cur, h0, hb, hg, h1, h2, h3, h4⟩⟩
  · simp at h0
  · obtain ⟨rfl, rfl⟩ : g = g' ∧ cap = cap' := by simpa using h0
    exact ⟨cur, hg, h1, h3⟩
theorem one_cell {w : World} {k : Nat} (x : Value) (t : TypeId) (h : w.heap.size = k) : ∀ j u, [x][j]? = some u → (w.alloc (.cells #[x] t)).cell? ((⟨k, 0, none⟩ : Addr).add j) = some u := by
  intro j u hj
  match j, hj with
  | 0, hj => simp at hj; subst hj; exact (Blk.at_ t #[x] h).cell 0
theorem last_cell {w : World} {base g n cap : Nat} {e : TypeId} {xs : List Value} {u : Value} (hn : xs.length = n) (h : w.ownsRow base e 1 (.slice (some ⟨g, 0, none⟩) (n + 1) cap) (n + 1) (xs ++ [u])) : w.cell? ⟨g, n, none⟩ = some u := by
  have h3 := h.cells (g := g) rfl n u (by simp [← hn])
  rw [Go.WideShapes.add_plain, Nat.zero_add] at h3
  exact h3
theorem take_row {w : World} {base g n cap : Nat} {e : TypeId} {xs : List Value} {u : Value} (hn : xs.length = n) (h : w.ownsRow base e 1 (.slice (some ⟨g, 0, none⟩) (n + 1) cap) (n + 1) (xs ++ [u])) : w.ownsRow base e 1 (.slice (some ⟨g, 0, none⟩) n cap) n xs := by
  have := owns_take h n (by omega)
  rw [Nat.mul_one, ← hn, List.take_left] at this
  rw [← hn]
  exact this
theorem fill_take {arr : Array Value} {xs : List Value} (h : Fill1 arr xs xs.length) (hs : arr.size = xs.length) : arr.toList.take xs.length = xs := by
  refine List.ext_getElem? fun i => ?_
  by_cases hi : i < xs.length
  · rw [List.getElem?_take_of_lt hi, Array.getElem?_toList]
    have := h i xs[i] hi (List.getElem?_eq_getElem hi)
    rw [this, List.getElem?_eq_getElem hi]
  · rw [List.getElem?_eq_none (by simp; omega), List.getElem?_eq_none (by omega)]
theorem made_nil (z : Array Value) : madeCells z 0 = #[] := Array.eq_empty_of_size_eq_zero (size_madeCells _ _)
theorem row_cells {w : World} {k : Nat} (xs : List Value) (t : TypeId) (h : w.heap.size = k) : ∀ j u, xs[j]? = some u → (w.alloc (.cells xs.toArray t)).cell? ((⟨k, 0, none⟩ : Addr).add j) = some u := by
  intro j u hj
  rw [Go.WideShapes.add_plain]
  have := (Blk.at_ t xs.toArray h).cell j
  simp at this
  rw [Nat.zero_add, this]
  exact hj
def vInts (xs : List Int) : List Value := xs.map (Value.int .i64)
theorem vInts_at (xs : List Int) (j : Nat) (h : j < xs.length) : (vInts xs)[j]? = some (.int .i64 xs[j]) := by simp [vInts, h]
theorem vInts_len (xs : List Int) : (vInts xs).length = xs.length := by simp [vInts]
def BoolIf (P : Prop) (w : World) (e : Ending) (w' : World) : Prop := ∃ b : Bool, e = .returned (.bool b) ∧ w = w' ∧ (b = true → P)
theorem quiet_add_same {P : Program} {f : FuncId} {args : Array Value} {w : World} {a n : Nat} {v : Value}
    (h : Calls P f args (w.drewN (a + n)) fun e w' => e = .returned v ∧ w.drewN (a + n) = w') :
    Calls P f args (w.drewN (a + n)) fun e w'' => e = .returned v ∧ ∃ m, w'' = w.drewN (a + m) :=
  h.mono fun _ _ ⟨he, hm⟩ => ⟨he, n, hm.symm⟩
theorem quiet_left {P : Program} {f : FuncId} {args : Array Value} {w : World} {n : Nat} {v : Value}
    (h : Calls P f args (w.drewN n) fun e w' => e = .returned v ∧ w.drewN n = w') : Calls P f args (w.drewN n) fun e w'' => e = .returned v ∧ ∃ m, w'' = w.drewN m :=
  h.mono fun _ _ ⟨he, hm⟩ => ⟨he, n, hm.symm⟩
theorem i64_nat (n : Nat) (h : n ≤ 9223372036854775807) : IntKind.i64.wrap (n : Int) = n := IntWalk.i64_in _ (by omega)
theorem i64_add (a b : Nat) (h : a + b ≤ 9223372036854775807) : IntKind.i64.wrap ((a : Int) + (b : Int)) = ((a + b : Nat) : Int) := by rw [IntWalk.i64_in _ (by omega)]; omega
end Go.Proofs.Ytaeficfjocinaaa
