/- The scope stack: push. -/
import Derived.Test.YtbkakiipaehleaaBlk
import Derived.Test.YtbkakiipaehleaaChain
import Derived.Deep.RegionLaw
import Derived.RegionTactic
import Derived.WalkKit
import Derived.ProofKit
namespace Go.Proofs.Ytbkakiipaehleaa
open Go.RowKit
set_option maxRecDepth 100000
set_option linter.unusedVariables false
theorem infoSb : (Try.prog.info? 161).map (fun i => (i.zero, i.size, i.bytes)) = some (some (.agg #[.int .i64 0, .int .i64 0, .int .i64 0, .int .i64 0, .int .i64 0, .int .i64 0]), 6, 48) := by kernel_rfl
/-- five numbers -/
structure Sc where
  a : Int
  b : Int
  c : Int
  d : Int
  e : Int
def sc5 (x : Sc) : List Value := [.int .i64 x.a, .int .i64 x.b, .int .i64 x.c, .int .i64 x.d, .int .i64 x.e]
def sb6 (p : Sc × Int) : List Value := sc5 p.1 ++ [.int .i64 p.2]
/-- a list of things that take n cells each, as one row -/
def flat {α : Type} (f : α → List Value) (xs : List α) : List Value := xs.flatMap f
theorem flat_len {α : Type} (f : α → List Value) (n : Nat) (hf : ∀ x, (f x).length = n) (xs : List α) : (flat f xs).length = xs.length * n := by
  induction xs with
  | nil => simp [flat]
  | cons x xs ih =>
    have : flat f (x :: xs) = f x ++ flat f xs := by simp [flat]
    rw [this, List.length_append, hf, ih, List.length_cons, Nat.add_mul]
    omega
theorem flat_at {α : Type} (f : α → List Value) (n : Nat) (hf : ∀ x, (f x).length = n) : ∀ (xs : List α) (k : Nat) (x : α), xs[k]? = some x → ∀ o, o < n → (flat f xs)[k * n + o]? = (f x)[o]?
  | y :: xs, 0, x, h, o, ho => by
    simp at h
    subst h
    have : flat f (y :: xs) = f y ++ flat f xs := by simp [flat]
    rw [this, List.getElem?_append_left (by rw [hf]; omega)]
    simp
  | y :: xs, k + 1, x, h, o, ho => by
    have h2 : xs[k]? = some x := by simpa using h
    have : flat f (y :: xs) = f y ++ flat f xs := by simp [flat]
    rw [this, List.getElem?_append_right (by rw [hf, Nat.add_mul]; omega), hf]
    rw [← flat_at f n hf xs k x h2 o ho]
    congr 1
    rw [Nat.add_mul]; omega
  | [], _, _, h, _, _ => by simp at h
theorem flat_snoc {α : Type} (f : α → List Value) (xs : List α) (x : α) : flat f (xs ++ [x]) = flat f xs ++ f x := by simp [flat]
theorem flat_take {α : Type} (f : α → List Value) (n : Nat) (hf : ∀ x, (f x).length = n) (xs : List α) (x : α) : (flat f (xs ++ [x])).take (xs.length * n) = flat f xs := by
  rw [flat_snoc, List.take_append_of_le_length (by rw [flat_len f n hf]; omega), List.take_of_length_le (by rw [flat_len f n hf]; omega)]
theorem flat_set {α : Type} (f : α → List Value) (n : Nat) (hf : ∀ x, (f x).length = n) (hn : 0 < n) (xs : List α) (k : Nat) (y : α) (hk : k < xs.length) (zs : List Value) (hz : zs.length = xs.length * n) (h1 : ∀ o, o < n → zs[k * n + o]? = (f y)[o]?)
    (h2 : ∀ q, q < k * n ∨ k * n + n ≤ q → zs[q]? = (flat f xs)[q]?) : zs = flat f (xs.set k y) := by
  refine List.ext_getElem? fun q => ?_
  by_cases hq : q < xs.length * n
  · have hqd : q / n < xs.length := Nat.div_lt_of_lt_mul (by rw [Nat.mul_comm]; exact hq)
    have hqe : q = q / n * n + q % n := by rw [Nat.mul_comm]; exact (Nat.div_add_mod q n).symm
    have hqm : q % n < n := Nat.mod_lt _ hn
    by_cases hqk : q / n = k
    · rw [hqe, hqk, h1 _ hqm, flat_at f n hf _ k y (by rw [List.getElem?_set_self hk]) _ hqm]
    · have hx : ∃ x, xs[q / n]? = some x := ⟨_, List.getElem?_eq_getElem hqd⟩
      obtain ⟨x, hx⟩ := hx
      have hout : q < k * n ∨ k * n + n ≤ q := by
        rcases Nat.lt_or_ge (q / n) k with h | h
        · left
          have : q / n * n + n ≤ k * n := by rw [← Nat.succ_mul]; exact Nat.mul_le_mul_right n h
          omega
        · right
          have : k * n + n ≤ q / n * n := by rw [← Nat.succ_mul]; exact Nat.mul_le_mul_right n (by omega)
          omega
      rw [h2 q hout]
      conv => lhs; rw [hqe]
      conv => rhs; rw [hqe]
      rw [flat_at f n hf _ _ x hx _ hqm, flat_at f n hf _ _ x (by rw [List.getElem?_set_ne (by omega)]; exact hx) _ hqm]
  · rw [List.getElem?_eq_none (by omega), List.getElem?_eq_none (by rw [flat_len f n hf, List.length_set]; omega)]
theorem sb6_len (p : Sc × Int) : (sb6 p).length = 6 := rfl
theorem sc5_len (p : Sc) : (sc5 p).length = 5 := rfl
/-- a cell of an owned row is set -/
theorem owns_set {w : World} {base : Nat} {e : TypeId} {size g n cap : Nat} {xs : List Value} (h : w.ownsRow base e size (.slice (some ⟨g, 0, none⟩) n cap) n xs) (j : Nat) (u : Value) : (w.setCell ⟨g, j, none⟩ u).ownsRow base e size (.slice (some ⟨g, 0, none⟩) n cap) n (xs.set j u) := by
  rcases h with ⟨hl, ⟨h0, _⟩ | ⟨g', cap', cur, h0, hb, hg, h1, h2, h3, h4⟩⟩
  · simp at h0
  · obtain ⟨rfl, rfl⟩ : g = g' ∧ cap = cap' := by simpa using h0
    refine ⟨by rw [List.length_set]; exact hl, .inr ⟨g, cap, cur.setIfInBounds j u, rfl, hb, (show Blk w g e cur from hg).set_ j u, h1, h2, by rw [Array.size_setIfInBounds]; exact h3, ?_⟩⟩
    rw [Array.toList_setIfInBounds, List.take_set, h4]
theorem owns_take {w : World} {base : Nat} {e : TypeId} {size g n cap : Nat} {xs : List Value} (h : w.ownsRow base e size (.slice (some ⟨g, 0, none⟩) n cap) n xs) (m : Nat) (hm : m ≤ n) : w.ownsRow base e size (.slice (some ⟨g, 0, none⟩) m cap) m (xs.take (m * size)) := by
  rcases h with ⟨hl, ⟨h0, _⟩ | ⟨g', cap', cur, h0, hb, hg, h1, h2, h3, h4⟩⟩
  · simp at h0
  · obtain ⟨rfl, rfl⟩ : g = g' ∧ cap = cap' := by simpa using h0
    have hms : m * size ≤ n * size := Nat.mul_le_mul_right _ hm
    refine ⟨by rw [List.length_take, hl]; omega, .inr ⟨g, cap, cur, rfl, hb, hg, by omega, h2, h3, ?_⟩⟩
    rw [← h4, List.take_take]
    congr 1
    omega
/-- the scope stack at SB: its blocks, the index, the limit -/
structure SS (w : World) (base SB : Nat) (D : Value) (ds : List (Sc × Int)) (i L : Int) : Prop where
  s : Blk w SB 148 #[D, .int .i64 i, .int .i64 L]
  o : w.ownsRow base 161 6 D ds.length (flat sb6 ds)
end Go.Proofs.Ytbkakiipaehleaa
