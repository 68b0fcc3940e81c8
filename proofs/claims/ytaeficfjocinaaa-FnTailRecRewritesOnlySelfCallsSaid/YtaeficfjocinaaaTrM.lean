/- The open scopes' row, the map of the scopes without arguments, the codes under change. -/
import Derived.Maps.OwnSet
import Derived.Test.YtaeficfjocinaaaTrB
namespace Go.Proofs.Ytaeficfjocinaaa
open Go.RowKit Go.Maps
set_option maxRecDepth 100000
set_option linter.unusedVariables false
theorem plainElem_bool_inv {H : Type} {P : Program} {e : TypeId} (he : P.underlying e = some .bool) {v : Value} {z : DataW H × List MemPlace} (h : plainElem P e v = some z) : ∃ a, v = .bool a ∧ z = (.lit (.bool a), []) := by
  unfold plainElem at h
  rw [he] at h
  cases v <;> simp at h
  exact ⟨_, rfl, h.symm⟩
theorem wpList_lookup_own_ok_bool {H : Type} {P : Program} (w : World) {ops : Array Oper} {rest : List Oper} {o : Oper} {a : Act} {Q : Exit → Act → World → Prop} (hg : o.guard = none) (m x : Operand) (t : TypeId) (hop : o.op = Op.lookup t m x true)
    (k e : TypeId) (K : Keyed P k) (ht : P.underlying t = some (.map k e)) (he : P.underlying e = some .bool) (hz : (zeroValue e).run P w = .ok (.bool false) w) (b n : Nat) (D : DataW H)
    (hm : a.eval m = .map (some b)) (hown : w.ownsMap P k (plainElem P e) b n D) (key : Value) (kl : Lit) (hx : a.eval x = key) (hkey : keyOf P k key = some kl) (hs c : Bool) (hhs : Maps.has D kl = hs) (hc : D.atKey kl (.lit (.bool false)) = .lit (.bool c))
    (hK : wpList P ops Q rest (a.put o.dst (.tuple #[.bool c, .bool hs])) w) :
    wpList P ops Q (o :: rest) a w :=
  wpList_lookup_own_ok w hg m x t hop k e K ht (plainElem P e) hz (.lit (.bool false)) [] (plainElem_bool he _) b n D hm hown key kl hx hkey (fun v ps hv => by
    obtain ⟨c', rfl, hc'⟩ := plainElem_bool_inv he hv
    have h1 := congrArg Prod.fst hc'
    rw [hc] at h1
    simp at h1
    rw [← h1, hhs]
    exact hK)
theorem law3t : Keyed Try.prog 3 := int_keyed Try.underlying3
theorem zero_bool (w : World) : (zeroValue 4).run Try.prog w = .ok (.bool false) w := by kernel_rfl
/-- the scopes ahead of i that take no argument -/
def MapI (w : World) (M i : Nat) (o y z : Nat → Int) : Prop := ∃ (m : Nat) (D : DataW Unit), m ≤ i ∧ w.ownsMap Try.prog 3 (plainElem Try.prog 4) M m D ∧ IsMap D ∧
  ∀ k : Nat, Maps.has D (.int .i64 k) = (decide (k < i) && (o k == 23 && z k == 0)) ∧ (Maps.has D (.int .i64 k) = true → ∀ zd, D.atKey (.int .i64 k) zd = .lit (.bool (y k == 0)))
section
variable {w w' : World} {M i n : Nat} {o x y z : Nat → Int}
theorem MapI.start (w : World) : MapI (w.alloc (.map #[] 0)) w.heap.size 0 o y z := ⟨0, .map [], Nat.le_refl _, World.ownsMap_made _ _ _ _, isMap_empty, fun k => ⟨by simp [Maps.has], fun h => by simp [Maps.has] at h⟩⟩
theorem MapI.kept (h : MapI w M i o y z) {row : Option Nat} (hg : w.grownBy w' row) (hne : some M ≠ row) : MapI w' M i o y z := by
  obtain ⟨m, D, hm, ho, h2⟩ := h
  exact ⟨m, D, hm, ho.kept hg hne, h2⟩
theorem MapI.alloc (h : MapI w M i o y z) (ob : Obj) : MapI (w.alloc ob) M i o y z := by
  obtain ⟨m, D, hm, ho, h2⟩ := h
  exact ⟨m, D, hm, ho.alloc ob, h2⟩
theorem MapI.set_ (h : MapI w M i o y z) {p : Addr} (hp : M ≠ p.block) (u : Value) : MapI (w.setCell p u) M i o y z := by
  obtain ⟨m, D, hm, ho, h2⟩ := h
  exact ⟨m, D, hm, ho.setCell hp u, h2⟩
theorem MapI.skip (h : MapI w M i o y z) (hs : (o i == 23 && z i == 0) = false) : MapI w M (i + 1) o y z := by
  obtain ⟨m, D, hm, ho, hD, h2⟩ := h
  refine ⟨m, D, by omega, ho, hD, fun k => ⟨?_, (h2 k).2⟩⟩
  rw [(h2 k).1]
  by_cases hk : k = i
  · subst hk; rw [hs]; simp
  · rw [show decide (k < i + 1) = decide (k < i) from decide_eq_decide.2 (by omega)]
theorem MapI.heap (h : MapI w M i o y z) : ∃ es c, w.heap[M]? = some (.map es c) := by
  obtain ⟨m, D, hm, ⟨es, c, hb, _⟩, _⟩ := h
  exact ⟨es, c, hb⟩
theorem MapI.ne_blk (h : MapI w M i o y z) {b : Nat} {t : TypeId} {cs : Array Value} (hb : Blk w b t cs) : M ≠ b := by
  rintro rfl
  obtain ⟨es, c, h1⟩ := h.heap
  unfold Blk at hb
  rw [h1] at hb
  cases hb
theorem MapI.ne_row (h : MapI w M i o y z) {base n : Nat} {e : TypeId} {V : Value} {xs : List Value} {size : Nat} (hV : w.ownsRow base e size V n xs) : some M ≠ V.ownBlock := by
  intro he
  obtain ⟨c, fz, h2⟩ := own_kind hV M he.symm
  obtain ⟨es, c', h1⟩ := h.heap
  rw [h1] at h2
  cases h2
/-- the codes through growth of a row of numbers, or of a map -/
theorem GC.grown {base C : Nat} {b : Nat → Nat} {A : Nat → Int} {W : Nat → Value} (h : GC w base C n b A W) {row : Option Nat} (hg : w.grownBy w' row) (hr : ∀ g, row = some g → ∀ c t fz, w.heap[g]? = some (.cells c t fz) → t = 3) : GC w' base C n b A W := by
  obtain ⟨⟨cc, X, hc⟩, hi⟩ := h
  have keep : ∀ {q : Nat} {t : TypeId} {cs : Array Value}, Blk w q t cs → t ≠ 3 → some q ≠ row := fun {q t cs} hq ht e => ht (hr q e.symm cs t _ hq)
  refine ⟨⟨cc, X, hc.c.grown hg (keep hc.c (by decide)), hc.h5, hc.o.kept hg ?_, fun c hm => (hc.at_ c hm).grown hg (keep (hc.at_ c hm) (by decide)), hc.lo, hc.le⟩, hi⟩
  cases hX : X.ownBlock with
  | none => exact .inl rfl
  | some g =>
    refine .inr fun e => ?_
    obtain ⟨c, fz, h2⟩ := own_kind hc.o g hX
    have := hr g e.symm c _ fz h2
    exact absurd this (by decide)
/-- the codes with the places ahead of s turned -/
def aftO (n : Nat) (o x y z : Nat → Int) (s q : Nat) : Int := if q < s then finO n o x y z q else o q
def aftV (n : Nat) (o x y z : Nat → Int) (s q : Nat) : Value := if isT o z q then tri (x q) (y q) (z q) else .iface 3 (.int .i64 (if q < s then finX n o x y z q else x q))
theorem aft_hereO {s q : Nat} (h : s ≤ q) : aftO n o x y z s q = o q := by unfold aftO; rw [if_neg (by omega)]
theorem aft_hereV {s q : Nat} (h : s ≤ q) : aftV n o x y z s q = valT o x y z q := by unfold aftV valT; rw [if_neg (show ¬ q < s by omega)]
theorem aft_keepO {s : Nat} (h : rew n o x z s = false) (q : Nat) : aftO n o x y z (s + 1) q = aftO n o x y z s q := by
  by_cases hq : q = s
  · subst hq
    unfold aftO
    rw [if_pos (by omega), if_neg (by omega), (fin_keep (y := y) h).1]
  · unfold aftO
    by_cases h1 : q < s
    · rw [if_pos (by omega), if_pos h1]
    · rw [if_neg (by omega), if_neg h1]
theorem aft_keepV {s : Nat} (h : rew n o x z s = false) (q : Nat) : aftV n o x y z (s + 1) q = aftV n o x y z s q := by
  by_cases hq : q = s
  · subst hq
    unfold aftV
    rw [if_pos (show q < q + 1 by omega), if_neg (show ¬ q < q by omega), (fin_keep (y := y) h).2]
  · unfold aftV
    by_cases h1 : q < s
    · rw [if_pos (show q < s + 1 by omega), if_pos h1]
    · rw [if_neg (show ¬ q < s + 1 by omega), if_neg h1]
theorem aft_otherO {s q : Nat} (hq : q ≠ s) : aftO n o x y z (s + 1) q = aftO n o x y z s q := by
  unfold aftO
  by_cases h1 : q < s
  · rw [if_pos (by omega), if_pos h1]
  · rw [if_neg (by omega), if_neg h1]
theorem aft_otherV {s q : Nat} (hq : q ≠ s) : aftV n o x y z (s + 1) q = aftV n o x y z s q := by
  unfold aftV
  by_cases h1 : q < s
  · rw [if_pos (show q < s + 1 by omega), if_pos h1]
  · rw [if_neg (show ¬ q < s + 1 by omega), if_neg h1]
theorem aft_start : (∀ q, aftO n o x y z 0 q = o q) ∧ (∀ q, aftV n o x y z 0 q = valT o x y z q) := ⟨fun q => aft_hereO (by omega), fun q => aft_hereV (by omega)⟩
/-- the row of the open scopes, innermost last -/
def Pcs (w : World) (base : Nat) (V : Value) (l : List Nat) : Prop := w.ownsRow base 3 1 V l.length (l.reverse.map fun k : Nat => Value.int .i64 (k : Int))
end
end Go.Proofs.Ytaeficfjocinaaa
