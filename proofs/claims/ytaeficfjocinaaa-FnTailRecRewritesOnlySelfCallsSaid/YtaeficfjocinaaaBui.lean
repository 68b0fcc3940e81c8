/- buildInts; a new code; the append of a batch. -/
import Derived.Test.YtaeficfjocinaaaCod
import Derived.StillTailTactics
import Derived.Maps.AppendAt
namespace Go.Proofs.Ytaeficfjocinaaa
open Go.RowKit
set_option maxRecDepth 100000
set_option linter.unusedVariables false
theorem CSx.mono {w : World} {base base' C : Nat} {cs : List (Option Cd)} (h : CSx w base C cs) (hb : base' ≤ base) : CSx w base' C cs := by
  obtain ⟨cc, V, h⟩ := h
  refine ⟨cc, V, h.c, h.h5, ?_, h.at_, fun c hc => Nat.le_trans hb (h.lo c hc), Nat.le_trans hb h.le⟩
  rcases h.o with ⟨h1, h2 | ⟨g, cap, cur, h2, h3, h4⟩⟩
  · exact ⟨h1, .inl h2⟩
  · exact ⟨h1, .inr ⟨g, cap, cur, h2, Nat.le_trans hb h3, h4⟩⟩
/-- the codes are the int codes of the first n pairs -/
def Ints (cs : List (Option Cd)) (xs ys : List Int) (n : Nat) : Prop := cs.length = n ∧ ∀ i x y, i < n → xs[i]? = some x → ys[i]? = some y → ∃ b, cs[i]? = some (ic b x y)
/-- no two codes in one block -/
def Dist (cs : List (Option Cd)) : Prop := ∀ (i j : Nat) (c d : Cd), cs[i]? = some (some c) → cs[j]? = some (some d) → c.b = d.b → i = j
theorem Dist.snoc {w : World} {base C : Nat} {cs : List (Option Cd)} {x : Cd} (h : Dist cs) (hc : CSx w base C cs) (hx : w.heap.size ≤ x.b) : Dist (cs ++ [some x]) := by
  intro i j c d hi hj hb
  rw [List.getElem?_append] at hi hj
  split at hi <;> split at hj
  · exact h i j c d hi hj hb
  · rename_i h1 h2
    have := (hc.code hi).lt
    have hjl := lt_of_some hj
    have : j - cs.length = 0 := by simp at hjl; omega
    rw [this] at hj
    simp at hj
    subst hj
    omega
  · rename_i h1 h2
    have := (hc.code hj).lt
    have hil := lt_of_some hi
    have : i - cs.length = 0 := by simp at hil; omega
    rw [this] at hi
    simp at hi
    subst hi
    omega
  · have hjl := lt_of_some hj
    have hil := lt_of_some hi
    simp at hjl hil
    omega
theorem Ints.snoc {cs : List (Option Cd)} {xs ys : List Int} {n b : Nat} {x y : Int} (h : Ints cs xs ys n) (hx : xs[n]? = some x) (hy : ys[n]? = some y) : Ints (cs ++ [ic b x y]) xs ys (n + 1) := by
  refine ⟨by simp [h.1], fun i x' y' hi hx' hy' => ?_⟩
  by_cases hin : i < n
  · obtain ⟨b', hb'⟩ := h.2 i x' y' hin hx' hy'
    exact ⟨b', by rw [List.getElem?_append_left (by rw [h.1]; exact hin)]; exact hb'⟩
  · have : i = n := by omega
    subst this
    rw [hx] at hx'
    rw [hy] at hy'
    injection hx' with hx'
    injection hy' with hy'
    subst hx' hy'
    exact ⟨b, by rw [List.getElem?_append_right (by rw [h.1]; omega)]; simp [h.1]⟩
def Built (base : Nat) (xs ys : List Int) (n : Nat) (w : World) (e : Ending) (w' : World) : Prop := ∃ cs, e = .returned (.pointer (some ⟨w.heap.size, 0, none⟩)) ∧ CSx w' base w.heap.size cs ∧ Ints cs xs ys n ∧ Dist cs ∧ Below w.heap.size w w'
theorem rd_at {w : World} {B : Nat} {A : Option Addr} {xs : List Int} (h : RdAt w B A (vInts xs)) {i : Nat} (hi : i < xs.length) : ∃ g o x, A = some ⟨g, o, none⟩ ∧ g < B ∧ w.cell? ⟨g, o + i, none⟩ = some (.int .i64 x) ∧ xs[i]? = some x := by
  obtain ⟨g, o, h1, h2, h3⟩ := h i _ (vInts_at xs i hi)
  exact ⟨g, o, xs[i], h1, h2, h3, List.getElem?_eq_getElem hi⟩
set_option maxHeartbeats 4000000 in
theorem build_any (base : Nat) (A A' : Option Addr) (n c c' : Nat) (xs ys : List Int) (w : World) (hx : RdAt w w.heap.size A (vInts xs)) (hy : RdAt w w.heap.size A' (vInts ys)) (hnx : n ≤ xs.length) (hny : n ≤ ys.length) (hn : n ≤ 1048576) (hbase : base ≤ w.heap.size) :
    Calls Try.prog 28 #[.slice A n c, .slice A' n c'] w (Built base xs ys n w) := by
  have HX := Lib.hid hx
  have HY := Lib.hid hy
  have hnew := Lib.hid (newC_any w)
  clear hx hy
  go_enter Try.func28, Try.ntmps28
  go_wp2_with fail
  with_reducible refine (hnew.out).mono ?_
  rintro e0 w0 ⟨rfl, h0, hb0, hz0⟩
  have H0 := Lib.hid h0
  clear h0 hz0
  go_wp2_with fail
  go_loopw [6] (fun i wr => ∃ (j : Nat) (cs : List (Option Cd)), i = .int .i64 j ∧ j ≤ n ∧ CSx wr base w.heap.size cs ∧ Ints cs xs ys j ∧ Dist cs ∧ Below w.heap.size w wr ∧ CSx wr w.heap.size w.heap.size cs) (fun i _ => n - (intOf i).toNat)
  case atStart => exact ⟨0, [], rfl, by omega, H0.out base hbase, ⟨rfl, fun i x y hi => absurd hi (by omega)⟩, (fun i j c d hi => by simp at hi), hb0, H0.out _ (Nat.le_refl _)⟩
  case round =>
    obtain ⟨j, cs, rfl, hj, hC, hI, hD, hbw, hC2⟩ := hrel
    by_cases hlt : j < n
    · obtain ⟨g, o, x, rfl, hg, c1, hxx⟩ := rd_at HX.out (i := j) (by omega)
      obtain ⟨g', o', y, rfl, hg', c2, hyy⟩ := rd_at HY.out (i := j) (by omega)
      have d1 := ((bcell hbw).1 g (o + j) hg).trans c1
      have d2 := ((bcell hbw).1 g' (o' + j) hg').trans c2
      have hgl : g < wr.heap.size := World.block_lt_of_cell? wr _ d1
      have hgl' : g' < wr.heap.size := World.block_lt_of_cell? wr _ d2
      have hap := Lib.hid (appendInt_any w.heap.size w.heap.size cs x y wr.drew hC2.drew (by rw [hI.1]; omega))
      have HC := Lib.hid hC
      have HI := Lib.hid hI
      have HD := Lib.hid hD
      have HXX := Lib.hid hxx
      have HYY := Lib.hid hyy
      clear hC hI hD hC2 c1 c2 hxx hyy
      go_wp2_with fail
      go_still_tail 9, (by kernel_rfl)
      change wpList _ _ _ _ _ wr.drew
      go_wp2_with fail
      with_reducible refine (hap.out).mono ?_
      rintro e1 w1 ⟨rfl, h1, h2, h3⟩
      have HC1 := Lib.hid h1
      have hb1 : Below w.heap.size w w1 := hbw.drew.trans h2
      have hsz : wr.heap.size ≤ wr.drew.heap.size := Nat.le_refl _
      have HD1 := Lib.hid (HD.out.snoc (x := ⟨wr.drew.heap.size, .iface 3 (.int .i64 y), x⟩) HC.out hsz)
      clear h1 h2 h3
      go_wp2_with fail
      go_roundw
      case rel => exact ⟨j + 1, _, by go_num, by omega, HC1.out.mono hbase, HI.out.snoc HXX.out HYY.out, HD1.out, hb1, HC1.out⟩
      case measure => simp [intOf]; omega
    · have hjn : j = n := by omega
      subst hjn
      go_wp2_with fail
      go_ret
      exact ⟨cs, rfl, hC, hI, hD, hbw⟩
end Go.Proofs.Ytaeficfjocinaaa
