/- The scope stack: push and pop. -/
import Derived.Test.YtbkakiipaehleaaStk
import Derived.BigQuiet
import Derived.Deep.QuietTactic
import Derived.Lib.BufferKept
namespace Go.Proofs.Ytbkakiipaehleaa
open Go.RowKit
set_option maxRecDepth 100000
set_option linter.unusedVariables false
/-- behind a push: the block at place k, the index k -/
def SPushed (base SB : Nat) (ds : List (Sc × Int)) (k : Nat) (L : Int) (w : World) (e : Ending) (w' : World) : Prop :=
  e = .returned (.tuple #[]) ∧ (∃ D, SS w' base SB D ds k L) ∧ Below base w w' ∧ Lib.OthersKept 161 (some SB) w w'
def set6 (zs : List Value) (q : Nat) (a b c d e f : Value) : List Value := (((((zs.set q a).set (q + 1) b).set (q + 2) c).set (q + 3) d).set (q + 4) e).set (q + 5) f
theorem set6_len (zs : List Value) (q : Nat) (a b c d e f : Value) : (set6 zs q a b c d e f).length = zs.length := by simp [set6]
theorem set6_at (zs : List Value) (q : Nat) (a b c d e f : Value) (h : q + 5 < zs.length) : ∀ o, o < 6 → (set6 zs q a b c d e f)[q + o]? = [a, b, c, d, e, f][o]?
  | 0, _ => by simp [set6, List.getElem?_set]; omega
  | 1, _ => by simp [set6, List.getElem?_set]; omega
  | 2, _ => by simp [set6, List.getElem?_set]; omega
  | 3, _ => by simp [set6, List.getElem?_set]; omega
  | 4, _ => by simp [set6, List.getElem?_set]; omega
  | 5, _ => by simp [set6, List.getElem?_set]; omega
theorem set6_out (zs : List Value) (q : Nat) (a b c d e f : Value) (r : Nat) (h : r < q ∨ q + 6 ≤ r) : (set6 zs q a b c d e f)[r]? = zs[r]? := by
  unfold set6
  rw [List.getElem?_set_ne (by omega), List.getElem?_set_ne (by omega), List.getElem?_set_ne (by omega), List.getElem?_set_ne (by omega), List.getElem?_set_ne (by omega), List.getElem?_set_ne (by omega)]
theorem set6_flat (ds : List (Sc × Int)) (k : Nat) (x : Sc) (i : Int) (hk : k < ds.length) : set6 (flat sb6 ds) (k * 6) (.int .i64 x.a) (.int .i64 x.b) (.int .i64 x.c) (.int .i64 x.d) (.int .i64 x.e) (.int .i64 i) = flat sb6 (ds.set k (x, i)) := by
  have hl := flat_len sb6 6 sb6_len ds
  have h6 : k * 6 + 6 ≤ ds.length * 6 := by omega
  exact flat_set sb6 6 sb6_len (by omega) ds k (x, i) hk _ (by rw [set6_len, hl]) (set6_at _ _ _ _ _ _ _ _ (by omega)) (fun q hq => set6_out _ _ _ _ _ _ _ _ q (by omega))
theorem owns_row {w : World} {base : Nat} {e : TypeId} {size g n cap : Nat} {xs : List Value} (h : w.ownsRow base e size (.slice (some ⟨g, 0, none⟩) n cap) n xs) : ∃ cur, Blk w g e cur ∧ n ≤ cap ∧ cur.size = cap * size := by
  rcases h with ⟨hl, ⟨h0, _⟩ | ⟨g', cap', cur, h0, hb, hg, h1, h2, h3, h4⟩⟩
  · simp at h0
  · obtain ⟨rfl, rfl⟩ : g = g' ∧ cap = cap' := by simpa using h0
    exact ⟨cur, hg, h1, h3⟩
set_option maxHeartbeats 4000000 in
theorem push_old (base SB g cap k : Nat) (ds : List (Sc × Int)) (i L : Int) (x : Sc) (w : World) (hs : SS w base SB (.slice (some ⟨g, 0, none⟩) ds.length cap) ds i L) (hb : base ≤ SB) (hk : (k : Int) = max i L + 1) (hkl : k < ds.length) (hi : -1 ≤ i) (hL : -1 ≤ L) (hn : ds.length ≤ 10000000) :
    Calls Try.prog 89 #[.pointer (some ⟨SB, 0, none⟩), .agg #[.int .i64 x.a, .int .i64 x.b, .int .i64 x.c, .int .i64 x.d, .int .i64 x.e]] w (SPushed base SB (ds.set k (x, i)) k L w) := by
  have hSl := hs.s.lt
  have c0 : w.cell? ⟨SB, 0, none⟩ = some (.slice (some ⟨g, 0, none⟩) ds.length cap) := hs.s.cell 0
  have c1 : w.cell? ⟨SB, 1, none⟩ = some (.int .i64 i) := hs.s.cell 1
  have c2 : w.cell? ⟨SB, 2, none⟩ = some (.int .i64 L) := hs.s.cell 2
  have f1 := hs.s.frozen 1
  have hne := own_blk_ne hs.o hs.s (by decide)
  have HS := Lib.hid hs
  clear hs
  obtain ⟨m, hm⟩ : ∃ m : Int, m = max i L := ⟨_, rfl⟩
  have hmx : ∀ (w : World) (ts : Array TypeId) (t : TypeId), (Builtin.max_ ts t #[.int .i64 i, .int .i64 L]).run Try.prog w = .ok (.int .i64 m) w := by
    intro w ts t
    rw [run_max_int2, hm]
    congr 2
    by_cases h : L > i
    · rw [if_pos h]; omega
    · rw [if_neg h]; omega
  have hm1 : m + 1 = (k : Int) := by omega
  clear hm hk
  go_enter Try.func89, Try.ntmps89
  go_wp2_with fail
  go_region
  go_wp2_with fail
  go_region
  have sW : Blk ((((w.setCell ⟨SB, 1, none⟩ (.int .i64 k)).alloc (.cells #[.int .i64 x.a, .int .i64 x.b, .int .i64 x.c, .int .i64 x.d, .int .i64 x.e] 151)).alloc (.cells #[.int .i64 x.a, .int .i64 x.b, .int .i64 x.c, .int .i64 x.d, .int .i64 x.e, .int .i64 i] 161)).drew.drew) SB 148 #[(.slice (some ⟨g, 0, none⟩) ds.length cap), .int .i64 k, .int .i64 L] := (((HS.out.s.set_ 1 (.int .i64 k)).alloc _).alloc _)
  have nW : Blk ((((w.setCell ⟨SB, 1, none⟩ (.int .i64 k)).alloc (.cells #[.int .i64 x.a, .int .i64 x.b, .int .i64 x.c, .int .i64 x.d, .int .i64 x.e] 151)).alloc (.cells #[.int .i64 x.a, .int .i64 x.b, .int .i64 x.c, .int .i64 x.d, .int .i64 x.e, .int .i64 i] 161)).drew.drew) (w.heap.size + 1) 161 #[.int .i64 x.a, .int .i64 x.b, .int .i64 x.c, .int .i64 x.d, .int .i64 x.e, .int .i64 i] := Blk.at_ _ _ (by simp [World.setCell])
  have oW : ((((w.setCell ⟨SB, 1, none⟩ (.int .i64 k)).alloc (.cells #[.int .i64 x.a, .int .i64 x.b, .int .i64 x.c, .int .i64 x.d, .int .i64 x.e] 151)).alloc (.cells #[.int .i64 x.a, .int .i64 x.b, .int .i64 x.c, .int .i64 x.d, .int .i64 x.e, .int .i64 i] 161)).drew.drew).ownsRow base 161 6 (.slice (some ⟨g, 0, none⟩) ds.length cap) ds.length (flat sb6 ds) := ((owns_far HS.out.o (p := ⟨SB, 1, none⟩) hne (.int .i64 k)).alloc _).alloc _
  have bW : Below base w ((((w.setCell ⟨SB, 1, none⟩ (.int .i64 k)).alloc (.cells #[.int .i64 x.a, .int .i64 x.b, .int .i64 x.c, .int .i64 x.d, .int .i64 x.e] 151)).alloc (.cells #[.int .i64 x.a, .int .i64 x.b, .int .i64 x.c, .int .i64 x.d, .int .i64 x.e, .int .i64 i] 161)).drew.drew) := ((((Below.refl base w).setCell (p := ⟨SB, 1, none⟩) hb (.int .i64 k)).alloc (by simp [World.setCell]; omega) _).alloc (by simp [World.setCell]; omega) _).drew.drew
  have kW : Lib.OthersKept 161 (some SB) w ((((w.setCell ⟨SB, 1, none⟩ (.int .i64 k)).alloc (.cells #[.int .i64 x.a, .int .i64 x.b, .int .i64 x.c, .int .i64 x.d, .int .i64 x.e] 151)).alloc (.cells #[.int .i64 x.a, .int .i64 x.b, .int .i64 x.c, .int .i64 x.d, .int .i64 x.e, .int .i64 i] 161)).drew.drew) := ((((Lib.OthersKept.refl _ _ w).setCell ⟨SB, 1, none⟩ rfl (.int .i64 k)).alloc _).alloc _).drew.drew
  have zW : ((((w.setCell ⟨SB, 1, none⟩ (.int .i64 k)).alloc (.cells #[.int .i64 x.a, .int .i64 x.b, .int .i64 x.c, .int .i64 x.d, .int .i64 x.e] 151)).alloc (.cells #[.int .i64 x.a, .int .i64 x.b, .int .i64 x.c, .int .i64 x.d, .int .i64 x.e, .int .i64 i] 161)).drew.drew).heap.size = w.heap.size + 2 := by simp [World.setCell, World.drew]
  clear c0 c1 c2 f1
  generalize ((((w.setCell ⟨SB, 1, none⟩ (.int .i64 k)).alloc (.cells #[.int .i64 x.a, .int .i64 x.b, .int .i64 x.c, .int .i64 x.d, .int .i64 x.e] 151)).alloc (.cells #[.int .i64 x.a, .int .i64 x.b, .int .i64 x.c, .int .i64 x.d, .int .i64 x.e, .int .i64 i] 161)).drew.drew) = W at *
  obtain ⟨cur, rW, hcap, hcur⟩ := owns_row oW
  have d0 : W.cell? ⟨SB, 0, none⟩ = some (.slice (some ⟨g, 0, none⟩) ds.length cap) := sW.cell 0
  have d1 : W.cell? ⟨SB, 1, none⟩ = some (.int .i64 k) := sW.cell 1
  have b0 : W.cell? ⟨w.heap.size + 1, 0, none⟩ = some (.int .i64 x.a) := nW.cell 0
  have b1 : W.cell? ⟨w.heap.size + 1, 1, none⟩ = some (.int .i64 x.b) := nW.cell 1
  have b2 : W.cell? ⟨w.heap.size + 1, 2, none⟩ = some (.int .i64 x.c) := nW.cell 2
  have b3 : W.cell? ⟨w.heap.size + 1, 3, none⟩ = some (.int .i64 x.d) := nW.cell 3
  have b4 : W.cell? ⟨w.heap.size + 1, 4, none⟩ = some (.int .i64 x.e) := nW.cell 4
  have b5 : W.cell? ⟨w.heap.size + 1, 5, none⟩ = some (.int .i64 i) := nW.cell 5
  obtain ⟨u0, r0⟩ : ∃ u, W.cell? ⟨g, k * 6, none⟩ = some u := ⟨_, (rW.cell _).trans (Array.getElem?_eq_getElem (by omega))⟩
  have q0 := rW.frozen (k * 6)
  obtain ⟨u1, r1⟩ : ∃ u, W.cell? ⟨g, k * 6 + 1, none⟩ = some u := ⟨_, (rW.cell _).trans (Array.getElem?_eq_getElem (by omega))⟩
  have q1 := rW.frozen (k * 6 + 1)
  obtain ⟨u2, r2⟩ : ∃ u, W.cell? ⟨g, k * 6 + 2, none⟩ = some u := ⟨_, (rW.cell _).trans (Array.getElem?_eq_getElem (by omega))⟩
  have q2 := rW.frozen (k * 6 + 2)
  obtain ⟨u3, r3⟩ : ∃ u, W.cell? ⟨g, k * 6 + 3, none⟩ = some u := ⟨_, (rW.cell _).trans (Array.getElem?_eq_getElem (by omega))⟩
  have q3 := rW.frozen (k * 6 + 3)
  obtain ⟨u4, r4⟩ : ∃ u, W.cell? ⟨g, k * 6 + 4, none⟩ = some u := ⟨_, (rW.cell _).trans (Array.getElem?_eq_getElem (by omega))⟩
  have q4 := rW.frozen (k * 6 + 4)
  obtain ⟨u5, r5⟩ : ∃ u, W.cell? ⟨g, k * 6 + 5, none⟩ = some u := ⟨_, (rW.cell _).trans (Array.getElem?_eq_getElem (by omega))⟩
  have q5 := rW.frozen (k * 6 + 5)
  have lS := sW.lt
  have lR := rW.lt
  have lN := nW.lt
  have hgS : g ≠ SB := fun e => hne (by rw [e]; rfl)
  have hgN : g < w.heap.size := (HS.out.o.lt g rfl).2
  have hgN2 : g ≠ w.heap.size + 1 := by omega
  have SW := Lib.hid sW
  have OW := Lib.hid oW
  have RW := Lib.hid rW
  have BW := Lib.hid bW
  have KW := Lib.hid kW
  clear sW nW oW bW kW rW
  go_wp2_with fail
  go_quiet (fail)
  go_wp2_with fail
  go_region
  go_wp2_with fail
  go_end0
  obtain ⟨nq1, hnq⟩ : ∃ n, n = nq + 1 := ⟨_, rfl⟩
  have hbg : base ≤ g := (HS.out.o.lt g rfl).1
  rw [← hnq]
  have h6 := (owns_set (owns_set (owns_set (owns_set (owns_set (owns_set (show (W.drewN nq1).ownsRow base 161 6 (.slice (some ⟨g, 0, none⟩) ds.length cap) ds.length (flat sb6 ds) from OW.out) (k * 6) (.int .i64 x.a)) (k * 6 + 1) (.int .i64 x.b)) (k * 6 + 2) (.int .i64 x.c)) (k * 6 + 3) (.int .i64 x.d)) (k * 6 + 4) (.int .i64 x.e)) (k * 6 + 5) (.int .i64 i))
  have e6 := set6_flat ds k x i hkl
  unfold set6 at e6
  rw [e6] at h6
  refine ⟨rfl, ⟨.slice (some ⟨g, 0, none⟩) ds.length cap, (((((((SW.out.drewN nq1).far (p := ⟨g, (k * 6), none⟩) (fun e => hgS e.symm) (.int .i64 x.a)).far (p := ⟨g, (k * 6 + 1), none⟩) (fun e => hgS e.symm) (.int .i64 x.b)).far (p := ⟨g, (k * 6 + 2), none⟩) (fun e => hgS e.symm) (.int .i64 x.c)).far (p := ⟨g, (k * 6 + 3), none⟩) (fun e => hgS e.symm) (.int .i64 x.d)).far (p := ⟨g, (k * 6 + 4), none⟩) (fun e => hgS e.symm) (.int .i64 x.e)).far (p := ⟨g, (k * 6 + 5), none⟩) (fun e => hgS e.symm) (.int .i64 i)), ?_⟩, (((((((below_drewN BW.out nq1).setCell (p := ⟨g, (k * 6), none⟩) hbg (.int .i64 x.a)).setCell (p := ⟨g, (k * 6 + 1), none⟩) hbg (.int .i64 x.b)).setCell (p := ⟨g, (k * 6 + 2), none⟩) hbg (.int .i64 x.c)).setCell (p := ⟨g, (k * 6 + 3), none⟩) hbg (.int .i64 x.d)).setCell (p := ⟨g, (k * 6 + 4), none⟩) hbg (.int .i64 x.e)).setCell (p := ⟨g, (k * 6 + 5), none⟩) hbg (.int .i64 i)), (Lib.OthersKept.setRowCell (Lib.OthersKept.setRowCell (Lib.OthersKept.setRowCell (Lib.OthersKept.setRowCell (Lib.OthersKept.setRowCell (Lib.OthersKept.setRowCell (Lib.OthersKept.drewN KW.out nq1) (RW.out.drewN nq1) (k * 6) (.int .i64 x.a)) ((RW.out.drewN nq1).set_ (k * 6) (.int .i64 x.a)) (k * 6 + 1) (.int .i64 x.b)) (((RW.out.drewN nq1).set_ (k * 6) (.int .i64 x.a)).set_ (k * 6 + 1) (.int .i64 x.b)) (k * 6 + 2) (.int .i64 x.c)) ((((RW.out.drewN nq1).set_ (k * 6) (.int .i64 x.a)).set_ (k * 6 + 1) (.int .i64 x.b)).set_ (k * 6 + 2) (.int .i64 x.c)) (k * 6 + 3) (.int .i64 x.d)) (((((RW.out.drewN nq1).set_ (k * 6) (.int .i64 x.a)).set_ (k * 6 + 1) (.int .i64 x.b)).set_ (k * 6 + 2) (.int .i64 x.c)).set_ (k * 6 + 3) (.int .i64 x.d)) (k * 6 + 4) (.int .i64 x.e)) ((((((RW.out.drewN nq1).set_ (k * 6) (.int .i64 x.a)).set_ (k * 6 + 1) (.int .i64 x.b)).set_ (k * 6 + 2) (.int .i64 x.c)).set_ (k * 6 + 3) (.int .i64 x.d)).set_ (k * 6 + 4) (.int .i64 x.e)) (k * 6 + 5) (.int .i64 i))⟩
  rw [List.length_set]
  exact h6
end Go.Proofs.Ytbkakiipaehleaa
