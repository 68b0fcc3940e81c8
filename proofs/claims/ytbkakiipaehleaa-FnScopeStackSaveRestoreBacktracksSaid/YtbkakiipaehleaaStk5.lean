/- The scope stack as the laws see it: its content and its saves. -/
import Derived.Test.YtbkakiipaehleaaStk4
namespace Go.Proofs.Ytbkakiipaehleaa
open Go.RowKit
set_option maxRecDepth 100000
set_option linter.unusedVariables false
def ST (w : World) (base SB : Nat) (i L : Int) (m : List Sc) (sv : List (Sv Sc)) (n : Nat) : Prop := ∃ D ds, SS w base SB D ds i L ∧ Stk ds i L m sv ∧ ds.length ≤ n
def agg5 (x : Sc) : Value := .agg #[.int .i64 x.a, .int .i64 x.b, .int .i64 x.c, .int .i64 x.d, .int .i64 x.e]
def Pu (base SB : Nat) (L : Int) (m : List Sc) (sv : List (Sv Sc)) (n : Nat) (w : World) (e : Ending) (w' : World) : Prop :=
  e = .returned (.tuple #[]) ∧ (∃ i, ST w' base SB i L m sv n) ∧ Below base w w' ∧ Lib.OthersKept 161 (some SB) w w'
theorem own_open2 {w : World} {base : Nat} {t : TypeId} {V : Value} {k size : Nat} {ps : List Value} (h : w.ownsRow base t size V k ps) : ∃ A cap, V = .slice A k cap ∧ (0 < k → ∃ g, A = some ⟨g, 0, none⟩) := by
  rcases h with ⟨hl, ⟨rfl, rfl⟩ | ⟨g, cap, cur, rfl, _⟩⟩
  · exact ⟨none, 0, rfl, fun h => absurd h (by omega)⟩
  · exact ⟨_, cap, rfl, fun _ => ⟨g, rfl⟩⟩
theorem push_st (base SB : Nat) (i L : Int) (m : List Sc) (sv : List (Sv Sc)) (n : Nat) (x : Sc) (w : World) (h : ST w base SB i L m sv n) (hb : base ≤ SB) (hn : n ≤ 10000000) :
    Calls Try.prog 89 #[.pointer (some ⟨SB, 0, none⟩), .agg #[.int .i64 x.a, .int .i64 x.b, .int .i64 x.c, .int .i64 x.d, .int .i64 x.e]] w (Pu base SB L (m ++ [x]) sv (n + 1) w) := by
  obtain ⟨D, ds, hs, hk, hl⟩ := h
  obtain ⟨A, cap, rfl, hA⟩ := own_open2 hs.o
  have h1 := hk.chain.lo
  have h2 := hk.llo
  obtain ⟨k, hkk⟩ : ∃ k : Nat, (k : Int) = max i L + 1 := ⟨(max i L + 1).toNat, by omega⟩
  obtain ⟨hle, hst⟩ := hk.push x k hkk
  have hpl := (put_len ds k (x, i)).2
  by_cases hlt : k < ds.length
  · obtain ⟨g, rfl⟩ := hA (by omega)
    refine (push_old base SB g cap k ds i L x w hs hb hkk hlt h1 h2 (by omega)).mono ?_
    rintro e w' ⟨rfl, ⟨D', hs'⟩, hb', hk'⟩
    refine ⟨rfl, ⟨k, D', ds.set k (x, i), hs', ?_, by simp; omega⟩, hb', hk'⟩
    rw [put, if_pos hlt] at hst
    exact hst
  · have hke : k = ds.length := by omega
    subst hke
    refine (push_top base SB cap A ds i L x w hs hb hkk h1 h2 (by omega)).mono ?_
    rintro e w' ⟨rfl, ⟨D', hs'⟩, hb', hk'⟩
    refine ⟨rfl, ⟨ds.length, D', ds ++ [(x, i)], hs', ?_, by simp; omega⟩, hb', hk'⟩
    rw [put, if_neg hlt] at hst
    exact hst
def Po (base SB : Nat) (x : Sc) (L : Int) (m : List Sc) (sv : List (Sv Sc)) (n : Nat) (w : World) (e : Ending) (w' : World) : Prop :=
  e = .returned (.agg #[.int .i64 x.a, .int .i64 x.b, .int .i64 x.c, .int .i64 x.d, .int .i64 x.e]) ∧ (∃ i, ST w' base SB i L m sv n) ∧ Below base w w' ∧ Lib.OthersKept 161 (some SB) w w'
theorem pop_st (base SB : Nat) (i L : Int) (m : List Sc) (sv : List (Sv Sc)) (n : Nat) (x : Sc) (w : World) (h : ST w base SB i L (m ++ [x]) sv n) (hb : base ≤ SB) (hn : n ≤ 10000000) :
    Calls Try.prog 90 #[.pointer (some ⟨SB, 0, none⟩)] w (Po base SB x L m sv n w) := by
  obtain ⟨D, ds, hs, hk, hl⟩ := h
  obtain ⟨A, cap, rfl, hA⟩ := own_open2 hs.o
  obtain ⟨k, j, rfl, hkl, hd, hj1, hj2, hst⟩ := hk.pop
  obtain ⟨g, rfl⟩ := hA (by omega)
  refine (pop_any base SB g cap k ds L x j w hs hb hd (by omega)).mono ?_
  rintro e w' ⟨rfl, hs', hb', hk'⟩
  exact ⟨rfl, ⟨j, _, ds, hs', hst, hl⟩, hb', hk'⟩
theorem ST.alloc {w : World} {base SB : Nat} {i L : Int} {m : List Sc} {sv : List (Sv Sc)} {n : Nat} (h : ST w base SB i L m sv n) (o : Obj) : ST (w.alloc o) base SB i L m sv n := by
  obtain ⟨D, ds, hs, hk, hl⟩ := h
  exact ⟨D, ds, ⟨hs.s.alloc o, hs.o.alloc o⟩, hk, hl⟩
theorem ST.lt {w : World} {base SB : Nat} {i L : Int} {m : List Sc} {sv : List (Sv Sc)} {n : Nat} (h : ST w base SB i L m sv n) : SB < w.heap.size := by
  obtain ⟨D, ds, hs, _⟩ := h
  exact hs.s.lt
theorem ST.idx {w : World} {base SB : Nat} {i L : Int} {m : List Sc} {sv : List (Sv Sc)} {n : Nat} (h : ST w base SB i L m sv n) : w.cell? ⟨SB, 1, none⟩ = some (.int .i64 i) ∧ w.cell? ⟨SB, 2, none⟩ = some (.int .i64 L) ∧ decide (i < 0) = decide (m.length = 0) := by
  obtain ⟨D, ds, hs, hk, hl⟩ := h
  exact ⟨hs.s.cell 1, hs.s.cell 2, hk.empty⟩
theorem ST.mono {w : World} {base SB : Nat} {i L : Int} {m : List Sc} {sv : List (Sv Sc)} {n n' : Nat} (h : ST w base SB i L m sv n) (hn : n ≤ n') : ST w base SB i L m sv n' := by
  obtain ⟨D, ds, hs, hk, hl⟩ := h
  exact ⟨D, ds, hs, hk, by omega⟩
set_option maxHeartbeats 1000000 in
theorem zz_pushst (base SB : Nat) (i L : Int) (m : List Sc) (sv : List (Sv Sc)) (n : Nat) (x : Sc) (w : World) (h : ST w base SB i L m sv n) (hb : base ≤ SB) (hn : n ≤ 10000000) :
    Calls Try.prog 77 #[.pointer (some ⟨SB, 0, none⟩), .int .i64 x.a, .int .i64 x.b, .int .i64 x.c, .int .i64 x.d, .int .i64 x.e] w (Pu base SB L (m ++ [x]) sv (n + 1) w) := by
  have hc := Lib.hid (push_st base SB i L m sv n x w h hb hn)
  clear h
  go_enter Try.func77, Try.ntmps77
  go_wp2_with fail
  with_reducible refine (hc.out).mono ?_
  rintro e w' ⟨rfl, h1, h2, h3⟩
  go_wp2_with fail
  go_end0
  exact ⟨rfl, h1, h2, h3⟩
set_option maxHeartbeats 1000000 in
theorem zzPush_any (base SB : Nat) (i L : Int) (m : List Sc) (sv : List (Sv Sc)) (n : Nat) (x : Sc) (w : World) (h : ST w base SB i L m sv n) (hb : base ≤ SB) (hn : n ≤ 10000000) :
    Calls Try.prog 16 #[.pointer (some ⟨SB, 0, none⟩), .agg #[.int .i64 x.a, .int .i64 x.b, .int .i64 x.c, .int .i64 x.d, .int .i64 x.e]] w (Pu base SB L (m ++ [x]) sv (n + 1) w) := by
  have hSl := h.lt
  have hc := Lib.hid (zz_pushst base SB i L m sv n x (w.alloc (.cells #[.int .i64 x.a, .int .i64 x.b, .int .i64 x.c, .int .i64 x.d, .int .i64 x.e] 31)) (h.alloc _) hb hn)
  have hbx : Below base w (w.alloc (.cells #[.int .i64 x.a, .int .i64 x.b, .int .i64 x.c, .int .i64 x.d, .int .i64 x.e] 31)) := (Below.refl _ _).alloc (by omega) _
  have hkx : Lib.OthersKept 161 (some SB) w (w.alloc (.cells #[.int .i64 x.a, .int .i64 x.b, .int .i64 x.c, .int .i64 x.d, .int .i64 x.e] 31)) := (Lib.OthersKept.refl _ _ w).alloc _
  clear h
  go_enter Try.func16, Try.ntmps16
  go_wp2_with fail
  with_reducible refine (hc.out).mono ?_
  rintro e w' ⟨rfl, h1, h2, h3⟩
  go_wp2_with fail
  go_end0
  exact ⟨rfl, h1, hbx.trans h2, hkx.trans h3⟩
end Go.Proofs.Ytbkakiipaehleaa
