/- The scope stack: the laws' helpers. -/
import Derived.Test.YtbkakiipaehleaaStk5
import Derived.Test.YtbkakiipaehleaaNam
namespace Go.Proofs.Ytbkakiipaehleaa
open Go.RowKit
set_option maxRecDepth 100000
set_option linter.unusedVariables false
theorem ST.drewN {w : World} {base SB : Nat} {i L : Int} {m : List Sc} {sv : List (Sv Sc)} {n : Nat} (h : ST w base SB i L m sv n) (k : Nat) : ST (w.drewN k) base SB i L m sv n := by
  obtain ⟨D, ds, hs, hk, hl⟩ := h
  exact ⟨D, ds, ⟨hs.s.drewN k, hs.o⟩, hk, hl⟩
def Po5 (base SB : Nat) (x : Sc) (L : Int) (m : List Sc) (sv : List (Sv Sc)) (n : Nat) (w : World) (e : Ending) (w' : World) : Prop :=
  e = .returned (.tuple #[.int .i64 x.a, .int .i64 x.b, .int .i64 x.c, .int .i64 x.d, .int .i64 x.e]) ∧ (∃ i, ST w' base SB i L m sv n) ∧ Below base w w' ∧ Lib.OthersKept 161 (some SB) w w'
set_option maxHeartbeats 2000000 in
theorem zz_popst (base SB : Nat) (i L : Int) (m : List Sc) (sv : List (Sv Sc)) (n : Nat) (x : Sc) (w : World) (h : ST w base SB i L (m ++ [x]) sv n) (hb : base ≤ SB) (hn : n ≤ 10000000) :
    Calls Try.prog 78 #[.pointer (some ⟨SB, 0, none⟩)] w (Po5 base SB x L m sv n w) := by
  have hc := Lib.hid (pop_st base SB i L m sv n x w h hb hn)
  clear h
  go_enter Try.func78, Try.ntmps78
  go_wp2_with fail
  with_reducible refine (hc.out).mono ?_
  rintro e w1 ⟨rfl, ⟨i1, h1⟩, h2, h3⟩
  have hl := h1.lt
  go_wp2_with fail
  go_quiet (fail)
  go_wp2_with fail
  refine bodyPost_ret (v := .tuple #[.int .i64 x.a, .int .i64 x.b, .int .i64 x.c, .int .i64 x.d, .int .i64 x.e]) (by simp [results, Try.results78, go_sem]) rfl ?_
  exact ⟨rfl, ⟨i1, (h1.alloc _).drewN _⟩, below_drewN (h2.alloc (by omega) _) _, Lib.OthersKept.drewN (h3.alloc _) _⟩
def Pm (base SB : Nat) (L : Int) (m : List Sc) (sv : List (Sv Sc)) (n : Nat) (w : World) (e : Ending) (w' : World) : Prop :=
  e = .returned (.bool true) ∧ (∃ i, ST w' base SB i L m sv n) ∧ Below base w w' ∧ Lib.OthersKept 161 (some SB) w w'
set_option maxHeartbeats 2000000 in
theorem zzPop_any (base SB : Nat) (i L : Int) (m : List Sc) (sv : List (Sv Sc)) (n : Nat) (x : Sc) (w : World) (h : ST w base SB i L (m ++ [x]) sv n) (hb : base ≤ SB) (hn : n ≤ 10000000) :
    Calls Try.prog 17 #[.pointer (some ⟨SB, 0, none⟩), .agg #[.int .i64 x.a, .int .i64 x.b, .int .i64 x.c, .int .i64 x.d, .int .i64 x.e]] w (Pm base SB L m sv n w) := by
  have hSl := h.lt
  have hbx : Below base w (w.alloc (.cells #[.int .i64 x.a, .int .i64 x.b, .int .i64 x.c, .int .i64 x.d, .int .i64 x.e] 31)) := (Below.refl _ _).alloc (by omega) _
  have hkx : Lib.OthersKept 161 (some SB) w (w.alloc (.cells #[.int .i64 x.a, .int .i64 x.b, .int .i64 x.c, .int .i64 x.d, .int .i64 x.e] 31)) := (Lib.OthersKept.refl _ _ w).alloc _
  have hc := Lib.hid (zz_popst base SB i L m sv n x (w.alloc (.cells #[.int .i64 x.a, .int .i64 x.b, .int .i64 x.c, .int .i64 x.d, .int .i64 x.e] 31)) (h.alloc _) hb hn)
  have hx := Blk.new w 31 #[.int .i64 x.a, .int .i64 x.b, .int .i64 x.c, .int .i64 x.d, .int .i64 x.e]
  clear h
  go_enter Try.func17, Try.ntmps17
  go_wp2_with fail
  with_reducible refine (hc.out).mono ?_
  rintro e w1 ⟨rfl, h1, h2, h3⟩
  have hx1 := hx.kept h3 (by intro e; injection e with e; omega) (by decide)
  have b0 : w1.cell? ⟨w.heap.size, 0, none⟩ = some (.int .i64 x.a) := hx1.cell 0
  have b1 : w1.cell? ⟨w.heap.size, 1, none⟩ = some (.int .i64 x.b) := hx1.cell 1
  have b2 : w1.cell? ⟨w.heap.size, 2, none⟩ = some (.int .i64 x.c) := hx1.cell 2
  have b3 : w1.cell? ⟨w.heap.size, 3, none⟩ = some (.int .i64 x.d) := hx1.cell 3
  have b4 : w1.cell? ⟨w.heap.size, 4, none⟩ = some (.int .i64 x.e) := hx1.cell 4
  clear hx hx1
  have e0 : (x.a == x.a) = true := by simp
  have e1 : (x.b == x.b) = true := by simp
  have e2 : (x.c == x.c) = true := by simp
  have e3 : (x.d == x.d) = true := by simp
  have e4 : (x.e == x.e) = true := by simp
  go_wp2_with fail
  go_ret
  exact ⟨rfl, h1, hbx.trans h2, hkx.trans h3⟩
theorem empty_st (SB : Nat) (i : Int) (w : World) (c : w.cell? ⟨SB, 1, none⟩ = some (.int .i64 i)) : Calls Try.prog 76 #[.pointer (some ⟨SB, 0, none⟩)] w fun e w' => e = .returned (.bool (decide (i < 0))) ∧ w = w' := by
  go_enter Try.func76, Try.ntmps76
  go_wp2_with fail
  go_ret
  exact ⟨rfl, rfl⟩
theorem zz_empty (base SB : Nat) (i L : Int) (m : List Sc) (sv : List (Sv Sc)) (n : Nat) (w : World) (h : ST w base SB i L m sv n) : Calls Try.prog 14 #[.pointer (some ⟨SB, 0, none⟩)] w fun e w' => e = .returned (.bool (decide (m.length = 0))) ∧ w = w' := by
  obtain ⟨c1, _, c3⟩ := h.idx
  rw [← c3]
  have hc := Lib.hid (empty_st SB i w c1)
  clear h c1 c3
  go_enter Try.func14, Try.ntmps14
  go_wp2_with fail
  with_reducible refine (hc.out).mono ?_
  rintro e w1 ⟨rfl, rfl⟩
  go_wp2_with fail
  go_ret
  exact ⟨rfl, rfl⟩
theorem mk_stack (w : World) : Calls Try.prog 75 #[] w fun e w' => e = .returned (.pointer (some ⟨w.heap.size, 0, none⟩)) ∧ w' = w.alloc (.cells #[.slice none 0 0, .int .i64 (-1), .int .i64 (-1)] 148) := by
  go_enter Try.func75, Try.ntmps75
  go_wp2_with fail
  go_ret
  exact ⟨rfl, rfl⟩
theorem zz_stack (w : World) : Calls Try.prog 13 #[] w fun e w' => e = .returned (.pointer (some ⟨w.heap.size, 0, none⟩)) ∧ ST w' w.heap.size w.heap.size (-1) (-1) [] [] 0 ∧ Below w.heap.size w w' ∧ w'.heap.size = w.heap.size + 1 := by
  have hc := Lib.hid (mk_stack w)
  go_enter Try.func13, Try.ntmps13
  go_wp2_with fail
  with_reducible refine (hc.out).mono ?_
  rintro e w1 ⟨rfl, rfl⟩
  go_wp2_with fail
  go_ret
  exact ⟨rfl, ⟨_, [], ⟨Blk.new w _ _, World.ownsRow_nil _ _ _ _⟩, Stk.start, by simp⟩, (Below.refl _ _).alloc (Nat.le_refl _) _, by simp⟩
end Go.Proofs.Ytbkakiipaehleaa
