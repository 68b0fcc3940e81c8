/- The scope stack: push at the end. -/
import Derived.Test.YtbkakiipaehleaaStk2
import Derived.Deep.RegionLaw
import Derived.RegionTactic
namespace Go.Proofs.Ytbkakiipaehleaa
open Go.RowKit
set_option maxRecDepth 100000
set_option linter.unusedVariables false
theorem row_cells {w : World} {k : Nat} (xs : List Value) (t : TypeId) (h : w.heap.size = k) : ∀ j u, xs[j]? = some u → (w.alloc (.cells xs.toArray t)).cell? ((⟨k, 0, none⟩ : Addr).add j) = some u := by
  intro j u hj
  rw [Go.WideShapes.add_plain]
  have := (Blk.at_ t xs.toArray h).cell j
  simp at this
  rw [Nat.zero_add, this]
  exact hj
theorem one_sb (p : Sc × Int) : ∀ u ∈ sb6 p, u.oneCell' = true := by
  intro u hu
  simp [sb6, sc5] at hu
  rcases hu with rfl | rfl | rfl | rfl | rfl | rfl <;> rfl
set_option maxHeartbeats 4000000 in
theorem push_top (base SB cap : Nat) (A : Option Addr) (ds : List (Sc × Int)) (i L : Int) (x : Sc) (w : World) (hs : SS w base SB (.slice A ds.length cap) ds i L) (hb : base ≤ SB) (hk : (ds.length : Int) = max i L + 1) (hi1 : -1 ≤ i) (hL : -1 ≤ L) (hn : ds.length ≤ 10000000) :
    Calls Try.prog 89 #[.pointer (some ⟨SB, 0, none⟩), .agg #[.int .i64 x.a, .int .i64 x.b, .int .i64 x.c, .int .i64 x.d, .int .i64 x.e]] w (SPushed base SB (ds ++ [(x, i)]) ds.length L w) := by
  have hSl := hs.s.lt
  have c0 : w.cell? ⟨SB, 0, none⟩ = some (.slice A ds.length cap) := hs.s.cell 0
  have c1 : w.cell? ⟨SB, 1, none⟩ = some (.int .i64 i) := hs.s.cell 1
  have c2 : w.cell? ⟨SB, 2, none⟩ = some (.int .i64 L) := hs.s.cell 2
  have f1 := hs.s.frozen 1
  have hne := own_blk_ne hs.o hs.s (by decide)
  have HS := Lib.hid hs
  obtain ⟨i0, hin, hz0, hz1, hz2⟩ := info_parts infoSb
  clear hs
  obtain ⟨m, hm⟩ : ∃ m : Int, m = max i L := ⟨_, rfl⟩
  have hmx : ∀ (w : World) (ts : Array TypeId) (t : TypeId), (Builtin.max_ ts t #[.int .i64 i, .int .i64 L]).run Try.prog w = .ok (.int .i64 m) w := by
    intro w ts t
    rw [run_max_int2, hm]
    congr 2
    by_cases h : L > i
    · rw [if_pos h]; omega
    · rw [if_neg h]; omega
  have hm1 : m + 1 = (ds.length : Int) := by omega
  clear hm hk
  go_enter Try.func89, Try.ntmps89
  go_wp2_with fail
  go_region
  go_wp2_with fail
  go_region
  have sW : Blk ((((w.setCell ⟨SB, 1, none⟩ (.int .i64 ds.length)).alloc (.cells #[.int .i64 x.a, .int .i64 x.b, .int .i64 x.c, .int .i64 x.d, .int .i64 x.e] 151)).alloc (.cells #[.int .i64 x.a, .int .i64 x.b, .int .i64 x.c, .int .i64 x.d, .int .i64 x.e, .int .i64 i] 161)).drew.drew) SB 148 #[(.slice A ds.length cap), .int .i64 ds.length, .int .i64 L] := (((HS.out.s.set_ 1 (.int .i64 ds.length)).alloc _).alloc _)
  have nW : Blk ((((w.setCell ⟨SB, 1, none⟩ (.int .i64 ds.length)).alloc (.cells #[.int .i64 x.a, .int .i64 x.b, .int .i64 x.c, .int .i64 x.d, .int .i64 x.e] 151)).alloc (.cells #[.int .i64 x.a, .int .i64 x.b, .int .i64 x.c, .int .i64 x.d, .int .i64 x.e, .int .i64 i] 161)).drew.drew) (w.heap.size + 1) 161 #[.int .i64 x.a, .int .i64 x.b, .int .i64 x.c, .int .i64 x.d, .int .i64 x.e, .int .i64 i] := Blk.at_ _ _ (by simp [World.setCell])
  have oW : ((((w.setCell ⟨SB, 1, none⟩ (.int .i64 ds.length)).alloc (.cells #[.int .i64 x.a, .int .i64 x.b, .int .i64 x.c, .int .i64 x.d, .int .i64 x.e] 151)).alloc (.cells #[.int .i64 x.a, .int .i64 x.b, .int .i64 x.c, .int .i64 x.d, .int .i64 x.e, .int .i64 i] 161)).drew.drew).ownsRow base 161 6 (.slice A ds.length cap) ds.length (flat sb6 ds) := ((owns_far HS.out.o (p := ⟨SB, 1, none⟩) hne (.int .i64 ds.length)).alloc _).alloc _
  have bW : Below base w ((((w.setCell ⟨SB, 1, none⟩ (.int .i64 ds.length)).alloc (.cells #[.int .i64 x.a, .int .i64 x.b, .int .i64 x.c, .int .i64 x.d, .int .i64 x.e] 151)).alloc (.cells #[.int .i64 x.a, .int .i64 x.b, .int .i64 x.c, .int .i64 x.d, .int .i64 x.e, .int .i64 i] 161)).drew.drew) := ((((Below.refl base w).setCell (p := ⟨SB, 1, none⟩) hb (.int .i64 ds.length)).alloc (by simp [World.setCell]; omega) _).alloc (by simp [World.setCell]; omega) _).drew.drew
  have kW : Lib.OthersKept 161 (some SB) w ((((w.setCell ⟨SB, 1, none⟩ (.int .i64 ds.length)).alloc (.cells #[.int .i64 x.a, .int .i64 x.b, .int .i64 x.c, .int .i64 x.d, .int .i64 x.e] 151)).alloc (.cells #[.int .i64 x.a, .int .i64 x.b, .int .i64 x.c, .int .i64 x.d, .int .i64 x.e, .int .i64 i] 161)).drew.drew) := ((((Lib.OthersKept.refl _ _ w).setCell ⟨SB, 1, none⟩ rfl (.int .i64 ds.length)).alloc _).alloc _).drew.drew
  have zW : ((((w.setCell ⟨SB, 1, none⟩ (.int .i64 ds.length)).alloc (.cells #[.int .i64 x.a, .int .i64 x.b, .int .i64 x.c, .int .i64 x.d, .int .i64 x.e] 151)).alloc (.cells #[.int .i64 x.a, .int .i64 x.b, .int .i64 x.c, .int .i64 x.d, .int .i64 x.e, .int .i64 i] 161)).drew.drew).heap.size = w.heap.size + 2 := by simp [World.setCell, World.drew]
  clear c0 c1 c2 f1
  generalize ((((w.setCell ⟨SB, 1, none⟩ (.int .i64 ds.length)).alloc (.cells #[.int .i64 x.a, .int .i64 x.b, .int .i64 x.c, .int .i64 x.d, .int .i64 x.e] 151)).alloc (.cells #[.int .i64 x.a, .int .i64 x.b, .int .i64 x.c, .int .i64 x.d, .int .i64 x.e, .int .i64 i] 161)).drew.drew) = W at *
  have d0 : W.cell? ⟨SB, 0, none⟩ = some (.slice A ds.length cap) := sW.cell 0
  have d1 : W.cell? ⟨SB, 1, none⟩ = some (.int .i64 ds.length) := sW.cell 1
  have b0 : W.cell? ⟨w.heap.size + 1, 0, none⟩ = some (.int .i64 x.a) := nW.cell 0
  have b1 : W.cell? ⟨w.heap.size + 1, 1, none⟩ = some (.int .i64 x.b) := nW.cell 1
  have b2 : W.cell? ⟨w.heap.size + 1, 2, none⟩ = some (.int .i64 x.c) := nW.cell 2
  have b3 : W.cell? ⟨w.heap.size + 1, 3, none⟩ = some (.int .i64 x.d) := nW.cell 3
  have b4 : W.cell? ⟨w.heap.size + 1, 4, none⟩ = some (.int .i64 x.e) := nW.cell 4
  have b5 : W.cell? ⟨w.heap.size + 1, 5, none⟩ = some (.int .i64 i) := nW.cell 5
  have lS := sW.lt
  have lN := nW.lt
  have hbW : base ≤ W.heap.size := by omega
  have hne2 := own_blk_ne oW sW (by decide)
  have SW := Lib.hid sW
  have OW := Lib.hid oW
  have BW := Lib.hid bW
  have KW := Lib.hid kW
  clear sW nW oW bW kW
  go_wp2_with fail
  go_quiet (fail)
  go_wp2_with fail
  obtain ⟨W2, hW2⟩ : ∃ W2, W2 = W.drewN nq := ⟨_, rfl⟩
  rw [← hW2]
  have SW2 : Hid (Blk W2 SB 148 #[.slice A ds.length cap, .int .i64 ds.length, .int .i64 L]) := by show Blk _ _ _ _; rw [hW2]; exact SW.out.drewN nq
  have OW2 : Hid (W2.ownsRow base 161 6 (.slice A ds.length cap) ds.length (flat sb6 ds)) := by show World.ownsRow _ _ _ _ _ _ _; rw [hW2]; exact OW.out
  have BW2 : Hid (Below base w W2) := by show Below _ _ _; rw [hW2]; exact below_drewN BW.out nq
  have KW2 : Hid (Lib.OthersKept 161 (some SB) w W2) := by show Lib.OthersKept _ _ _ _; rw [hW2]; exact Lib.OthersKept.drewN KW.out nq
  have hz : W2.heap.size = W.heap.size := by rw [hW2]; rfl
  have hcl : ∀ p, W2.cell? p = W.cell? p := by intro p; rw [hW2]; rfl
  rw [← hcl] at d0 d1 b0 b1 b2 b3 b4 b5
  have lS2 : SB < W2.heap.size := by omega
  have lN2 : w.heap.size + 1 < W2.heap.size := by omega
  have hbW2 : base ≤ W2.heap.size := by omega
  have ZW := Lib.hid zW
  have HZ := Lib.hid hz
  clear hcl hW2 zW hz lS lN hbW
  go_region_law ((refine step_append_lies _ rfl (.tmp 48) (.tmp 50) 75 rfl base 161 i0 (.agg #[.int .i64 0, .int .i64 0, .int .i64 0, .int .i64 0, .int .i64 0, .int .i64 0]) 6 48 Try.underlying75 hin hz0 hz1 hz2 rfl (by decide) (.slice A ds.length cap) ds.length (flat sb6 ds) (by simp [Act.eval]) ((show W2.drew.ownsRow base 161 6 (.slice A ds.length cap) ds.length (flat sb6 ds) from OW2.out).alloc _) ⟨W2.heap.size, 0, none⟩ 1 1 (sb6 (x, i)) (by simp [Act.eval]) rfl (row_cells (w := W2.drew) (sb6 (x, i)) _ rfl) (one_sb _) (by omega) (by unfold maxLen; omega) (by omega) (by simp; omega) _ rfl ?_; intro g4 cap4 w4 hown4 hgrow4 hat4 hlt4; have sw4 := (SW2.out.drew.alloc (.cells #[.int .i64 x.a, .int .i64 x.b, .int .i64 x.c, .int .i64 x.d, .int .i64 x.e, .int .i64 i] 161)).grown hgrow4 (fun e => hne2 e.symm); have s40 : w4.cell? ⟨SB, 0, none⟩ = some (.slice A ds.length cap) := sw4.cell 0; have sf4 := sw4.frozen 0; have HS4 := Lib.hid sw4; have HO4 := Lib.hid hown4; have HG4 := Lib.hid hgrow4; clear sw4 hown4 hgrow4 hat4))
  all_goals
    go_wp2_with fail
    go_end0
    have oL : (W2.drew.alloc (.cells #[.int .i64 x.a, .int .i64 x.b, .int .i64 x.c, .int .i64 x.d, .int .i64 x.e, .int .i64 i] 161)).ownsRow base 161 6 (.slice A ds.length cap) ds.length (flat sb6 ds) := (show W2.drew.ownsRow base 161 6 (.slice A ds.length cap) ds.length (flat sb6 ds) from OW2.out).alloc _
    have nS4 := own_blk_ne HO4.out HS4.out (by decide)
    have hB : Below base w w4 := (BW2.out.drew.alloc hbW2 _).grown HG4.out (by simp; omega) (fun j hj => (OW2.out.lt j hj).1)
    have hK : Lib.OthersKept 161 (some SB) w w4 := (KW2.out.drew.alloc _).grown HG4.out (own_kind oL)
    refine ⟨rfl, ⟨.slice (some ⟨g4, 0, none⟩) (ds.length + 1) cap4, HS4.out.set_ 0 _, ?_⟩, hB.setCell (p := ⟨SB, 0, none⟩) hb _, hK.setCell ⟨SB, 0, none⟩ rfl _⟩
    rw [List.length_append, flat_snoc]
    exact owns_far HO4.out (p := ⟨SB, 0, none⟩) nS4 _
end Go.Proofs.Ytbkakiipaehleaa
