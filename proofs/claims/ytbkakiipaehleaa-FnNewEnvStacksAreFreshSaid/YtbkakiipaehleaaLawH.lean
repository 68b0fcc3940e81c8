/- The walk of FnNewEnvStacksAreFresh: true. -/
import Derived.Test.YtbkakiipaehleaaEnv
namespace Go.Proofs.Ytbkakiipaehleaa
open Go.RowKit
set_option maxRecDepth 100000
set_option linter.unusedVariables false
theorem sz_env : (Try.prog.info? 144).map (fun i => decide (i.size ≠ 0)) = some true := by kernel_rfl
theorem ne_env {w : World} {a b : Nat} {ca cb : Array Value} (ha : Blk w a 144 ca) (hb : Blk w b 144 cb) (h : a ≠ b) : (binOp .eql 66 (.pointer (some ⟨a, 0, none⟩)) (.pointer (some ⟨b, 0, none⟩))).run Try.prog w = .ok (.bool false) w := by
  obtain ⟨j, hj, hs⟩ := Option.map_eq_some_iff.1 sz_env
  exact run_eql_ptr_other w Try.underlying66 hj (of_decide_eq_true hs) (fun e => h (by injection e)) ha hb
theorem sz_stack : (Try.prog.info? 146).map (fun i => decide (i.size ≠ 0)) = some true := by kernel_rfl
theorem ne_stack {w : World} {a b : Nat} {ca cb : Array Value} (ha : Blk w a 146 ca) (hb : Blk w b 146 cb) (h : a ≠ b) : (binOp .eql 68 (.pointer (some ⟨a, 0, none⟩)) (.pointer (some ⟨b, 0, none⟩))).run Try.prog w = .ok (.bool false) w := by
  obtain ⟨j, hj, hs⟩ := Option.map_eq_some_iff.1 sz_stack
  exact run_eql_ptr_other w Try.underlying68 hj (of_decide_eq_true hs) (fun e => h (by injection e)) ha hb
theorem sz_scopes : (Try.prog.info? 148).map (fun i => decide (i.size ≠ 0)) = some true := by kernel_rfl
theorem ne_scopes {w : World} {a b : Nat} {ca cb : Array Value} (ha : Blk w a 148 ca) (hb : Blk w b 148 cb) (h : a ≠ b) : (binOp .eql 25 (.pointer (some ⟨a, 0, none⟩)) (.pointer (some ⟨b, 0, none⟩))).run Try.prog w = .ok (.bool false) w := by
  obtain ⟨j, hj, hs⟩ := Option.map_eq_some_iff.1 sz_scopes
  exact run_eql_ptr_other w Try.underlying25 hj (of_decide_eq_true hs) (fun e => h (by injection e)) ha hb
set_option maxHeartbeats 8000000 in
theorem law_fresh (w : World) : Calls Try.prog 11 #[] w fun e w' => e = .returned (.bool true) ∧ Below w.heap.size w w' := by
  have h1 := Lib.hid (zz_env w)
  go_enter Try.func11, Try.ntmps11
  go_wp2_with fail
  with_reducible refine (h1.out).mono ?_
  rintro e1 w1 ⟨rfl, a1, b1, c1, ⟨cs1, q1, f0, f1, f2, f3, f4, f5, f6, f7, f8, f9, f10, f11⟩, s1, k1⟩
  have h2 := Lib.hid (zz_env w1)
  have Q1 := Lib.hid q1
  have A1 := Lib.hid a1
  have B1 := Lib.hid b1
  have C1 := Lib.hid c1
  clear q1 a1 b1 c1 h1
  go_wp2_with fail
  with_reducible refine (h2.out).mono ?_
  rintro e2 w2 ⟨rfl, a2, b2, c2, ⟨cs2, q2, _, g1, g2, g3, _⟩, s2, k2⟩
  rw [s1] at a2 b2 c2 q2 g1 g2 g3 k2
  have q1 := Q1.out.below k2 (by omega)
  have a1 := A1.out.below k2 (by omega)
  have b1 := B1.out.below k2 (by omega)
  have c1 := C1.out.below k2 (by omega)
  have K2 := Lib.hid (k1.trans (k2.mono (by omega)))
  have n0 := ne_env q1 q2 (by omega)
  have n1 := ne_stack a1 b1 (by omega)
  have n2 := ne_stack a2 b2 (by omega)
  have n3 := ne_stack a1 a2 (by omega)
  have n4 := ne_stack a1 b2 (by omega)
  have n5 := ne_stack b1 a2 (by omega)
  have n6 := ne_stack b1 b2 (by omega)
  have n7 := ne_scopes c1 c2 (by omega)
  have r0 := (q1.cell 0).trans f0
  have r1 := (q1.cell 1).trans f1
  have r2 := (q1.cell 2).trans f2
  have r3 := (q1.cell 3).trans f3
  have r4 := (q1.cell 4).trans f4
  have r5 := (q1.cell 5).trans f5
  have r6 := (q1.cell 6).trans f6
  have r7 := (q1.cell 7).trans f7
  have r8 := (q1.cell 8).trans f8
  have r9 := (q1.cell 9).trans f9
  have r10 := (q1.cell 10).trans f10
  have r11 := (q1.cell 11).trans f11
  have t1 := (q2.cell 1).trans g1
  have t2 := (q2.cell 2).trans g2
  have t3 := (q2.cell 3).trans g3
  have a00 := Lib.hid (a1.cell 0)
  have a10 := Lib.hid (a1.cell 1)
  have a20 := Lib.hid (a1.cell 2)
  have b00 := Lib.hid (b1.cell 0)
  have b10 := Lib.hid (b1.cell 1)
  have b20 := Lib.hid (b1.cell 2)
  have c00 := Lib.hid (c1.cell 0)
  have c10 := Lib.hid (c1.cell 1)
  have c20 := Lib.hid (c1.cell 2)
  have hn72 : ∀ W : World, (binOp .neq 72 (.slice none 0 0) (.slice none 0 0)).run Try.prog W = .ok (.bool false) W := fun W => run_neq_slice_nil W _ _ none 0 0 Try.underlying72
  have hn75 : ∀ W : World, (binOp .neq 75 (.slice none 0 0) (.slice none 0 0)).run Try.prog W = .ok (.bool false) W := fun W => run_neq_slice_nil W _ _ none 0 0 Try.underlying75
  have hn79 : ∀ W : World, (binOp .neq 79 (.slice none 0 0) (.slice none 0 0)).run Try.prog W = .ok (.bool false) W := fun W => run_neq_slice_nil W _ _ none 0 0 Try.underlying79
  have hn81 : ∀ W : World, (binOp .neq 81 (.slice none 0 0) (.slice none 0 0)).run Try.prog W = .ok (.bool false) W := fun W => run_neq_slice_nil W _ _ none 0 0 Try.underlying81
  have hn83 : ∀ W : World, (binOp .neq 83 (.slice none 0 0) (.slice none 0 0)).run Try.prog W = .ok (.bool false) W := fun W => run_neq_slice_nil W _ _ none 0 0 Try.underlying83
  have hn85 : ∀ W : World, (binOp .neq 85 (.slice none 0 0) (.slice none 0 0)).run Try.prog W = .ok (.bool false) W := fun W => run_neq_slice_nil W _ _ none 0 0 Try.underlying85
  have x0 := Lib.hid (rd_ZZenvStack _ _ w2 r1)
  have x1 := Lib.hid (rd_ZZenvPaths _ _ w2 r2)
  have x2 := Lib.hid (rd_ZZenvScopes _ _ w2 r3)
  have x3 := Lib.hid (rd_ZZenvStack _ _ w2 t1)
  have x4 := Lib.hid (rd_ZZenvPaths _ _ w2 t2)
  have x5 := Lib.hid (rd_ZZenvScopes _ _ w2 t3)
  have x6 := Lib.hid (rd_ZZstackIndex _ _ w2 a10.out)
  have x7 := Lib.hid (rd_ZZstackLimit _ _ w2 a20.out)
  have x8 := Lib.hid (rd_ZZstackData _ _ w2 a00.out)
  have x9 := Lib.hid (rd_ZZstackIndex _ _ w2 b10.out)
  have x10 := Lib.hid (rd_ZZstackLimit _ _ w2 b20.out)
  have x11 := Lib.hid (rd_ZZstackData _ _ w2 b00.out)
  have x12 := Lib.hid (rd_ZZscopeStackIndex _ _ w2 c10.out)
  have x13 := Lib.hid (rd_ZZscopeStackLimit _ _ w2 c20.out)
  have x14 := Lib.hid (rd_ZZscopeStackData _ _ w2 c00.out)
  have x15 := Lib.hid (rd_ZZenvPC _ _ w2 r0)
  have x16 := Lib.hid (rd_ZZenvOffset _ _ w2 r9)
  have x17 := Lib.hid (rd_ZZenvExpdepth _ _ w2 r10)
  have x18 := Lib.hid (rd_ZZenvLabel _ _ w2 r11)
  have x19 := Lib.hid (rd_ZZenvBacktrack _ _ w2 r8)
  have x20 := Lib.hid (rd_ZZenvValues _ _ w2 r4)
  have x21 := Lib.hid (rd_ZZenvCodes _ _ w2 r5)
  have x22 := Lib.hid (rd_ZZenvCodeinfos _ _ w2 r6)
  have x23 := Lib.hid (rd_ZZenvForks _ _ w2 r7)
  clear a1 b1 c1 q1 a2 b2 c2 q2 k1 k2 f0 f1 f2 f3 f4 f5 f6 f7 f8 f9 f10 f11 g1 g2 g3 r0 r1 r2 r3 r4 r5 r6 r7 r8 r9 r10 r11 t1 t2 t3 h2
  go_wp2_with fail
  with_reducible refine (x0.out).mono ?_
  rintro e w3 ⟨rfl, rfl⟩
  go_wp2_with fail
  with_reducible refine (x1.out).mono ?_
  rintro e w3 ⟨rfl, rfl⟩
  go_wp2_with fail
  with_reducible refine (x2.out).mono ?_
  rintro e w3 ⟨rfl, rfl⟩
  go_wp2_with fail
  with_reducible refine (x3.out).mono ?_
  rintro e w3 ⟨rfl, rfl⟩
  go_wp2_with fail
  with_reducible refine (x4.out).mono ?_
  rintro e w3 ⟨rfl, rfl⟩
  go_wp2_with fail
  with_reducible refine (x5.out).mono ?_
  rintro e w3 ⟨rfl, rfl⟩
  go_wp2_with fail
  with_reducible refine (x6.out).mono ?_
  rintro e w3 ⟨rfl, rfl⟩
  go_wp2_with fail
  with_reducible refine (x7.out).mono ?_
  rintro e w3 ⟨rfl, rfl⟩
  go_wp2_with fail
  with_reducible refine (x8.out).mono ?_
  rintro e w3 ⟨rfl, rfl⟩
  go_wp2_with fail
  with_reducible refine (x9.out).mono ?_
  rintro e w3 ⟨rfl, rfl⟩
  go_wp2_with fail
  with_reducible refine (x10.out).mono ?_
  rintro e w3 ⟨rfl, rfl⟩
  go_wp2_with fail
  with_reducible refine (x11.out).mono ?_
  rintro e w3 ⟨rfl, rfl⟩
  go_wp2_with fail
  with_reducible refine (x12.out).mono ?_
  rintro e w3 ⟨rfl, rfl⟩
  go_wp2_with fail
  with_reducible refine (x13.out).mono ?_
  rintro e w3 ⟨rfl, rfl⟩
  go_wp2_with fail
  with_reducible refine (x14.out).mono ?_
  rintro e w3 ⟨rfl, rfl⟩
  go_wp2_with fail
  with_reducible refine (x15.out).mono ?_
  rintro e w3 ⟨rfl, rfl⟩
  go_wp2_with fail
  with_reducible refine (x16.out).mono ?_
  rintro e w3 ⟨rfl, rfl⟩
  go_wp2_with fail
  with_reducible refine (x17.out).mono ?_
  rintro e w3 ⟨rfl, rfl⟩
  go_wp2_with fail
  with_reducible refine (x18.out).mono ?_
  rintro e w3 ⟨rfl, rfl⟩
  go_wp2_with fail
  with_reducible refine (x19.out).mono ?_
  rintro e w3 ⟨rfl, rfl⟩
  go_wp2_with fail
  with_reducible refine (x20.out).mono ?_
  rintro e w3 ⟨rfl, rfl⟩
  go_wp2_with fail
  with_reducible refine (x21.out).mono ?_
  rintro e w3 ⟨rfl, rfl⟩
  go_wp2_with fail
  with_reducible refine (x22.out).mono ?_
  rintro e w3 ⟨rfl, rfl⟩
  go_wp2_with fail
  with_reducible refine (x23.out).mono ?_
  rintro e w3 ⟨rfl, rfl⟩
  go_wp2_with fail
  go_ret
  exact ⟨rfl, K2.out⟩
end Go.Proofs.Ytbkakiipaehleaa
