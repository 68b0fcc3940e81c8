/- newEnv: its stacks, and what its readers read. -/
import Derived.Test.YtbkakiipaehleaaBlk
import Derived.LaidEqlPtr
import Derived.Laws.Cover3
import Derived.WalkKit
import Derived.ProofKit
namespace Go.Proofs.Ytbkakiipaehleaa
open Go.RowKit
set_option maxRecDepth 100000
set_option linter.unusedVariables false
theorem rd_ZZenvStack (b : Nat) (v : Value) (w : World) (h : w.cell? ⟨b, 1, none⟩ = some v) : Calls Try.prog 57 #[.pointer (some ⟨b, 0, none⟩)] w fun e w' => e = .returned v ∧ w' = w := by
  go_enter Try.func57, Try.ntmps57
  go_wp2_with fail
  go_ret
  exact ⟨rfl, rfl⟩
theorem rd_ZZenvPaths (b : Nat) (v : Value) (w : World) (h : w.cell? ⟨b, 2, none⟩ = some v) : Calls Try.prog 58 #[.pointer (some ⟨b, 0, none⟩)] w fun e w' => e = .returned v ∧ w' = w := by
  go_enter Try.func58, Try.ntmps58
  go_wp2_with fail
  go_ret
  exact ⟨rfl, rfl⟩
theorem rd_ZZenvScopes (b : Nat) (v : Value) (w : World) (h : w.cell? ⟨b, 3, none⟩ = some v) : Calls Try.prog 59 #[.pointer (some ⟨b, 0, none⟩)] w fun e w' => e = .returned v ∧ w' = w := by
  go_enter Try.func59, Try.ntmps59
  go_wp2_with fail
  go_ret
  exact ⟨rfl, rfl⟩
theorem rd_ZZstackIndex (b : Nat) (v : Value) (w : World) (h : w.cell? ⟨b, 1, none⟩ = some v) : Calls Try.prog 60 #[.pointer (some ⟨b, 0, none⟩)] w fun e w' => e = .returned v ∧ w' = w := by
  go_enter Try.func60, Try.ntmps60
  go_wp2_with fail
  go_ret
  exact ⟨rfl, rfl⟩
theorem rd_ZZstackLimit (b : Nat) (v : Value) (w : World) (h : w.cell? ⟨b, 2, none⟩ = some v) : Calls Try.prog 61 #[.pointer (some ⟨b, 0, none⟩)] w fun e w' => e = .returned v ∧ w' = w := by
  go_enter Try.func61, Try.ntmps61
  go_wp2_with fail
  go_ret
  exact ⟨rfl, rfl⟩
theorem rd_ZZstackData (b : Nat) (v : Value) (w : World) (h : w.cell? ⟨b, 0, none⟩ = some v) : Calls Try.prog 62 #[.pointer (some ⟨b, 0, none⟩)] w fun e w' => e = .returned v ∧ w' = w := by
  go_enter Try.func62, Try.ntmps62
  go_wp2_with fail
  go_ret
  exact ⟨rfl, rfl⟩
theorem rd_ZZscopeStackIndex (b : Nat) (v : Value) (w : World) (h : w.cell? ⟨b, 1, none⟩ = some v) : Calls Try.prog 63 #[.pointer (some ⟨b, 0, none⟩)] w fun e w' => e = .returned v ∧ w' = w := by
  go_enter Try.func63, Try.ntmps63
  go_wp2_with fail
  go_ret
  exact ⟨rfl, rfl⟩
theorem rd_ZZscopeStackLimit (b : Nat) (v : Value) (w : World) (h : w.cell? ⟨b, 2, none⟩ = some v) : Calls Try.prog 64 #[.pointer (some ⟨b, 0, none⟩)] w fun e w' => e = .returned v ∧ w' = w := by
  go_enter Try.func64, Try.ntmps64
  go_wp2_with fail
  go_ret
  exact ⟨rfl, rfl⟩
theorem rd_ZZscopeStackData (b : Nat) (v : Value) (w : World) (h : w.cell? ⟨b, 0, none⟩ = some v) : Calls Try.prog 65 #[.pointer (some ⟨b, 0, none⟩)] w fun e w' => e = .returned v ∧ w' = w := by
  go_enter Try.func65, Try.ntmps65
  go_wp2_with fail
  go_ret
  exact ⟨rfl, rfl⟩
theorem rd_ZZenvPC (b : Nat) (v : Value) (w : World) (h : w.cell? ⟨b, 0, none⟩ = some v) : Calls Try.prog 66 #[.pointer (some ⟨b, 0, none⟩)] w fun e w' => e = .returned v ∧ w' = w := by
  go_enter Try.func66, Try.ntmps66
  go_wp2_with fail
  go_ret
  exact ⟨rfl, rfl⟩
theorem rd_ZZenvOffset (b : Nat) (v : Value) (w : World) (h : w.cell? ⟨b, 9, none⟩ = some v) : Calls Try.prog 67 #[.pointer (some ⟨b, 0, none⟩)] w fun e w' => e = .returned v ∧ w' = w := by
  go_enter Try.func67, Try.ntmps67
  go_wp2_with fail
  go_ret
  exact ⟨rfl, rfl⟩
theorem rd_ZZenvExpdepth (b : Nat) (v : Value) (w : World) (h : w.cell? ⟨b, 10, none⟩ = some v) : Calls Try.prog 68 #[.pointer (some ⟨b, 0, none⟩)] w fun e w' => e = .returned v ∧ w' = w := by
  go_enter Try.func68, Try.ntmps68
  go_wp2_with fail
  go_ret
  exact ⟨rfl, rfl⟩
theorem rd_ZZenvLabel (b : Nat) (v : Value) (w : World) (h : w.cell? ⟨b, 11, none⟩ = some v) : Calls Try.prog 69 #[.pointer (some ⟨b, 0, none⟩)] w fun e w' => e = .returned v ∧ w' = w := by
  go_enter Try.func69, Try.ntmps69
  go_wp2_with fail
  go_ret
  exact ⟨rfl, rfl⟩
theorem rd_ZZenvBacktrack (b : Nat) (v : Value) (w : World) (h : w.cell? ⟨b, 8, none⟩ = some v) : Calls Try.prog 70 #[.pointer (some ⟨b, 0, none⟩)] w fun e w' => e = .returned v ∧ w' = w := by
  go_enter Try.func70, Try.ntmps70
  go_wp2_with fail
  go_ret
  exact ⟨rfl, rfl⟩
theorem rd_ZZenvValues (b : Nat) (v : Value) (w : World) (h : w.cell? ⟨b, 4, none⟩ = some v) : Calls Try.prog 71 #[.pointer (some ⟨b, 0, none⟩)] w fun e w' => e = .returned v ∧ w' = w := by
  go_enter Try.func71, Try.ntmps71
  go_wp2_with fail
  go_ret
  exact ⟨rfl, rfl⟩
theorem rd_ZZenvCodes (b : Nat) (v : Value) (w : World) (h : w.cell? ⟨b, 5, none⟩ = some v) : Calls Try.prog 72 #[.pointer (some ⟨b, 0, none⟩)] w fun e w' => e = .returned v ∧ w' = w := by
  go_enter Try.func72, Try.ntmps72
  go_wp2_with fail
  go_ret
  exact ⟨rfl, rfl⟩
theorem rd_ZZenvCodeinfos (b : Nat) (v : Value) (w : World) (h : w.cell? ⟨b, 6, none⟩ = some v) : Calls Try.prog 73 #[.pointer (some ⟨b, 0, none⟩)] w fun e w' => e = .returned v ∧ w' = w := by
  go_enter Try.func73, Try.ntmps73
  go_wp2_with fail
  go_ret
  exact ⟨rfl, rfl⟩
theorem rd_ZZenvForks (b : Nat) (v : Value) (w : World) (h : w.cell? ⟨b, 7, none⟩ = some v) : Calls Try.prog 74 #[.pointer (some ⟨b, 0, none⟩)] w fun e w' => e = .returned v ∧ w' = w := by
  go_enter Try.func74, Try.ntmps74
  go_wp2_with fail
  go_ret
  exact ⟨rfl, rfl⟩
theorem mk_newStack (w : World) : Calls Try.prog 92 #[] w fun e w' => e = .returned (.pointer (some ⟨w.heap.size, 0, none⟩)) ∧ w' = w.alloc (.cells #[.slice none 0 0, .int .i64 (-1), .int .i64 (-1)] 146) := by
  go_enter Try.func92, Try.ntmps92
  go_wp2_with fail
  go_ret
  exact ⟨rfl, rfl⟩
theorem mk_newScopeStack (w : World) : Calls Try.prog 75 #[] w fun e w' => e = .returned (.pointer (some ⟨w.heap.size, 0, none⟩)) ∧ w' = w.alloc (.cells #[.slice none 0 0, .int .i64 (-1), .int .i64 (-1)] 148) := by
  go_enter Try.func75, Try.ntmps75
  go_wp2_with fail
  go_ret
  exact ⟨rfl, rfl⟩
/-- a new environment: the environment behind its three stacks -/
structure NewE (w : World) (e : Ending) (w' : World) : Prop where
  r : e = .returned (.pointer (some ⟨w.heap.size + 3, 0, none⟩))
  a : Blk w' w.heap.size 146 #[.slice none 0 0, .int .i64 (-1), .int .i64 (-1)]
  b : Blk w' (w.heap.size + 1) 146 #[.slice none 0 0, .int .i64 (-1), .int .i64 (-1)]
  c : Blk w' (w.heap.size + 2) 148 #[.slice none 0 0, .int .i64 (-1), .int .i64 (-1)]
  e : ∃ cs, Blk w' (w.heap.size + 3) 144 cs ∧ cs[0]? = some (.int .i64 0) ∧ cs[1]? = some (.pointer (some ⟨w.heap.size, 0, none⟩)) ∧ cs[2]? = some (.pointer (some ⟨w.heap.size + 1, 0, none⟩)) ∧ cs[3]? = some (.pointer (some ⟨w.heap.size + 2, 0, none⟩)) ∧ cs[4]? = some (.slice none 0 0) ∧ cs[5]? = some (.slice none 0 0) ∧ cs[6]? = some (.slice none 0 0) ∧ cs[7]? = some (.slice none 0 0) ∧ cs[8]? = some (.bool false) ∧ cs[9]? = some (.int .i64 0) ∧ cs[10]? = some (.int .i64 0) ∧ cs[11]? = some (.int .i64 0)
  s : w'.heap.size = w.heap.size + 4
  k : Below w.heap.size w w'
set_option maxHeartbeats 2000000 in
theorem mk_env (w : World) : Calls Try.prog 88 #[.nilIface] w (NewE w) := by
  go_enter Try.func88, Try.ntmps88
  go_wp2_with fail
  with_reducible refine (mk_newStack _).mono ?_
  rintro e1 w1 ⟨rfl, rfl⟩
  go_wp2_with fail
  with_reducible refine (mk_newStack _).mono ?_
  rintro e2 w2 ⟨rfl, rfl⟩
  go_wp2_with fail
  with_reducible refine (mk_newScopeStack _).mono ?_
  rintro e3 w3 ⟨rfl, rfl⟩
  go_wp2_with fail
  go_ret
  refine ⟨by simp, ((((Blk.new w _ _).alloc _).alloc _).alloc _), ((Blk.at_ _ _ (by simp)).alloc _).alloc _, (Blk.at_ _ _ (by simp)).alloc _, ⟨_, Blk.at_ _ _ (by simp), by simp, by simp, by simp, by simp, by simp, by simp, by simp, by simp, by simp, by simp, by simp, by simp⟩, by simp, ?_⟩
  exact ((((Below.refl _ w).alloc (Nat.le_refl _) _).alloc (by simp) _).alloc (by simp; omega) _).alloc (by simp; omega) _
theorem zz_env (w : World) : Calls Try.prog 56 #[] w (NewE w) := by
  have h := Lib.hid (mk_env w)
  go_enter Try.func56, Try.ntmps56
  go_wp2_with fail
  with_reducible refine (h.out).mono ?_
  rintro e1 w1 ⟨rfl, h1, h2, h3, h4, h5, h6⟩
  go_wp2_with fail
  go_ret
  exact ⟨rfl, h1, h2, h3, h4, h5, h6⟩
end Go.Proofs.Ytbkakiipaehleaa
