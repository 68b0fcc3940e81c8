/- The laws' own spelling of the operators, at every operator. -/
import Derived.Test.YtooalmhelfaodaaDoorCha
namespace Go.Proofs.YtooalmhelfaodaaDoor
open Go.RowKit
set_option maxRecDepth 100000
set_option linter.unusedVariables false
set_option maxHeartbeats 4000000 in
theorem spell63 (op : Nat) (h1 : 1 ≤ op) (h2 : op ≤ 24) (w : World) : Calls Tryd.prog 65 #[.int .i64 (op : Int)] w fun e w' => e = .returned (.string (opS op)) ∧ w = w' := by
  rcases (show op = 1 ∨ op = 2 ∨ op = 3 ∨ op = 4 ∨ op = 5 ∨ op = 6 ∨ op = 7 ∨ op = 8 ∨ op = 9 ∨ op = 10 ∨ op = 11 ∨ op = 12 ∨ op = 13 ∨ op = 14 ∨ op = 15 ∨ op = 16 ∨ op = 17 ∨ op = 18 ∨ op = 19 ∨ op = 20 ∨ op = 21 ∨ op = 22 ∨ op = 23 ∨ op = 24 by omega) with rfl | rfl | rfl | rfl | rfl | rfl | rfl | rfl | rfl | rfl | rfl | rfl | rfl | rfl | rfl | rfl | rfl | rfl | rfl | rfl | rfl | rfl | rfl | rfl
  all_goals
    go_enter Tryd.func65, Tryd.ntmps65
    go_wp2_with fail
    go_ret
    exact ⟨rfl, rfl⟩
end Go.Proofs.YtooalmhelfaodaaDoor
