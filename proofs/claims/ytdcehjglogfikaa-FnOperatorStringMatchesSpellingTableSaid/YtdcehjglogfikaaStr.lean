/- What (Operator).String returns at each declared operator (1 to 24), as a table of byte strings. -/
import Derived.Test.YtdcehjglogfikaaRows
import Derived.WalkKit
import Derived.ProofKit
import Derived.Test.YtdcehjglogfikaaAid
namespace Go.Proofs.Ytdcehjglogfikaa
open Go.ChangeShapes Go.WideShapes Go.ChangeAt Go.RowKit
def spell : Nat → List UInt8
  | 1 => [124]
  | 2 => [44]
  | 3 => [43]
  | 4 => [45]
  | 5 => [42]
  | 6 => [47]
  | 7 => [37]
  | 8 => [61, 61]
  | 9 => [33, 61]
  | 10 => [62]
  | 11 => [60]
  | 12 => [62, 61]
  | 13 => [60, 61]
  | 14 => [97, 110, 100]
  | 15 => [111, 114]
  | 16 => [47, 47]
  | 17 => [61]
  | 18 => [124, 61]
  | 19 => [43, 61]
  | 20 => [45, 61]
  | 21 => [42, 61]
  | 22 => [47, 61]
  | 23 => [37, 61]
  | 24 => [47, 47, 61]
  | _ => []
theorem cases24 {P : Int → Prop} (k : Int) (h1 : 1 ≤ k) (h2 : k ≤ 24)
    (hp : P 1 ∧ P 2 ∧ P 3 ∧ P 4 ∧ P 5 ∧ P 6 ∧ P 7 ∧ P 8 ∧ P 9 ∧ P 10 ∧ P 11 ∧ P 12 ∧ P 13 ∧ P 14 ∧ P 15 ∧ P 16 ∧ P 17 ∧ P 18 ∧ P 19 ∧ P 20 ∧ P 21 ∧ P 22 ∧ P 23 ∧ P 24) : P k := by
  obtain ⟨p1, p2, p3, p4, p5, p6, p7, p8, p9, p10, p11, p12, p13, p14, p15, p16, p17, p18, p19, p20, p21, p22, p23, p24⟩ := hp
  have : k = 1 ∨ k = 2 ∨ k = 3 ∨ k = 4 ∨ k = 5 ∨ k = 6 ∨ k = 7 ∨ k = 8 ∨ k = 9 ∨ k = 10 ∨ k = 11 ∨ k = 12 ∨ k = 13 ∨ k = 14 ∨ k = 15 ∨ k = 16 ∨ k = 17 ∨ k = 18 ∨ k = 19 ∨ k = 20 ∨ k = 21 ∨ k = 22 ∨ k = 23 ∨ k = 24 := by omega
  rcases this with rfl | rfl | rfl | rfl | rfl | rfl | rfl | rfl | rfl | rfl | rfl | rfl | rfl | rfl | rfl | rfl | rfl | rfl | rfl | rfl | rfl | rfl | rfl | rfl
  all_goals assumption
set_option maxHeartbeats 1000000 in
theorem str_any (k : Int) (w : World) (h1 : 1 ≤ k) (h2 : k ≤ 24) :
    Calls Try.prog 10 #[.int .i64 k] w fun e w' => e = .returned (.string ⟨(spell k.toNat).toArray⟩) ∧ w = w' := by
  have : k = 1 ∨ k = 2 ∨ k = 3 ∨ k = 4 ∨ k = 5 ∨ k = 6 ∨ k = 7 ∨ k = 8 ∨ k = 9 ∨ k = 10 ∨ k = 11 ∨ k = 12 ∨ k = 13 ∨ k = 14 ∨ k = 15 ∨ k = 16 ∨ k = 17 ∨ k = 18 ∨ k = 19 ∨ k = 20 ∨ k = 21 ∨ k = 22 ∨ k = 23 ∨ k = 24 := by omega
  rcases this with rfl | rfl | rfl | rfl | rfl | rfl | rfl | rfl | rfl | rfl | rfl | rfl | rfl | rfl | rfl | rfl | rfl | rfl | rfl | rfl | rfl | rfl | rfl | rfl
  all_goals clear h1 h2
  all_goals
    go_enter Try.func10, Try.ntmps10
    go_wp2
    go_ret
    exact ⟨rfl, rfl⟩
end Go.Proofs.Ytdcehjglogfikaa
