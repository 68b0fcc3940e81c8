/- hexValB2 at the digits that the encoder writes. -/
import Derived.Test.YtbjjcampiknnpaaDoorMq
namespace Go.Proofs.YtbjjcampiknnpaaDoor
open Go.RowKit
set_option maxRecDepth 100000
set_option linter.unusedVariables false
set_option linter.unusedSimpArgs false
/-- the value of a hexadecimal digit -/
def hexV (c : Nat) : Int := if 48 ≤ c ∧ c ≤ 57 then (c : Int) - 48 else if 97 ≤ c ∧ c ≤ 102 then (c : Int) - 97 + 10 else if 65 ≤ c ∧ c ≤ 70 then (c : Int) - 65 + 10 else -1
set_option maxHeartbeats 1000000 in
theorem hexVal_any (c : Nat) (w : World) (hc : c < 256) : Calls Tryd.prog 37 #[.int .u8 c] w fun e w' => e = .returned (.int .i64 (hexV c)) ∧ w = w' := by
  unfold hexV
  by_cases h1 : 48 ≤ c ∧ c ≤ 57
  · obtain ⟨a1, a2⟩ := h1
    rw [if_pos ⟨a1, a2⟩]
    go_enter Tryd.func37, Tryd.ntmps37
    go_wp2_with fail
    go_ret
    exact ⟨ret_int8 (by go_num), rfl⟩
  · rw [if_neg h1]
    by_cases h2 : 97 ≤ c ∧ c ≤ 102
    · obtain ⟨a1, a2⟩ := h2
      rw [if_pos ⟨a1, a2⟩]
      have n1 : ¬ ((c : Int) ≤ 57) := by omega
      go_enter Tryd.func37, Tryd.ntmps37
      go_wp2_with fail
      go_ret
      exact ⟨ret_int8 (by go_num), rfl⟩
    · rw [if_neg h2]
      by_cases h3 : 65 ≤ c ∧ c ≤ 70
      · obtain ⟨a1, a2⟩ := h3
        rw [if_pos ⟨a1, a2⟩]
        have n1 : ¬ ((c : Int) ≤ 57) := by omega
        have n2 : ¬ ((97 : Int) ≤ c) := by omega
        go_enter Tryd.func37, Tryd.ntmps37
        go_wp2_with fail
        go_ret
        exact ⟨ret_int8 (by go_num), rfl⟩
      · rw [if_neg h3]
        have n1 : ((48 : Int) ≤ c && (c : Int) ≤ 57) = false := by simp; omega
        go_enter Tryd.func37, Tryd.ntmps37
        go_wp2_with fail
        all_goals first
          | (go_ret; exact ⟨ret_int8 (by go_num), rfl⟩)
          | (exfalso; omega)
theorem hexV_hxd : ∀ n, n < 16 → hexV (hxd n).toNat = (n : Int) := by decide +kernel
end Go.Proofs.YtbjjcampiknnpaaDoor
