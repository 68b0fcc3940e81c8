/- The bounds on total length, laid by program: what they answer. -/
import Derived.Test.YtaeficfjocinaaaRow
namespace Go.Proofs.Ytaeficfjocinaaa
open Go.RowKit
set_option maxRecDepth 100000
set_option linter.unusedVariables false
set_option maxHeartbeats 4000000 in
theorem zzb_FnAppendsExtendsInOrder (A0 A1 A2 A3 : Option Addr) (n0 n1 n2 n3 c0 c1 c2 c3 : Nat)  (w : World) :
    Calls Try.prog 32 #[.slice A0 n0 c0, .slice A1 n1 c1, .slice A2 n2 c2, .slice A3 n3 c3] w (BoolIf (n0 + n1 + n2 + n3 ≤ 1048576) w) := by
  by_cases h0 : n0 ≤ 1048576
  · by_cases h1 : n1 ≤ 1048576
    · by_cases h2 : n0 + n1 ≤ 1048576
      · by_cases h3 : n2 ≤ 1048576
        · by_cases h4 : n0 + n1 + n2 ≤ 1048576
          · by_cases h5 : n3 ≤ 1048576
            · by_cases h6 : n0 + n1 + n2 + n3 ≤ 1048576
              · go_enter Try.func32, Try.ntmps32
                go_wp2_with fail
                all_goals
                  go_ret
                  exact ⟨_, rfl, rfl, by first | (intro _; omega) | (intro h; cases h)⟩
              · go_enter Try.func32, Try.ntmps32
                go_wp2_with fail
                all_goals
                  go_ret
                  exact ⟨_, rfl, rfl, by first | (intro _; omega) | (intro h; cases h)⟩
            · go_enter Try.func32, Try.ntmps32
              go_wp2_with fail
              all_goals
                go_ret
                exact ⟨_, rfl, rfl, by first | (intro _; omega) | (intro h; cases h)⟩
          · go_enter Try.func32, Try.ntmps32
            go_wp2_with fail
            all_goals
              go_ret
              exact ⟨_, rfl, rfl, by first | (intro _; omega) | (intro h; cases h)⟩
        · go_enter Try.func32, Try.ntmps32
          go_wp2_with fail
          all_goals
            go_ret
            exact ⟨_, rfl, rfl, by first | (intro _; omega) | (intro h; cases h)⟩
      · go_enter Try.func32, Try.ntmps32
        go_wp2_with fail
        all_goals
          go_ret
          exact ⟨_, rfl, rfl, by first | (intro _; omega) | (intro h; cases h)⟩
    · go_enter Try.func32, Try.ntmps32
      go_wp2_with fail
      all_goals
        go_ret
        exact ⟨_, rfl, rfl, by first | (intro _; omega) | (intro h; cases h)⟩
  · go_enter Try.func32, Try.ntmps32
    go_wp2_with fail
    all_goals
      go_ret
      exact ⟨_, rfl, rfl, by first | (intro _; omega) | (intro h; cases h)⟩
set_option maxHeartbeats 4000000 in
theorem zzb_FnLazyReservesThenPatches (A0 A1 A2 A3 : Option Addr) (n0 n1 n2 n3 c0 c1 c2 c3 : Nat) (op : Int) (w : World) :
    Calls Try.prog 35 #[.slice A0 n0 c0, .slice A1 n1 c1, .slice A2 n2 c2, .slice A3 n3 c3, .int .i64 op] w (BoolIf (n0 + n1 + n2 + n3 ≤ 1048576) w) := by
  by_cases h0 : n0 ≤ 1048576
  · by_cases h1 : n1 ≤ 1048576
    · by_cases h2 : n0 + n1 ≤ 1048576
      · by_cases h3 : n2 ≤ 1048576
        · by_cases h4 : n0 + n1 + n2 ≤ 1048576
          · by_cases h5 : n3 ≤ 1048576
            · by_cases h6 : n0 + n1 + n2 + n3 ≤ 1048576
              · go_enter Try.func35, Try.ntmps35
                go_wp2_with fail
                all_goals
                  go_ret
                  exact ⟨_, rfl, rfl, by first | (intro _; omega) | (intro h; cases h)⟩
              · go_enter Try.func35, Try.ntmps35
                go_wp2_with fail
                all_goals
                  go_ret
                  exact ⟨_, rfl, rfl, by first | (intro _; omega) | (intro h; cases h)⟩
            · go_enter Try.func35, Try.ntmps35
              go_wp2_with fail
              all_goals
                go_ret
                exact ⟨_, rfl, rfl, by first | (intro _; omega) | (intro h; cases h)⟩
          · go_enter Try.func35, Try.ntmps35
            go_wp2_with fail
            all_goals
              go_ret
              exact ⟨_, rfl, rfl, by first | (intro _; omega) | (intro h; cases h)⟩
        · go_enter Try.func35, Try.ntmps35
          go_wp2_with fail
          all_goals
            go_ret
            exact ⟨_, rfl, rfl, by first | (intro _; omega) | (intro h; cases h)⟩
      · go_enter Try.func35, Try.ntmps35
        go_wp2_with fail
        all_goals
          go_ret
          exact ⟨_, rfl, rfl, by first | (intro _; omega) | (intro h; cases h)⟩
    · go_enter Try.func35, Try.ntmps35
      go_wp2_with fail
      all_goals
        go_ret
        exact ⟨_, rfl, rfl, by first | (intro _; omega) | (intro h; cases h)⟩
  · go_enter Try.func35, Try.ntmps35
    go_wp2_with fail
    all_goals
      go_ret
      exact ⟨_, rfl, rfl, by first | (intro _; omega) | (intro h; cases h)⟩
set_option maxHeartbeats 4000000 in
theorem zzb_FnLazyFiringOrderFree (A0 A1 A2 A3 : Option Addr) (n0 n1 n2 n3 c0 c1 c2 c3 : Nat) (a b : Int) (f : Bool) (w : World) :
    Calls Try.prog 41 #[.slice A0 n0 c0, .slice A1 n1 c1, .int .i64 a, .slice A2 n2 c2, .slice A3 n3 c3, .int .i64 b, .bool f] w (BoolIf (n0 + n1 + n2 + n3 ≤ 1048576) w) := by
  by_cases h0 : n0 ≤ 1048576
  · by_cases h1 : n1 ≤ 1048576
    · by_cases h2 : n0 + n1 ≤ 1048576
      · by_cases h3 : n2 ≤ 1048576
        · by_cases h4 : n0 + n1 + n2 ≤ 1048576
          · by_cases h5 : n3 ≤ 1048576
            · by_cases h6 : n0 + n1 + n2 + n3 ≤ 1048576
              · go_enter Try.func41, Try.ntmps41
                go_wp2_with fail
                all_goals
                  go_ret
                  exact ⟨_, rfl, rfl, by first | (intro _; omega) | (intro h; cases h)⟩
              · go_enter Try.func41, Try.ntmps41
                go_wp2_with fail
                all_goals
                  go_ret
                  exact ⟨_, rfl, rfl, by first | (intro _; omega) | (intro h; cases h)⟩
            · go_enter Try.func41, Try.ntmps41
              go_wp2_with fail
              all_goals
                go_ret
                exact ⟨_, rfl, rfl, by first | (intro _; omega) | (intro h; cases h)⟩
          · go_enter Try.func41, Try.ntmps41
            go_wp2_with fail
            all_goals
              go_ret
              exact ⟨_, rfl, rfl, by first | (intro _; omega) | (intro h; cases h)⟩
        · go_enter Try.func41, Try.ntmps41
          go_wp2_with fail
          all_goals
            go_ret
            exact ⟨_, rfl, rfl, by first | (intro _; omega) | (intro h; cases h)⟩
      · go_enter Try.func41, Try.ntmps41
        go_wp2_with fail
        all_goals
          go_ret
          exact ⟨_, rfl, rfl, by first | (intro _; omega) | (intro h; cases h)⟩
    · go_enter Try.func41, Try.ntmps41
      go_wp2_with fail
      all_goals
        go_ret
        exact ⟨_, rfl, rfl, by first | (intro _; omega) | (intro h; cases h)⟩
  · go_enter Try.func41, Try.ntmps41
    go_wp2_with fail
    all_goals
      go_ret
      exact ⟨_, rfl, rfl, by first | (intro _; omega) | (intro h; cases h)⟩
set_option maxHeartbeats 4000000 in
theorem zzb_FnTailRecModel (A0 A1 A2 A3 : Option Addr) (n0 n1 n2 n3 c0 c1 c2 c3 : Nat)  (w : World) :
    Calls Try.prog 10 #[.slice A0 n0 c0, .slice A1 n1 c1, .slice A2 n2 c2, .slice A3 n3 c3] w (BoolIf (n0 + n1 + n2 + n3 ≤ 1048576) w) := by
  by_cases h0 : n0 ≤ 1048576
  · by_cases h1 : n1 ≤ 1048576
    · by_cases h2 : n0 + n1 ≤ 1048576
      · by_cases h3 : n2 ≤ 1048576
        · by_cases h4 : n0 + n1 + n2 ≤ 1048576
          · by_cases h5 : n3 ≤ 1048576
            · by_cases h6 : n0 + n1 + n2 + n3 ≤ 1048576
              · go_enter Try.func10, Try.ntmps10
                go_wp2_with fail
                all_goals
                  go_ret
                  exact ⟨_, rfl, rfl, by first | (intro _; omega) | (intro h; cases h)⟩
              · go_enter Try.func10, Try.ntmps10
                go_wp2_with fail
                all_goals
                  go_ret
                  exact ⟨_, rfl, rfl, by first | (intro _; omega) | (intro h; cases h)⟩
            · go_enter Try.func10, Try.ntmps10
              go_wp2_with fail
              all_goals
                go_ret
                exact ⟨_, rfl, rfl, by first | (intro _; omega) | (intro h; cases h)⟩
          · go_enter Try.func10, Try.ntmps10
            go_wp2_with fail
            all_goals
              go_ret
              exact ⟨_, rfl, rfl, by first | (intro _; omega) | (intro h; cases h)⟩
        · go_enter Try.func10, Try.ntmps10
          go_wp2_with fail
          all_goals
            go_ret
            exact ⟨_, rfl, rfl, by first | (intro _; omega) | (intro h; cases h)⟩
      · go_enter Try.func10, Try.ntmps10
        go_wp2_with fail
        all_goals
          go_ret
          exact ⟨_, rfl, rfl, by first | (intro _; omega) | (intro h; cases h)⟩
    · go_enter Try.func10, Try.ntmps10
      go_wp2_with fail
      all_goals
        go_ret
        exact ⟨_, rfl, rfl, by first | (intro _; omega) | (intro h; cases h)⟩
  · go_enter Try.func10, Try.ntmps10
    go_wp2_with fail
    all_goals
      go_ret
      exact ⟨_, rfl, rfl, by first | (intro _; omega) | (intro h; cases h)⟩
set_option maxHeartbeats 4000000 in
theorem zzb_FnTailRecRewritesOnlySelfCalls (A0 A1 A2 A3 : Option Addr) (n0 n1 n2 n3 c0 c1 c2 c3 : Nat)  (w : World) :
    Calls Try.prog 22 #[.slice A0 n0 c0, .slice A1 n1 c1, .slice A2 n2 c2, .slice A3 n3 c3] w (BoolIf (n0 + n1 + n2 + n3 ≤ 1048576) w) := by
  by_cases h0 : n0 ≤ 1048576
  · by_cases h1 : n1 ≤ 1048576
    · by_cases h2 : n0 + n1 ≤ 1048576
      · by_cases h3 : n2 ≤ 1048576
        · by_cases h4 : n0 + n1 + n2 ≤ 1048576
          · by_cases h5 : n3 ≤ 1048576
            · by_cases h6 : n0 + n1 + n2 + n3 ≤ 1048576
              · go_enter Try.func22, Try.ntmps22
                go_wp2_with fail
                all_goals
                  go_ret
                  exact ⟨_, rfl, rfl, by first | (intro _; omega) | (intro h; cases h)⟩
              · go_enter Try.func22, Try.ntmps22
                go_wp2_with fail
                all_goals
                  go_ret
                  exact ⟨_, rfl, rfl, by first | (intro _; omega) | (intro h; cases h)⟩
            · go_enter Try.func22, Try.ntmps22
              go_wp2_with fail
              all_goals
                go_ret
                exact ⟨_, rfl, rfl, by first | (intro _; omega) | (intro h; cases h)⟩
          · go_enter Try.func22, Try.ntmps22
            go_wp2_with fail
            all_goals
              go_ret
              exact ⟨_, rfl, rfl, by first | (intro _; omega) | (intro h; cases h)⟩
        · go_enter Try.func22, Try.ntmps22
          go_wp2_with fail
          all_goals
            go_ret
            exact ⟨_, rfl, rfl, by first | (intro _; omega) | (intro h; cases h)⟩
      · go_enter Try.func22, Try.ntmps22
        go_wp2_with fail
        all_goals
          go_ret
          exact ⟨_, rfl, rfl, by first | (intro _; omega) | (intro h; cases h)⟩
    · go_enter Try.func22, Try.ntmps22
      go_wp2_with fail
      all_goals
        go_ret
        exact ⟨_, rfl, rfl, by first | (intro _; omega) | (intro h; cases h)⟩
  · go_enter Try.func22, Try.ntmps22
    go_wp2_with fail
    all_goals
      go_ret
      exact ⟨_, rfl, rfl, by first | (intro _; omega) | (intro h; cases h)⟩
set_option maxHeartbeats 4000000 in
theorem zzb_FnCodeOpsModel (A0 A1 : Option Addr) (n0 n1 c0 c1 : Nat)  (w : World) :
    Calls Try.prog 26 #[.slice A0 n0 c0, .slice A1 n1 c1] w (BoolIf (n0 + n1 ≤ 1048576) w) := by
  by_cases h0 : n0 ≤ 1048576
  · by_cases h1 : n1 ≤ 1048576
    · by_cases h2 : n0 + n1 ≤ 1048576
      · go_enter Try.func26, Try.ntmps26
        go_wp2_with fail
        all_goals
          go_ret
          exact ⟨_, rfl, rfl, by first | (intro _; omega) | (intro h; cases h)⟩
      · go_enter Try.func26, Try.ntmps26
        go_wp2_with fail
        all_goals
          go_ret
          exact ⟨_, rfl, rfl, by first | (intro _; omega) | (intro h; cases h)⟩
    · go_enter Try.func26, Try.ntmps26
      go_wp2_with fail
      all_goals
        go_ret
        exact ⟨_, rfl, rfl, by first | (intro _; omega) | (intro h; cases h)⟩
  · go_enter Try.func26, Try.ntmps26
    go_wp2_with fail
    all_goals
      go_ret
      exact ⟨_, rfl, rfl, by first | (intro _; omega) | (intro h; cases h)⟩
set_option maxHeartbeats 4000000 in
theorem zzb_FnCodeOpsJumpsNeverLandOnJumps (A0 A1 : Option Addr) (n0 n1 c0 c1 : Nat)  (w : World) :
    Calls Try.prog 38 #[.slice A0 n0 c0, .slice A1 n1 c1] w (BoolIf (n0 + n1 ≤ 1048576) w) := by
  by_cases h0 : n0 ≤ 1048576
  · by_cases h1 : n1 ≤ 1048576
    · by_cases h2 : n0 + n1 ≤ 1048576
      · go_enter Try.func38, Try.ntmps38
        go_wp2_with fail
        all_goals
          go_ret
          exact ⟨_, rfl, rfl, by first | (intro _; omega) | (intro h; cases h)⟩
      · go_enter Try.func38, Try.ntmps38
        go_wp2_with fail
        all_goals
          go_ret
          exact ⟨_, rfl, rfl, by first | (intro _; omega) | (intro h; cases h)⟩
    · go_enter Try.func38, Try.ntmps38
      go_wp2_with fail
      all_goals
        go_ret
        exact ⟨_, rfl, rfl, by first | (intro _; omega) | (intro h; cases h)⟩
  · go_enter Try.func38, Try.ntmps38
    go_wp2_with fail
    all_goals
      go_ret
      exact ⟨_, rfl, rfl, by first | (intro _; omega) | (intro h; cases h)⟩
end Go.Proofs.Ytaeficfjocinaaa
