/- The scope stack: zzMake, zzBytes. -/
import Derived.Test.YtbkakiipaehleaaStk6
namespace Go.Proofs.Ytbkakiipaehleaa
open Go.RowKit
set_option maxRecDepth 100000
set_option linter.unusedVariables false
def vInts (xs : List Int) : List Value := xs.map (Value.int .i64)
theorem vInts_at (xs : List Int) (j : Nat) (h : j < xs.length) : (vInts xs)[j]? = some (.int .i64 xs[j]) := by simp [vInts, h]
def vBs (xs : List Int) : List Value := xs.map (Value.int .u8)
theorem vBs_at (xs : List Int) (j : Nat) (h : j < xs.length) : (vBs xs)[j]? = some (.int .u8 xs[j]) := by simp [vBs, h]
def Mk (w : World) (e : Ending) (w' : World) : Prop := ∃ (x : Sc) (o : Obj), e = .returned (.agg #[.int .i64 x.a, .int .i64 x.b, .int .i64 x.c, .int .i64 x.d, .int .i64 x.e]) ∧ w' = w.alloc o
set_option maxHeartbeats 4000000 in
theorem make_any (B : Nat) (A : Option Addr) (c : Nat) (xs : List Int) (i k : Nat) (w : World) (hx : RdAt w B A (vInts xs)) (hB : B ≤ w.heap.size) (hn : xs.length ≤ 1048576) (hi : i ≤ 1048576) :
    Calls Try.prog 15 #[.slice A xs.length c, .int .i64 i, .int .i64 k] w (Mk w) := by
  by_cases h0 : 0 < xs.length
  · have hm : i % xs.length < xs.length := Nat.mod_lt _ h0
    obtain ⟨g, o, rfl, hg, c0⟩ := hx (i % xs.length) _ (vInts_at xs _ hm)
    obtain ⟨q, hq⟩ : ∃ q, Hid (q = i % xs.length) := ⟨_, Lib.hid rfl⟩
    have ht : Int.tmod (i : Int) (xs.length : Int) = (q : Int) := by rw [hq.out]; rfl
    obtain ⟨v, hv⟩ : ∃ v, Hid (xs[i % xs.length] = v) := ⟨_, Lib.hid rfl⟩
    rw [hv.out, ← hq.out] at c0
    rw [← hq.out] at hm
    have hn0 : (xs.length : Int) ≠ 0 := by omega
    clear hx hv
    have hgl : g < w.heap.size := by omega
    go_enter Try.func15, Try.ntmps15
    go_wp2_with fail
    refine bodyPost_ret (v := .agg #[.int .i64 v, .int .i64 i, .int .i64 (wrap64 (-v)), .int .i64 k, .int .i64 (bits BinOp.xor IntKind.i64 v i)]) (by simp [results, Try.results15, go_sem]) rfl ?_
    exact ⟨⟨_, _, _, _, _⟩, _, rfl, rfl⟩
  · clear hx
    go_enter Try.func15, Try.ntmps15
    go_wp2_with fail
    refine bodyPost_ret (v := .agg #[.int .i64 i, .int .i64 i, .int .i64 (-i), .int .i64 k, .int .i64 (bits BinOp.xor IntKind.i64 i i)]) (by simp [results, Try.results15, go_sem]) rfl ?_
    exact ⟨⟨_, _, _, _, _⟩, _, rfl, rfl⟩
def BoolIf (P : Prop) (w : World) (e : Ending) (w' : World) : Prop := ∃ b : Bool, e = .returned (.bool b) ∧ w = w' ∧ (b = true → P)
set_option maxHeartbeats 2000000 in
theorem zzb_lifo (A A' : Option Addr) (c c' n n' : Nat) (w : World) :
    Calls Try.prog 55 #[.slice A n c, .slice A' n' c'] w (BoolIf (n + n' ≤ 1048576) w) := by
  by_cases h0 : n ≤ 1048576
  · by_cases h1 : n' ≤ 1048576
    · by_cases h2 : n + n' ≤ 1048576
      all_goals
        go_enter Try.func55, Try.ntmps55
        go_wp2_with fail
        all_goals
          go_ret
          exact ⟨_, rfl, rfl, by first | (intro _; omega) | (intro h; cases h)⟩
    · go_enter Try.func55, Try.ntmps55
      go_wp2_with fail
      all_goals
        go_ret
        exact ⟨_, rfl, rfl, by intro h; cases h⟩
  · go_enter Try.func55, Try.ntmps55
    go_wp2_with fail
    all_goals
      go_ret
      exact ⟨_, rfl, rfl, by intro h; cases h⟩
set_option maxHeartbeats 2000000 in
theorem zzb_save (A A' : Option Addr) (c c' n n' : Nat) (w : World) :
    Calls Try.prog 12 #[.slice A n c, .slice A' n' c'] w (BoolIf (n + n' ≤ 1048576) w) := by
  by_cases h0 : n ≤ 1048576
  · by_cases h1 : n' ≤ 1048576
    · by_cases h2 : n + n' ≤ 1048576
      all_goals
        go_enter Try.func12, Try.ntmps12
        go_wp2_with fail
        all_goals
          go_ret
          exact ⟨_, rfl, rfl, by first | (intro _; omega) | (intro h; cases h)⟩
    · go_enter Try.func12, Try.ntmps12
      go_wp2_with fail
      all_goals
        go_ret
        exact ⟨_, rfl, rfl, by intro h; cases h⟩
  · go_enter Try.func12, Try.ntmps12
    go_wp2_with fail
    all_goals
      go_ret
      exact ⟨_, rfl, rfl, by intro h; cases h⟩
end Go.Proofs.Ytbkakiipaehleaa
