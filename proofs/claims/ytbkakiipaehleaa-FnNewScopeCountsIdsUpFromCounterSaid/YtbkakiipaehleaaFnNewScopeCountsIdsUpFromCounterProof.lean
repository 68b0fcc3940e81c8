/- Proved: FnNewScopeCountsIdsUpFromCounter returns true at every pair of ints: n calls of newScope from a counter k hand out the ids k, k+1 and so on, each an empty scope. No condition on the input. -/
import Derived.Test.YtbkakiipaehleaaRows
import Derived.WalkKit
import Derived.ProofKit
import Derived.OpenShut
import Derived.ShutString
import Derived.BigQuiet
import Derived.Deep.QuietTactic
import Derived.Lib.Hide
import Derived.Handy
import Derived.LoopTactic
import Derived.Outline
import Derived.Test.YtbkakiipaehleaaShut
namespace Go.Proofs.Ytbkakiipaehleaa.fnNewScopeCountsIdsUpFromCounter
open Go.ChangeShapes Go.WideShapes Go.ChangeAt Go.RowKit
open Go.ChangeMaps (open_string shut_string)
set_option linter.unusedVariables false      -- a walk need not use every 'w<i>' (that an integer argument fits its kind)

theorem own : ownKnob Try.prog.godebug = none := by kernel_rfl

/-! ### STEP 1: THE WALK: the Go text returns true. 'Grown w w'': the world has at most new blocks (Derived/RowKit3.lean). Part the cases AHEAD of 'go_enter' where a test parts the walk; take each callee by a contract of your own. -/
theorem walk (a0 : Int) (a1 : Int) (w0 : (Lit.int .i64 a0).wf = true) (w1 : (Lit.int .i64 a1).wf = true) (w : World) :
    Calls Try.prog 6 #[.int .i64 a0, .int .i64 a1] w fun e w' => e = .returned (.bool true) ∧ Below w.heap.size w w' := by
  by_cases hk : (0 ≤ a0 ∧ a0 ≤ 1073741824) ∧ (0 ≤ a1 ∧ a1 ≤ 65536)
  · obtain ⟨⟨k0, k1⟩, n0, n1⟩ := hk
    go_enter Try.func6, Try.ntmps6
    go_wp2
    go_loopw [6, 7] (fun t _ wr => ∃ i : Nat, t = .int .i64 i ∧ (i : Int) ≤ a1 ∧ wr.cell? ⟨w.heap.size, 9, none⟩ = some (.int .i64 (a0 + i)) ∧ wr.frozen? ⟨w.heap.size, 9, none⟩ = false ∧ w.heap.size < wr.heap.size ∧ Below w.heap.size w wr) (fun t _ _ => a1.toNat - (intOf t).toNat)
    case atStart => exact ⟨0, rfl, n0, by simp [go_sem], by simp [go_sem], by simp, (Below.refl _ _).alloc (Nat.le_refl _) _⟩
    case round =>
      obtain ⟨i, rfl, hi, h9, hf, hsz, hB⟩ := hrel
      by_cases hlt : (i : Int) < a1
      · go_wp2
        go_roundw
        case rel => exact ⟨i + 1, by go_num, by omega, by simp [go_sem, h9, hsz]; omega, by simp [go_sem, hf, hsz], by simp; omega, (hB.setCell (Nat.le_refl _) _).alloc (by simp; omega) _⟩
        case measure => simp [intOf]; omega
      · have e : (i : Int) = a1 := by omega
        have hb : (a0 + (i : Int) == a0 + a1) = true := by rw [beq_iff_eq]; omega
        clear e
        go_wp2
        go_ret
        exact ⟨rfl, hB⟩
  · go_enter Try.func6, Try.ntmps6
    go_wp2_with fail
    all_goals go_ret
    all_goals exact ⟨rfl, Below.refl _ _⟩

/-! ### THE ROW's STEP: WRITTEN OUT: LEAVE IT -/
set_option maxRecDepth 100000 in
theorem lifted (os : Os) (started : os.Started) (H : Type) (enc : TypeId × Value → H) :
    ReturnsInHanded {} Try.checked os 6 .any (Rows.fnNewScopeCountsIdsUpFromCounterSpec.pre6 enc Try.prog Try.f6 Rows.fnNewScopeCountsIdsUpFromCounterRow.domain false) (Rows.fnNewScopeCountsIdsUpFromCounterSpec.post enc Try.prog Try.f6 false true false false) := by
  refine returnsInHanded_of_change (C := Try.checked) own started (by kernel_rfl) Try.func6
    (ChangeSpec.witness6 (enc := enc) (C := Try.checked) false ⟨#[], #[.int .i64 0, .int .i64 0], []⟩ 8 (by kernel_rfl) (by kernel_rfl) (by kernel_rfl) (by kernel_rfl)) ?_
  intro W base args ds gs before hval0 hW hcnd _
  have hval : ∀ (j : Nat) t v, Try.f6.params[j]? = some t → args[j]? = some v → Value.okWide Try.prog W .any base t v := hval0
  have hW' := hW
  obtain ⟨p, q, hA0, hV, rfl, hfz, hnd⟩ := hW
  have hA : DataW.TrodAll enc Try.prog W 0 (fun _ => true) true Try.f6.params.toList args.toList ds p := hA0
  rw [Try.params6] at hA hval
  obtain ⟨v0, vs0, d0, ds0, p0, q0, hargs, rfl, rfl, h0, r0⟩ := trodAll_cons hA
  obtain ⟨v1, vs1, d1, ds1, p1, q1, rfl, rfl, rfl, h1, r1⟩ := trodAll_cons r0
  obtain ⟨rfl, rfl, rfl⟩ := trodAll_nil r1
  obtain rfl : args = #[v0, v1] := by cases args; simp_all
  obtain ⟨rfl, rfl⟩ := trodVars_none hV
  obtain ⟨a0, rfl, rfl, rfl, w0⟩ := open_int Try.underlying3 (hval 0 3 v0 rfl rfl) h0
  obtain ⟨a1, rfl, rfl, rfl, w1⟩ := open_int Try.underlying3 (hval 1 3 v1 rfl rfl) h1
  clear hA0 hval0
  simp only [List.append_nil] at hW'
  refine (walk a0 a1 w0 w1 W).mono fun e W' ⟨he, hg⟩ => ?_
  subst he
  exact ⟨_, rfl, post_of_below (pa := []) (pv := []) hW' (fun _ _ _ => (trodAll_cons_mk (shut_bool Try.underlying4 _) trodAll_mk0)) (fun sp _ => (trodAll_cons_mk (shut_int Try.underlying3 w0) (trodAll_cons_mk (shut_int Try.underlying3 w1) trodAll_mk0))) (fun _ _ => rfl) rfl
    hg (ok_one (by kernel_rfl) rfl (okWide_bool_mk Try.underlying4 _))⟩

theorem over : Rows.fnNewScopeCountsIdsUpFromCounterRow.holds Try.pinned (OpenSpec.ofChange Rows.fnNewScopeCountsIdsUpFromCounterSpec) :=
  OpenClaim.holds_of_wide 6 Try.f6 rfl rfl rfl rfl rfl rfl rfl ⟨rfl, rfl, rfl, rfl, rfl⟩ rfl rfl rfl rfl rfl (by kernel_rfl) Try.func6 (by kernel_rfl)
    (of_decide_eq_true (by kernel_rfl)) (by unfold Func.isWrapper; first | (rw [if_pos (by decide +kernel)]; kernel_rfl) | (rw [if_neg (by decide +kernel)]; exact ⟨rfl, rfl⟩))
    (fun os started H enc _ => lifted os started H enc)

/-- ████ THE STATEMENT ████ -/
theorem proved : Rows.FnNewScopeCountsIdsUpFromCounterSaid :=
  over
#print axioms proved
end Go.Proofs.Ytbkakiipaehleaa.fnNewScopeCountsIdsUpFromCounter
