/- FnNewScopeDepthForgetsInnerNames holds of the given program: at every list of operations the call returns true and changes nothing that came in. Conditions: none. -/
import Derived.Test.YtbkakiipaehleaaOpenR
import Derived.Test.YtbkakiipaehleaaFd
import Derived.Test.YtbkakiipaehleaaFo
namespace Go.Proofs.Ytbkakiipaehleaa.fnNewScopeDepthForgetsInnerNames
open Go.ChangeShapes Go.WideShapes Go.ChangeAt Go.RowKit
open Go.ChangeMaps (open_string shut_string)
set_option linter.unusedVariables false
set_option maxRecDepth 100000 in
theorem lifted (os : Os) (started : os.Started) (H : Type) (enc : TypeId × Value → H) :
    ReturnsInHanded {} Try.checked os 9 .any (Rows.fnNewScopeDepthForgetsInnerNamesSpec.pre6 enc Try.prog Try.f9 Rows.fnNewScopeDepthForgetsInnerNamesRow.domain false) (Rows.fnNewScopeDepthForgetsInnerNamesSpec.post enc Try.prog Try.f9 false true false false) := by
  refine returnsInHanded_of_change (C := Try.checked) own started (by kernel_rfl) Try.func9
    (ChangeSpec.witness6 (enc := enc) (C := Try.checked) false ⟨#[], #[.slice none 0 0], []⟩ 8 (by kernel_rfl) (by kernel_rfl) (by kernel_rfl) (by kernel_rfl)) ?_
  intro W base args ds gs before hval0 hW hcnd _
  have hval : ∀ (j : Nat) t v, Try.f9.params[j]? = some t → args[j]? = some v → Value.okWide Try.prog W .any base t v := hval0
  have hW' := hW
  obtain ⟨p, q, hA0, hV, rfl, hfz, hnd⟩ := hW
  have hA : DataW.TrodAll enc Try.prog W 0 (fun _ => true) true Try.f9.params.toList args.toList ds p := hA0
  rw [Try.params9] at hA hval
  obtain ⟨v0, vs0, d0, ds0, p0, q0, hargs, rfl, rfl, h0, r0⟩ := trodAll_cons hA
  obtain ⟨rfl, rfl, rfl⟩ := trodAll_nil r0
  obtain rfl : args = #[v0] := by cases args; simp_all
  obtain ⟨rfl, rfl⟩ := trodVars_none hV
  have g0 := h0
  have lt0 : ∀ x ∈ p0, x.block < W.heap.size := by obtain ⟨m, hm⟩ := g0; exact DataW.trod_lt m _ _ _ hm
  obtain ⟨A0, c0, xs0, rfl, hin0, hwf0⟩ := open_u8s (hval 0 22 v0 rfl rfl) h0
  clear hA0 hval0
  refine (law_forgets A0 c0 xs0 W (fun h => ⟨(hin0.1 h).1, by have := (hin0.1 h).2; simpa [u8s] using this⟩) hin0.2.1 hwf0 (by have := hin0.2.2; rwa [u8s_len] at this)).mono fun e W' ⟨he, bel⟩ => ?_
  subst he
  exact ⟨_, rfl, _, _, _, [], _, [], hW', trodAll_mk1 (shut_bool Try.underlying4 _), (trodAll_cons_mk (Below.trod laidOut (by kernel_rfl) (of_decide_eq_true (by kernel_rfl)) g0 bel lt0) trodAll_mk0), rfl, bel.frame _, fun h => by cases h⟩
theorem over : Rows.fnNewScopeDepthForgetsInnerNamesRow.holds Try.pinned (OpenSpec.ofChange Rows.fnNewScopeDepthForgetsInnerNamesSpec) :=
  OpenClaim.holds_of_wide 9 Try.f9 rfl rfl rfl rfl rfl rfl rfl ⟨rfl, rfl, rfl, rfl, rfl⟩ rfl rfl rfl rfl rfl (by kernel_rfl) Try.func9 (by kernel_rfl)
    (of_decide_eq_true (by kernel_rfl)) (by unfold Func.isWrapper; first | (rw [if_pos (by decide +kernel)]; kernel_rfl) | (rw [if_neg (by decide +kernel)]; exact ⟨rfl, rfl⟩))
    (fun os started H enc _ => lifted os started H enc)
theorem proved : Rows.FnNewScopeDepthForgetsInnerNamesSaid := over
#print axioms proved
end Go.Proofs.Ytbkakiipaehleaa.fnNewScopeDepthForgetsInnerNames
