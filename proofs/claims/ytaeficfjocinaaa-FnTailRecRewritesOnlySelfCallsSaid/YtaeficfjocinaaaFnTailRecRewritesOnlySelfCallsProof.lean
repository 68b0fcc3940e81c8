/- FnTailRecRewritesOnlySelfCalls: true at every four lists: only calls of the enclosing scope turn. -/
import Derived.Test.YtaeficfjocinaaaOpenR
import Derived.Test.YtaeficfjocinaaaLawTr2
namespace Go.Proofs.Ytaeficfjocinaaa.fnTailRecRewritesOnlySelfCalls
open Go.ChangeShapes Go.WideShapes Go.ChangeAt Go.RowKit
open Go.ChangeMaps (open_string shut_string)
set_option linter.unusedVariables false
set_option maxRecDepth 100000 in
theorem lifted (os : Os) (started : os.Started) (H : Type) (enc : TypeId × Value → H) :
    ReturnsInHanded {} Try.checked os 4 .any (Rows.fnTailRecRewritesOnlySelfCallsSpec.pre6 enc Try.prog Try.f4 Rows.fnTailRecRewritesOnlySelfCallsRow.domain false) (Rows.fnTailRecRewritesOnlySelfCallsSpec.post enc Try.prog Try.f4 false true false false) := by
  refine returnsInHanded_of_change (C := Try.checked) own started (by kernel_rfl) Try.func4
    (ChangeSpec.witness6 (enc := enc) (C := Try.checked) false ⟨#[], #[.slice none 0 0, .slice none 0 0, .slice none 0 0, .slice none 0 0], []⟩ 8 (by kernel_rfl) (by kernel_rfl) (by kernel_rfl) (by kernel_rfl)) ?_
  intro W base args ds gs before hval0 hW hcnd _
  have hval : ∀ (j : Nat) t v, Try.f4.params[j]? = some t → args[j]? = some v → Value.okWide Try.prog W .any base t v := hval0
  have hW' := hW
  obtain ⟨p, q, hA0, hV, rfl, hfz, hnd⟩ := hW
  have hA : DataW.TrodAll enc Try.prog W 0 (fun _ => true) true Try.f4.params.toList args.toList ds p := hA0
  rw [Try.params4] at hA hval
  obtain ⟨v0, vs0, d0, ds0, p0, q0, hargs, rfl, rfl, h0, r0⟩ := trodAll_cons hA
  obtain ⟨v1, vs1, d1, ds1, p1, q1, rfl, rfl, rfl, h1, r1⟩ := trodAll_cons r0
  obtain ⟨v2, vs2, d2, ds2, p2, q2, rfl, rfl, rfl, h2, r2⟩ := trodAll_cons r1
  obtain ⟨v3, vs3, d3, ds3, p3, q3, rfl, rfl, rfl, h3, r3⟩ := trodAll_cons r2
  obtain ⟨rfl, rfl, rfl⟩ := trodAll_nil r3
  obtain rfl : args = #[v0, v1, v2, v3] := by cases args; simp_all
  obtain ⟨rfl, rfl⟩ := trodVars_none hV
  have g0 := h0
  have lt0 : ∀ x ∈ p0, x.block < W.heap.size := by obtain ⟨m, hm⟩ := g0; exact DataW.trod_lt m _ _ _ hm
  have g1 := h1
  have lt1 : ∀ x ∈ p1, x.block < W.heap.size := by obtain ⟨m, hm⟩ := g1; exact DataW.trod_lt m _ _ _ hm
  have g2 := h2
  have lt2 : ∀ x ∈ p2, x.block < W.heap.size := by obtain ⟨m, hm⟩ := g2; exact DataW.trod_lt m _ _ _ hm
  have g3 := h3
  have lt3 : ∀ x ∈ p3, x.block < W.heap.size := by obtain ⟨m, hm⟩ := g3; exact DataW.trod_lt m _ _ _ hm
  obtain ⟨A0, c0, xs0, rfl, hin0, hwf0⟩ := open_intsR Try.underlying22 Try.underlying3 (by kernel_rfl) (hval 0 22 v0 rfl rfl) h0
  obtain ⟨A1, c1, xs1, rfl, hin1, hwf1⟩ := open_intsR Try.underlying22 Try.underlying3 (by kernel_rfl) (hval 1 22 v1 rfl rfl) h1
  obtain ⟨A2, c2, xs2, rfl, hin2, hwf2⟩ := open_intsR Try.underlying22 Try.underlying3 (by kernel_rfl) (hval 2 22 v2 rfl rfl) h2
  obtain ⟨A3, c3, xs3, rfl, hin3, hwf3⟩ := open_intsR Try.underlying22 Try.underlying3 (by kernel_rfl) (hval 3 22 v3 rfl rfl) h3
  clear hA0 hval0
  refine (law_tr2 A0 A1 A2 A3 c0 c1 c2 c3 xs0 xs1 xs2 xs3 W (rdin_nil hin0) (rdin_nil hin1) (rdin_nil hin2) (rdin_nil hin3) hin0.2.1 hin1.2.1 hin2.2.1 hin3.2.1).mono fun e W' ⟨he, bel⟩ => ?_
  subst he
  exact ⟨_, rfl, _, _, _, [], _, [], hW', trodAll_mk1 (shut_bool Try.underlying4 _), (trodAll_cons_mk (Below.trod laidOut (by kernel_rfl) (of_decide_eq_true (by kernel_rfl)) g0 bel lt0) (trodAll_cons_mk (Below.trod laidOut (by kernel_rfl) (of_decide_eq_true (by kernel_rfl)) g1 bel lt1) (trodAll_cons_mk (Below.trod laidOut (by kernel_rfl) (of_decide_eq_true (by kernel_rfl)) g2 bel lt2) (trodAll_cons_mk (Below.trod laidOut (by kernel_rfl) (of_decide_eq_true (by kernel_rfl)) g3 bel lt3) trodAll_mk0)))), rfl, bel.frame _, fun h => by cases h⟩
theorem over : Rows.fnTailRecRewritesOnlySelfCallsRow.holds Try.pinned (OpenSpec.ofChange Rows.fnTailRecRewritesOnlySelfCallsSpec) :=
  OpenClaim.holds_of_wide 4 Try.f4 rfl rfl rfl rfl rfl rfl rfl ⟨rfl, rfl, rfl, rfl, rfl⟩ rfl rfl rfl rfl rfl (by kernel_rfl) Try.func4 (by kernel_rfl)
    (of_decide_eq_true (by kernel_rfl)) (by unfold Func.isWrapper; first | (rw [if_pos (by decide +kernel)]; kernel_rfl) | (rw [if_neg (by decide +kernel)]; exact ⟨rfl, rfl⟩))
    (fun os started H enc _ => lifted os started H enc)
theorem proved : Rows.FnTailRecRewritesOnlySelfCallsSaid := over
#print axioms proved
end Go.Proofs.Ytaeficfjocinaaa.fnTailRecRewritesOnlySelfCalls
