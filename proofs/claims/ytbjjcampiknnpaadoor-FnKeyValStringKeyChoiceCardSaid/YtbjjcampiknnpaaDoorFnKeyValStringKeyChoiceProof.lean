/- FnKeyValStringKeyChoice holds of the given program: at every key, every two string keys and every tree the call returns true and changes nothing that came in. Conditions: none beside the row of the seat (the listed variables as their initialisers lay them). -/
import Derived.Test.YtbjjcampiknnpaaDoorFnKeyValStringKeyChoiceFacts
import Derived.Test.YtbjjcampiknnpaaDoorOpenT
import Derived.Test.YtbjjcampiknnpaaDoorOpenN
import Derived.Test.YtbjjcampiknnpaaDoorLawX
namespace Go.Proofs.YtbjjcampiknnpaaDoor.fnKeyValStringKeyChoice
open Go.ChangeShapes Go.WideShapes Go.ChangeAt Go.RowKit Go.Joins Go.Deep
open Go.ChangeMaps (open_string shut_string)
set_option linter.unusedVariables false
set_option maxRecDepth 100000 in
theorem lifted (os : Os) (started : os.Started) (H : Type) (enc : TypeId × Value → H) :
    ReturnsInHanded {} Tryd.checked os 7 .any (fun w args => (Rows.fnKeyValStringKeyChoiceSpec.pre enc Tryd.prog Tryd.f7 [] false w args ∧ laidMetH Tryd.prog laidL w) ∧ sizedMet enc Tryd.prog Tryd.f7 (OpenSpec.ofChange Rows.fnKeyValStringKeyChoiceSpec) false w args)
      (Rows.fnKeyValStringKeyChoiceSpec.post enc Tryd.prog Tryd.f7 false true false false) := by
  refine returnsInHanded_of_change_and (C := Tryd.checked) (X := fun w _ => laidMetH Tryd.prog laidL w) (fun _ _ _ hh h => h.of_heap hh) own started (by kernel_rfl) Tryd.func7
    (ChangeSpec.witness_shaped (enc := enc) (C := Tryd.checked) (os := os) (X := fun w _ => laidMetH Tryd.prog laidL w) false (World.laidAll Tryd.prog os laidL) #[.string ⟨#[]⟩, .string ⟨#[]⟩, .string ⟨#[]⟩, .agg #[.int .u8 0, .string ⟨#[]⟩, .string ⟨#[]⟩, .slice none 0 0]] 8 (World.laidAll_os _ _ _)
      (door_shape os) (by kernel_rfl) (by kernel_rfl) (by kernel_rfl) (door_met os _)) ?_
  intro W base args ds gs before hval0 hW _ hsz hL hsized
  have hval : ∀ (j : Nat) t v, Tryd.f7.params[j]? = some t → args[j]? = some v → Value.okWide Tryd.prog W .any base t v := hval0
  have hW' := hW
  obtain ⟨p, q, hA0, hV, rfl, hfz, hnd⟩ := hW
  have hA : DataW.TrodAll enc Tryd.prog W 0 (fun _ => true) true Tryd.f7.params.toList args.toList ds p := hA0
  have hwz := sized_ds hA hsz
  rw [Tryd.params7] at hA hval hwz
  obtain ⟨v0, vs0, d0, ds0, p0, q0, hargs, rfl, rfl, h0, r0⟩ := trodAll_cons hA
  obtain ⟨v1, vs1, d1, ds1, p1, q1, rfl, rfl, rfl, h1, r1⟩ := trodAll_cons r0
  obtain ⟨v2, vs2, d2, ds2, p2, q2, rfl, rfl, rfl, h2, r2⟩ := trodAll_cons r1
  obtain ⟨v3, vs3, d3, ds3, p3, q3, rfl, rfl, rfl, h3, r3⟩ := trodAll_cons r2
  obtain ⟨rfl, rfl, rfl⟩ := trodAll_nil r3
  obtain rfl : args = #[v0, v1, v2, v3] := by cases args; simp_all
  obtain ⟨rfl, rfl⟩ := trodVars_none hV
  have g0 := h0
  have lt0 : ∀ x ∈ p0, x.block < W.heap.size := by obtain ⟨m, hm⟩ := g0; exact DataW.trod_lt m _ _ _ hm
  have g1 := h1
  have lt1 : ∀ x ∈ p1, x.block < W.heap.size := by obtain ⟨m, hm⟩ := g1; exact DataW.trod_lt m _ _ _ hm
  have g2 := h2
  have lt2 : ∀ x ∈ p2, x.block < W.heap.size := by obtain ⟨m, hm⟩ := g2; exact DataW.trod_lt m _ _ _ hm
  have g3 := h3
  have lt3 : ∀ x ∈ p3, x.block < W.heap.size := by obtain ⟨m, hm⟩ := g3; exact DataW.trod_lt m _ _ _ hm
  simp only [DataW.weightsEach] at hwz
  obtain ⟨s0, rfl, rfl, rfl, hs0⟩ := open_string Tryd.underlying9 (hval 0 9 v0 rfl rfl) h0
  obtain ⟨s1, rfl, rfl, rfl, hs1⟩ := open_string Tryd.underlying9 (hval 1 9 v1 rfl rfl) h1
  obtain ⟨s2, rfl, rfl, rfl, hs2⟩ := open_string Tryd.underlying9 (hval 2 9 v2 rfl rfl) h2
  obtain ⟨n3, k3, num3, key3, A3, c3, ks3, rfl, hN3⟩ := open_node (hval 3 26 v3 rfl rfl) h3 (fun y hy => hwz y (by simp [hy]))
  clear hA0 hval0
  have hTab := tabs_of_laid hL
  refine (law_choice s0 s1 s2 n3 k3 num3 key3 A3 c3 ks3 W hN3 hTab).mono fun e W' ⟨he, bel⟩ => ?_
  subst he
  exact ⟨_, rfl, _, _, _, [], _, [], hW', trodAll_mk1 (shut_bool Tryd.underlying4 _), (trodAll_cons_mk (Below.trod laidOut (by kernel_rfl) (of_decide_eq_true (by kernel_rfl)) g0 bel lt0) (trodAll_cons_mk (Below.trod laidOut (by kernel_rfl) (of_decide_eq_true (by kernel_rfl)) g1 bel lt1) (trodAll_cons_mk (Below.trod laidOut (by kernel_rfl) (of_decide_eq_true (by kernel_rfl)) g2 bel lt2) (trodAll_cons_mk (Below.trod laidOut (by kernel_rfl) (of_decide_eq_true (by kernel_rfl)) g3 bel lt3) trodAll_mk0)))), rfl, bel.frame _, fun h => by cases h⟩
theorem both {a b : Bool} (h : a = true) (k : b = true) : (a && b) = true := by rw [h, k]; rfl
theorem kindsFact {c : OpenClaim} (X : List (Option IntKind)) (h : (c.kinds == []) = true) (hd : c.domain.isEmpty = true) : (c.kinds == (if c.domain.isEmpty then [] else X)) = true := by rw [hd]; exact h
theorem closed : joinedFacts Tryd.prog 7 Tryd.f7 Rows.fnKeyValStringKeyChoiceSpec Rows.fnKeyValStringKeyChoiceRow = true := by
  have a5 := i5
  have a6 := i6
  have a7 := i7
  have a8 := i8
  simp only [Bool.and_eq_true] at a5 a6 a7 a8
  obtain ⟨⟨⟨⟨p1, p2⟩, p3⟩, p4⟩, p5⟩ := a5
  obtain ⟨⟨⟨⟨q1, q2⟩, q3⟩, q4⟩, q5⟩ := a6
  obtain ⟨⟨⟨r1, r2⟩, r3⟩, r4⟩ := a7
  obtain ⟨⟨⟨⟨s1, s2⟩, s4⟩, s5⟩, s6⟩ := a8
  have pk : (Rows.fnKeyValStringKeyChoiceRow.plainKeys == Tryd.prog.plainKeys) = true := by rw [Facts.f4]; rfl
  have st : Rows.fnKeyValStringKeyChoiceRow.shortTexts.isNone = true := rfl
  unfold joinedFacts
  exact (both (both (both (both (both (both (both (both (both (both (both (both (both (both (both (both (both (both (both (both (both (both (both (both (both (both (both (both (both (both (both p1 laidOut) Facts.f1) p2) p3) p4) Facts.f2) p5) Facts.f3) i1) i2) i3) i4) q1) q2) q3) q4) q5) r1) r2) r3) r4) pk) st) Facts.f5) Facts.f6) s1) s2) (kindsFact _ rfl rfl)) s4) s5) s6)
theorem over : Rows.FnKeyValStringKeyChoiceSaid :=
  OpenClaim.holds_of_wide 7 Tryd.f7 rfl rfl rfl rfl rfl rfl rfl ⟨rfl, rfl, rfl, rfl, rfl⟩ rfl rfl rfl rfl rfl fnm Tryd.func7 closed
    (of_decide_eq_true (by kernel_rfl)) (by unfold Func.isWrapper; first | (rw [if_pos (by decide +kernel)]; kernel_rfl) | (rw [if_neg (by decide +kernel)]; exact ⟨rfl, rfl⟩))
    (fun os started H enc _ => lifted os started H enc)
theorem proved : Rows.FnKeyValStringKeyChoiceCardSaid :=
  Claim7.holds_tied_plain_at .later [] [.data, .pinned] true (true, "c500e1172cdccd60f7879a2509a876b3613eaa2b03e65483fe0e872b12937a24") false
    over (fun _ h => by cases h) c1 (fun _ h => by cases h) fnKeyValStringKeyChoice_row_tie rfl ⟨rfl, rfl⟩ c2 rfl
    (fun f fn hf hfn => by
      obtain rfl : f = 7 := Option.some.inj (fnm.symm.trans hf) |>.symm
      obtain rfl : fn = Tryd.f7 := (Option.some.inj (Tryd.func7.symm.trans hfn)).symm
      exact ⟨Facts.f7.symm, fun j t ht => by
        rw [Tryd.params7] at ht
        have hm : t ∈ [9, 9, 9, 26] := by simpa using Array.mem_of_getElem? ht
        exact (show Tryd.prog.wantsStandIn t = false by simpa using List.all_eq_true.1 c4 t hm)⟩)
    c3
#print axioms proved
end Go.Proofs.YtbjjcampiknnpaaDoor.fnKeyValStringKeyChoice
