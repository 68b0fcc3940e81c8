/- Proved: FnFminSpec returns true at every pair of float64 words: fmin is one of its operands, at most both, NaN only where both are NaN, and the sign of a zero answer is as stated. No condition on the input. -/
import Derived.Test.YtcpfnepkjbadjaaRows
import Derived.WalkKit
import Derived.ProofKit
import Derived.OpenShut
import Derived.ShutString
import Derived.Test.YtcpfnepkjbadjaaFmm
import Derived.Test.YtcpfnepkjbadjaaShut
import Derived.Laws.Cover2
import Derived.Laws.FloatArith
namespace Go.Proofs.Ytcpfnepkjbadjaa.fnFminSpec
open Go.ChangeShapes Go.WideShapes Go.ChangeAt Go.RowKit
open Go.ChangeMaps (open_string shut_string)
set_option linter.unusedVariables false      -- a walk need not use every 'w<i>' (that an integer argument fits its kind)

theorem own : ownKnob Try.prog.godebug = none := by kernel_rfl

theorem fmin_is (x y g : Nat) (w : World) (hx : x < 2 ^ 64) (hy : y < 2 ^ 64) (hg : fminW x y = g) : Calls Try.prog 26 #[.float .f64 x, .float .f64 y] w fun e w' => e = .returned (.float .f64 g) ∧ w = w' := by
  subst hg; exact zzfmin_any x y w hx hy

/-! ### STEP 1: THE WALK: the Go text returns true. 'Grown w w'': the world has at most new blocks (Derived/RowKit3.lean). Part the cases AHEAD of 'go_enter' where a test parts the walk; take each callee by a contract of your own. -/
theorem walk (a0 : Nat) (a1 : Nat) (w0 : (Lit.float .f64 a0).wf = true) (w1 : (Lit.float .f64 a1).wf = true) (w : World) :
    Calls Try.prog 10 #[.float .f64 a0, .float .f64 a1] w fun e w' => e = .returned (.bool true) ∧ Below w.heap.size w w' := by
  have hx := wf_lt w0
  have hy := wf_lt w1
  clear w0 w1
  cases nl : nanB a0
  · cases nr : nanB a1
    · generalize hG : fminW a0 a1 = g
      obtain ⟨hg, ng, c1, c2, hs, hz⟩ := fmin_facts hx hy nl nr hG
      have HG := Lib.hid hG
      have o1 := le_ok hg hx ng nl c1
      have o2 := le_ok hg hy ng nr c2
      have o0 := eq_zero hg ng
      clear hG c1 c2
      by_cases hv : V g = 0
      · have o0' : (FloatKind.f64.format.order g 0 == some Ordering.eq) = true := by rw [o0]; simp [hv]
        have HZ := Lib.hid (hz hv)
        clear o0 hv hz
        rcases hs with s1 | ⟨s1, s2⟩
        all_goals
          go_enter Try.func10, Try.ntmps10
          go_wp2_with (first | (go_at_call 26; ((with_reducible refine (fmin_is a0 a1 g _ hx hy HG.out).mono ?_); rintro e w' ⟨rfl, rfl⟩)) | (go_at_call 20; ((with_reducible refine (zzNaN_any _ _ (by assumption)).mono ?_); rintro e w' ⟨rfl, rfl⟩)) | (go_at_call 22; ((with_reducible refine (zzSame_any _ _ _ (by assumption) (by assumption)).mono ?_); rintro e w' ⟨rfl, rfl⟩)) | (go_at_call 24; ((with_reducible refine (zzNeg_any _ _ (by assumption)).mono ?_); rintro e w' ⟨rfl, rfl⟩)))
          all_goals go_ret
          all_goals exact ⟨ret_bool (by have := HZ.out; simp_all), Below.refl _ _⟩
      · have o0' : (FloatKind.f64.format.order g 0 == some Ordering.eq) = false := by rw [o0]; simp [hv]
        clear o0 hv hz
        rcases hs with s1 | ⟨s1, s2⟩
        all_goals
          go_enter Try.func10, Try.ntmps10
          go_wp2_with (first | (go_at_call 26; ((with_reducible refine (fmin_is a0 a1 g _ hx hy HG.out).mono ?_); rintro e w' ⟨rfl, rfl⟩)) | (go_at_call 20; ((with_reducible refine (zzNaN_any _ _ (by assumption)).mono ?_); rintro e w' ⟨rfl, rfl⟩)) | (go_at_call 22; ((with_reducible refine (zzSame_any _ _ _ (by assumption) (by assumption)).mono ?_); rintro e w' ⟨rfl, rfl⟩)) | (go_at_call 24; ((with_reducible refine (zzNeg_any _ _ (by assumption)).mono ?_); rintro e w' ⟨rfl, rfl⟩)))
          go_ret
          exact ⟨rfl, Below.refl _ _⟩
    · have hG : fminW a0 a1 = a0 := by unfold fminW; simp [nl, nr]
      have HG := Lib.hid hG
      have s1 := sameB_self a0
      clear hG
      go_enter Try.func10, Try.ntmps10
      go_wp2_with (first | (go_at_call 26; ((with_reducible refine (fmin_is a0 a1 a0 _ hx hy HG.out).mono ?_); rintro e w' ⟨rfl, rfl⟩)) | (go_at_call 20; ((with_reducible refine (zzNaN_any _ _ (by assumption)).mono ?_); rintro e w' ⟨rfl, rfl⟩)) | (go_at_call 22; ((with_reducible refine (zzSame_any _ _ _ (by assumption) (by assumption)).mono ?_); rintro e w' ⟨rfl, rfl⟩)) | (go_at_call 24; ((with_reducible refine (zzNeg_any _ _ (by assumption)).mono ?_); rintro e w' ⟨rfl, rfl⟩)))
      go_ret
      exact ⟨rfl, Below.refl _ _⟩
  · have hG : fminW a0 a1 = a1 := by unfold fminW; simp [nl]
    have HG := Lib.hid hG
    have s1 := sameB_self a1
    clear hG
    cases nr : nanB a1
    all_goals
      go_enter Try.func10, Try.ntmps10
      go_wp2_with (first | (go_at_call 26; ((with_reducible refine (fmin_is a0 a1 a1 _ hx hy HG.out).mono ?_); rintro e w' ⟨rfl, rfl⟩)) | (go_at_call 20; ((with_reducible refine (zzNaN_any _ _ (by assumption)).mono ?_); rintro e w' ⟨rfl, rfl⟩)) | (go_at_call 22; ((with_reducible refine (zzSame_any _ _ _ (by assumption) (by assumption)).mono ?_); rintro e w' ⟨rfl, rfl⟩)) | (go_at_call 24; ((with_reducible refine (zzNeg_any _ _ (by assumption)).mono ?_); rintro e w' ⟨rfl, rfl⟩)))
      go_ret
      exact ⟨rfl, Below.refl _ _⟩

/-! ### THE ROW's STEP: WRITTEN OUT: LEAVE IT -/
set_option maxRecDepth 100000 in
theorem lifted (os : Os) (started : os.Started) (H : Type) (enc : TypeId × Value → H) :
    ReturnsInHanded {} Try.checked os 10 .any (Rows.fnFminSpecSpec.pre6 enc Try.prog Try.f10 Rows.fnFminSpecRow.domain false) (Rows.fnFminSpecSpec.post enc Try.prog Try.f10 false true false false) := by
  refine returnsInHanded_of_change (C := Try.checked) own started (by kernel_rfl) Try.func10
    (ChangeSpec.witness6 (enc := enc) (C := Try.checked) false ⟨#[], #[.float .f64 0, .float .f64 0], []⟩ 8 (by kernel_rfl) (by kernel_rfl) (by kernel_rfl) (by kernel_rfl)) ?_
  intro W base args ds gs before hval0 hW hcnd _
  have hval : ∀ (j : Nat) t v, Try.f10.params[j]? = some t → args[j]? = some v → Value.okWide Try.prog W .any base t v := hval0
  have hW' := hW
  obtain ⟨p, q, hA0, hV, rfl, hfz, hnd⟩ := hW
  have hA : DataW.TrodAll enc Try.prog W 0 (fun _ => true) true Try.f10.params.toList args.toList ds p := hA0
  rw [Try.params10] at hA hval
  obtain ⟨v0, vs0, d0, ds0, p0, q0, hargs, rfl, rfl, h0, r0⟩ := trodAll_cons hA
  obtain ⟨v1, vs1, d1, ds1, p1, q1, rfl, rfl, rfl, h1, r1⟩ := trodAll_cons r0
  obtain ⟨rfl, rfl, rfl⟩ := trodAll_nil r1
  obtain rfl : args = #[v0, v1] := by cases args; simp_all
  obtain ⟨rfl, rfl⟩ := trodVars_none hV
  obtain ⟨a0, rfl, rfl, rfl, w0⟩ := open_float Try.underlying22 (hval 0 22 v0 rfl rfl) h0
  obtain ⟨a1, rfl, rfl, rfl, w1⟩ := open_float Try.underlying22 (hval 1 22 v1 rfl rfl) h1
  clear hA0 hval0
  simp only [List.append_nil] at hW'
  refine (walk a0 a1 w0 w1 W).mono fun e W' ⟨he, hg⟩ => ?_
  subst he
  exact ⟨_, rfl, post_of_below (pa := []) (pv := []) hW' (fun _ _ _ => (trodAll_cons_mk (shut_bool Try.underlying4 _) trodAll_mk0)) (fun sp _ => (trodAll_cons_mk (shut_float Try.underlying22 w0) (trodAll_cons_mk (shut_float Try.underlying22 w1) trodAll_mk0))) (fun _ _ => rfl) rfl
    hg (ok_one (by kernel_rfl) rfl (okWide_bool_mk Try.underlying4 _))⟩

theorem over : Rows.fnFminSpecRow.holds Try.pinned (OpenSpec.ofChange Rows.fnFminSpecSpec) :=
  OpenClaim.holds_of_wide 10 Try.f10 rfl rfl rfl rfl rfl rfl rfl ⟨rfl, rfl, rfl, rfl, rfl⟩ rfl rfl rfl rfl rfl (by kernel_rfl) Try.func10 (by kernel_rfl)
    (of_decide_eq_true (by kernel_rfl)) (by unfold Func.isWrapper; first | (rw [if_pos (by decide +kernel)]; kernel_rfl) | (rw [if_neg (by decide +kernel)]; exact ⟨rfl, rfl⟩))
    (fun os started H enc _ => lifted os started H enc)

/-- ████ THE STATEMENT ████ -/
theorem proved : Rows.FnFminSpecSaid :=
  over
#print axioms proved
end Go.Proofs.Ytcpfnepkjbadjaa.fnFminSpec
