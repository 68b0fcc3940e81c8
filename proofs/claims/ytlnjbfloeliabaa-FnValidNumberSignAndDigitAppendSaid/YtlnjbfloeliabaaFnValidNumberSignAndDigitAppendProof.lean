/- Proved: FnValidNumberSignAndDigitAppend returns true at every string: one sign in front keeps validity, two signs destroy it, a digit behind a valid text keeps it. No condition on the input. -/
import Derived.Test.YtlnjbfloeliabaaRows
import Derived.WalkKit
import Derived.ProofKit
import Derived.OpenShut
import Derived.ShutString
import Derived.Test.YtlnjbfloeliabaaValPlain
import Derived.Test.YtlnjbfloeliabaaValWalks
import Derived.Test.YtlnjbfloeliabaaShut
namespace Go.Proofs.Ytlnjbfloeliabaa.fnValidNumberSignAndDigitAppend
open Go.ChangeShapes Go.WideShapes Go.ChangeAt Go.RowKit Go.PlainAid
open Go.ChangeMaps (open_string shut_string)
set_option linter.unusedVariables false      -- a walk need not use every 'w<i>' (that an integer argument fits its kind)

theorem own : ownKnob Try.prog.godebug = none := by kernel_rfl

theorem zz_step (s : ByteArray) (V : Bool) (B : World) (w : World) (hs : s.size ≤ 2097152) (hV : validM s = V) (hb : Below B.heap.size B w) :
    Calls Try.prog 8 #[.string s] w fun e w' => e = .returned (.bool V) ∧ Below B.heap.size B w' := by
  subst hV
  exact (zzvalid_any s w hs).mono fun e w' ⟨he, h⟩ => ⟨he, hb.trans (h.mono hb.size)⟩
theorem big (a b : ByteArray) (n m : Nat) (ha : a.size ≤ n) (hb : b.size ≤ m) (h : n + m ≤ 2097152) : (a ++ b).size ≤ 2097152 := by rw [ByteArray.size_append]; omega

/-! ### STEP 1: THE WALK: the Go text returns true. 'Grown w w'': the world has at most new blocks (Derived/RowKit3.lean). Part the cases AHEAD of 'go_enter' where a test parts the walk; take each callee by a contract of your own. -/
theorem walk (a0 : ByteArray) (w0 : a0.size ≤ maxLen) (w : World) :
    Calls Try.prog 5 #[.string a0] w fun e w' => e = .returned (.bool true) ∧ Below w.heap.size w w' := by
  unfold maxLen at w0
  have hg := get_bt a0
  have hb : Below w.heap.size w w := Below.refl _ _
  by_cases h : a0.size ≤ 1048576
  · by_cases hsg : sg (bt a0 0) = true
    · have h0 : 0 < a0.size := by rcases Nat.lt_or_ge 0 a0.size with h | h; exact h; rw [bt_end a0 h] at hsg; cases hsg
      have hsg' := sg_or hsg
      clear hsg
      rcases hsg' with h5 | h5
      · have y1 : (bt a0 0 == 43) = false := beq_no (by omega)
        have y2 := beq_yes h5
        clear h5
        go_enter Try.func5, Try.ntmps5
        go_wp2_with (go_at_call 13; go_in)
        go_ret
        exact ⟨rfl, Below.refl _ _⟩
      · have y2 := beq_yes h5
        clear h5
        go_enter Try.func5, Try.ntmps5
        go_wp2_with (go_at_call 13; go_in)
        go_ret
        exact ⟨rfl, Below.refl _ _⟩
    · have hsg' : sg (bt a0 0) = false := by simpa using hsg
      have hn := sg_not hsg'
      have n43 := beq_no hn.2
      have n45 := beq_no hn.1
      have v1 := Lib.hid (valid_sign 43 rfl a0 hsg')
      have v2 := Lib.hid (valid_sign 45 rfl a0 hsg')
      have v3 := Lib.hid (valid_two 45 45 rfl rfl a0)
      have v4 := Lib.hid (valid_two 43 45 rfl rfl a0)
      have v5 := Lib.hid (valid_more a0)
      clear hn hsg hsg'
      cases hV : validM a0
      · have HV := Lib.hid hV
        clear hV
        rcases Nat.eq_zero_or_pos a0.size with h0 | h0
        · have h0' : a0.size ≤ 0 := by omega
          clear h0
          go_enter Try.func5, Try.ntmps5
          go_wp2_with (first | (go_at_call 13; go_in) | (go_at_call 8; ((with_reducible refine (zz_step a0 false w _ (by omega) HV.out hb).mono ?_); clear hb; rintro e w' ⟨rfl, hb⟩)) | (go_at_call 8; ((with_reducible refine (zz_step ((⟨#[43]⟩ : ByteArray) ++ a0) false w _ (big _ _ 1 1048576 (Nat.le_refl _) h (by omega)) (v1.out.trans HV.out) hb).mono ?_); clear hb; rintro e w' ⟨rfl, hb⟩)) | (go_at_call 8; ((with_reducible refine (zz_step ((⟨#[45]⟩ : ByteArray) ++ a0) false w _ (big _ _ 1 1048576 (Nat.le_refl _) h (by omega)) (v2.out.trans HV.out) hb).mono ?_); clear hb; rintro e w' ⟨rfl, hb⟩)) | (go_at_call 8; ((with_reducible refine (zz_step ((⟨#[45, 45]⟩ : ByteArray) ++ a0) false w _ (big _ _ 2 1048576 (Nat.le_refl _) h (by omega)) v3.out hb).mono ?_); clear hb; rintro e w' ⟨rfl, hb⟩)) | (go_at_call 8; ((with_reducible refine (zz_step ((⟨#[43, 45]⟩ : ByteArray) ++ a0) false w _ (big _ _ 2 1048576 (Nat.le_refl _) h (by omega)) v4.out hb).mono ?_); clear hb; rintro e w' ⟨rfl, hb⟩)))
          go_ret
          exact ⟨rfl, hb⟩
        · go_enter Try.func5, Try.ntmps5
          go_wp2_with (first | (go_at_call 13; go_in) | (go_at_call 8; ((with_reducible refine (zz_step a0 false w _ (by omega) HV.out hb).mono ?_); clear hb; rintro e w' ⟨rfl, hb⟩)) | (go_at_call 8; ((with_reducible refine (zz_step ((⟨#[43]⟩ : ByteArray) ++ a0) false w _ (big _ _ 1 1048576 (Nat.le_refl _) h (by omega)) (v1.out.trans HV.out) hb).mono ?_); clear hb; rintro e w' ⟨rfl, hb⟩)) | (go_at_call 8; ((with_reducible refine (zz_step ((⟨#[45]⟩ : ByteArray) ++ a0) false w _ (big _ _ 1 1048576 (Nat.le_refl _) h (by omega)) (v2.out.trans HV.out) hb).mono ?_); clear hb; rintro e w' ⟨rfl, hb⟩)) | (go_at_call 8; ((with_reducible refine (zz_step ((⟨#[45, 45]⟩ : ByteArray) ++ a0) false w _ (big _ _ 2 1048576 (Nat.le_refl _) h (by omega)) v3.out hb).mono ?_); clear hb; rintro e w' ⟨rfl, hb⟩)) | (go_at_call 8; ((with_reducible refine (zz_step ((⟨#[43, 45]⟩ : ByteArray) ++ a0) false w _ (big _ _ 2 1048576 (Nat.le_refl _) h (by omega)) v4.out hb).mono ?_); clear hb; rintro e w' ⟨rfl, hb⟩)))
          go_ret
          exact ⟨rfl, hb⟩
      · have HV := Lib.hid hV
        clear hV
        rcases Nat.eq_zero_or_pos a0.size with h0 | h0
        · have h0' : a0.size ≤ 0 := by omega
          clear h0
          go_enter Try.func5, Try.ntmps5
          go_wp2_with (first | (go_at_call 13; go_in) | (go_at_call 8; ((with_reducible refine (zz_step a0 true w _ (by omega) HV.out hb).mono ?_); clear hb; rintro e w' ⟨rfl, hb⟩)) | (go_at_call 8; ((with_reducible refine (zz_step ((⟨#[43]⟩ : ByteArray) ++ a0) true w _ (big _ _ 1 1048576 (Nat.le_refl _) h (by omega)) (v1.out.trans HV.out) hb).mono ?_); clear hb; rintro e w' ⟨rfl, hb⟩)) | (go_at_call 8; ((with_reducible refine (zz_step ((⟨#[45]⟩ : ByteArray) ++ a0) true w _ (big _ _ 1 1048576 (Nat.le_refl _) h (by omega)) (v2.out.trans HV.out) hb).mono ?_); clear hb; rintro e w' ⟨rfl, hb⟩)) | (go_at_call 8; ((with_reducible refine (zz_step ((⟨#[45, 45]⟩ : ByteArray) ++ a0) false w _ (big _ _ 2 1048576 (Nat.le_refl _) h (by omega)) v3.out hb).mono ?_); clear hb; rintro e w' ⟨rfl, hb⟩)) | (go_at_call 8; ((with_reducible refine (zz_step ((⟨#[43, 45]⟩ : ByteArray) ++ a0) false w _ (big _ _ 2 1048576 (Nat.le_refl _) h (by omega)) v4.out hb).mono ?_); clear hb; rintro e w' ⟨rfl, hb⟩)) | (go_at_call 8; ((with_reducible refine (zz_step (a0 ++ (⟨#[55]⟩ : ByteArray)) true w _ (big _ _ 1048576 1 h (Nat.le_refl _) (by omega)) (v5.out HV.out) hb).mono ?_); clear hb; rintro e w' ⟨rfl, hb⟩)))
          go_ret
          exact ⟨rfl, hb⟩
        · go_enter Try.func5, Try.ntmps5
          go_wp2_with (first | (go_at_call 13; go_in) | (go_at_call 8; ((with_reducible refine (zz_step a0 true w _ (by omega) HV.out hb).mono ?_); clear hb; rintro e w' ⟨rfl, hb⟩)) | (go_at_call 8; ((with_reducible refine (zz_step ((⟨#[43]⟩ : ByteArray) ++ a0) true w _ (big _ _ 1 1048576 (Nat.le_refl _) h (by omega)) (v1.out.trans HV.out) hb).mono ?_); clear hb; rintro e w' ⟨rfl, hb⟩)) | (go_at_call 8; ((with_reducible refine (zz_step ((⟨#[45]⟩ : ByteArray) ++ a0) true w _ (big _ _ 1 1048576 (Nat.le_refl _) h (by omega)) (v2.out.trans HV.out) hb).mono ?_); clear hb; rintro e w' ⟨rfl, hb⟩)) | (go_at_call 8; ((with_reducible refine (zz_step ((⟨#[45, 45]⟩ : ByteArray) ++ a0) false w _ (big _ _ 2 1048576 (Nat.le_refl _) h (by omega)) v3.out hb).mono ?_); clear hb; rintro e w' ⟨rfl, hb⟩)) | (go_at_call 8; ((with_reducible refine (zz_step ((⟨#[43, 45]⟩ : ByteArray) ++ a0) false w _ (big _ _ 2 1048576 (Nat.le_refl _) h (by omega)) v4.out hb).mono ?_); clear hb; rintro e w' ⟨rfl, hb⟩)) | (go_at_call 8; ((with_reducible refine (zz_step (a0 ++ (⟨#[55]⟩ : ByteArray)) true w _ (big _ _ 1048576 1 h (Nat.le_refl _) (by omega)) (v5.out HV.out) hb).mono ?_); clear hb; rintro e w' ⟨rfl, hb⟩)))
          go_ret
          exact ⟨rfl, hb⟩
  · go_enter Try.func5, Try.ntmps5
    go_wp2_with (go_at_call 13; go_in)
    go_ret
    exact ⟨rfl, Below.refl _ _⟩

/-! ### THE ROW's STEP: WRITTEN OUT: LEAVE IT -/
set_option maxRecDepth 100000 in
theorem lifted (os : Os) (started : os.Started) (H : Type) (enc : TypeId × Value → H) :
    ReturnsInHanded {} Try.checked os 5 .any (Rows.fnValidNumberSignAndDigitAppendSpec.pre6 enc Try.prog Try.f5 Rows.fnValidNumberSignAndDigitAppendRow.domain false) (Rows.fnValidNumberSignAndDigitAppendSpec.post enc Try.prog Try.f5 false true false false) := by
  refine returnsInHanded_of_change (C := Try.checked) own started (by kernel_rfl) Try.func5
    (ChangeSpec.witness6 (enc := enc) (C := Try.checked) false ⟨#[], #[.string ByteArray.empty], []⟩ 8 (by kernel_rfl) (by kernel_rfl) (by kernel_rfl) (by kernel_rfl)) ?_
  intro W base args ds gs before hval0 hW hcnd _
  have hval : ∀ (j : Nat) t v, Try.f5.params[j]? = some t → args[j]? = some v → Value.okWide Try.prog W .any base t v := hval0
  have hW' := hW
  obtain ⟨p, q, hA0, hV, rfl, hfz, hnd⟩ := hW
  have hA : DataW.TrodAll enc Try.prog W 0 (fun _ => true) true Try.f5.params.toList args.toList ds p := hA0
  rw [Try.params5] at hA hval
  obtain ⟨v0, vs0, d0, ds0, p0, q0, hargs, rfl, rfl, h0, r0⟩ := trodAll_cons hA
  obtain ⟨rfl, rfl, rfl⟩ := trodAll_nil r0
  obtain rfl : args = #[v0] := by cases args; simp_all
  obtain ⟨rfl, rfl⟩ := trodVars_none hV
  obtain ⟨a0, rfl, rfl, rfl, w0⟩ := open_string Try.underlying9 (hval 0 9 v0 rfl rfl) h0
  clear hA0 hval0
  simp only [List.append_nil] at hW'
  refine (walk a0 w0 W).mono fun e W' ⟨he, hg⟩ => ?_
  subst he
  exact ⟨_, rfl, post_of_below (pa := []) (pv := []) hW' (fun _ _ _ => (trodAll_cons_mk (shut_bool Try.underlying4 _) trodAll_mk0)) (fun sp _ => (trodAll_cons_mk (shut_string Try.underlying9 w0) trodAll_mk0)) (fun _ _ => rfl) rfl
    hg (ok_one (by kernel_rfl) rfl (okWide_bool_mk Try.underlying4 _))⟩

theorem over : Rows.fnValidNumberSignAndDigitAppendRow.holds Try.pinned (OpenSpec.ofChange Rows.fnValidNumberSignAndDigitAppendSpec) :=
  OpenClaim.holds_of_wide 5 Try.f5 rfl rfl rfl rfl rfl rfl rfl ⟨rfl, rfl, rfl, rfl, rfl⟩ rfl rfl rfl rfl rfl (by kernel_rfl) Try.func5 (by kernel_rfl)
    (of_decide_eq_true (by kernel_rfl)) (by unfold Func.isWrapper; first | (rw [if_pos (by decide +kernel)]; kernel_rfl) | (rw [if_neg (by decide +kernel)]; exact ⟨rfl, rfl⟩))
    (fun os started H enc _ => lifted os started H enc)

/-- ████ THE STATEMENT ████ -/
theorem proved : Rows.FnValidNumberSignAndDigitAppendSaid :=
  over
#print axioms proved
end Go.Proofs.Ytlnjbfloeliabaa.fnValidNumberSignAndDigitAppend
