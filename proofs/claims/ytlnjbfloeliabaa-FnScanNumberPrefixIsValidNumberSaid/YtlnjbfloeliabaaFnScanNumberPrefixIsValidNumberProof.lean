/- Proved: FnScanNumberPrefixIsValidNumber returns true at every string and start: an accepted token is non-empty, ends before a byte that is no digit and no letter, and is itself a valid number; a refusal points past the start and within the text. No condition on the input. -/
import Derived.Test.YtlnjbfloeliabaaRows
import Derived.WalkKit
import Derived.ProofKit
import Derived.OpenShut
import Derived.ShutString
import Derived.Test.YtlnjbfloeliabaaValPlain
import Derived.Test.YtlnjbfloeliabaaValWalks
import Derived.Test.YtlnjbfloeliabaaShut
namespace Go.Proofs.Ytlnjbfloeliabaa.fnScanNumberPrefixIsValidNumber
open Go.ChangeShapes Go.WideShapes Go.ChangeAt Go.RowKit Go.PlainAid
open Go.ChangeMaps (open_string shut_string)
set_option linter.unusedVariables false      -- a walk need not use every 'w<i>' (that an integer argument fits its kind)

theorem own : ownKnob Try.prog.godebug = none := by kernel_rfl

theorem zz_step (s : ByteArray) (V : Bool) (B : World) (w : World) (hs : s.size ≤ 2097152) (hV : validM s = V) (hb : Below B.heap.size B w) :
    Calls Try.prog 8 #[.string s] w fun e w' => e = .returned (.bool V) ∧ Below B.heap.size B w' := by
  subst hV
  exact (zzvalid_any s w hs).mono fun e w' ⟨he, h⟩ => ⟨he, hb.trans (h.mono hb.size)⟩
theorem scan0_is (s : ByteArray) (off : Nat) (R : Int) (w : World) (hs : s.size ≤ 2097152) (ho : off ≤ s.size) (hR : scanM s 0 off = R) :
    Calls Try.prog 11 #[.string s, .int .i64 off, .int .i64 0] w fun e w' => e = .returned (.int .i64 R) ∧ Below w.heap.size w w' := by
  subst hR
  exact zzscan_any s off 0 w hs ho (by omega)
theorem dig_is (c : Int) (V : Bool) (w : World) (h0 : 0 ≤ c) (h1 : c ≤ 255) (hV : dg c = V) : Calls Try.prog 15 #[.int .u8 c] w fun e w' => e = .returned (.bool V) ∧ w = w' := by
  subst hV; exact isDig_any c w h0 h1
theorem let_is (c : Int) (V : Bool) (w : World) (h0 : 0 ≤ c) (h1 : c ≤ 255) (hV : lt c = V) : Calls Try.prog 17 #[.int .u8 c] w fun e w' => e = .returned (.bool V) ∧ w = w' := by
  subst hV; exact isLet_any c w h0 h1

/-! ### STEP 1: THE WALK: the Go text returns true. 'Grown w w'': the world has at most new blocks (Derived/RowKit3.lean). Part the cases AHEAD of 'go_enter' where a test parts the walk; take each callee by a contract of your own. -/
set_option maxHeartbeats 1000000 in
theorem walk (a0 : ByteArray) (a1 : Int) (w0 : a0.size ≤ maxLen) (w1 : (Lit.int .i64 a1).wf = true) (w : World) :
    Calls Try.prog 6 #[.string a0, .int .i64 a1] w fun e w' => e = .returned (.bool true) ∧ Below w.heap.size w w' := by
  unfold maxLen at w0
  have hg := get_bt a0
  by_cases h : a0.size ≤ 1048576 ∧ 0 ≤ a1 ∧ a1 < a0.size
  · obtain ⟨h1, h2, h3⟩ := h
    obtain ⟨p, rfl⟩ := Int.eq_ofNat_of_zero_le h2
    have hp : p < a0.size := by omega
    have c0 := bt_nonneg a0 p
    have c1 := bt_le a0 p
    cases hd : dg (bt a0 p)
    · have HD := Lib.hid hd
      clear hd
      go_enter Try.func6, Try.ntmps6
      go_wp2_with (first | (go_at_call 14; go_in) | (go_at_call 15; ((with_reducible refine (dig_is _ false _ (by omega) (by omega) HD.out).mono ?_); rintro e w' ⟨rfl, rfl⟩)))
      go_ret
      exact ⟨rfl, Below.refl _ _⟩
    · by_cases hr : 0 ≤ scanM a0 0 p
      · obtain ⟨r, hR⟩ := Int.eq_ofNat_of_zero_le hr
        have cut : scanM a0 0 p = (r : Int) → r ≤ a0.size → (∀ i, i < r - p → bt (a0.extract p r) i = bt a0 (p + i)) := fun _ h => cut_bt a0 p r h
        have hrs : r ≤ a0.size := by
          have := tok_end hp hd hR
          exact this
        have hsz : (a0.extract p r).size = r - p := by rw [ByteArray.size_extract]; omega
        obtain ⟨⟨k1, k2, k3, k4⟩, k5⟩ := tok_valid hp hd hR hsz (cut_bt a0 p r hrs)
        have HD := Lib.hid hd
        have HR := Lib.hid hR
        have H3 := Lib.hid k3
        have H4 := Lib.hid k4
        have H5 := Lib.hid k5
        have e0 := bt_nonneg a0 r
        have e1 := bt_le a0 r
        clear hd hr hR cut hsz k3 k4 k5
        go_enter Try.func6, Try.ntmps6
        go_wp2_with (first | (go_at_call 14; go_in) | (go_at_call 15; ((with_reducible refine (dig_is (bt a0 p) true _ (by omega) (by omega) HD.out).mono ?_); rintro e w' ⟨rfl, rfl⟩)) | (go_at_call 15; ((with_reducible refine (dig_is (bt a0 r) false _ (by omega) (by omega) H3.out).mono ?_); rintro e w' ⟨rfl, rfl⟩)) | (go_at_call 17; ((with_reducible refine (let_is (bt a0 r) false _ (by omega) (by omega) H4.out).mono ?_); rintro e w' ⟨rfl, rfl⟩)) | (go_at_call 16; ((with_reducible refine (at_any a0 r _ (by omega) (by omega)).mono ?_); rintro e w' ⟨rfl, rfl⟩)) | (go_at_call 11; ((with_reducible refine (scan0_is a0 p r _ (by omega) (by omega) HR.out).mono ?_); rintro e w' ⟨rfl, hb⟩)) | (go_at_call 8; ((with_reducible refine (zz_step (a0.extract p r) true w _ (by rw [ByteArray.size_extract]; omega) H5.out hb).mono ?_); rintro e w' ⟨rfl, hb2⟩)))
        go_ret
        exact ⟨rfl, hb2⟩
      · have hneg : scanM a0 0 p < 0 := by omega
        obtain ⟨k1, k2⟩ := tok_bad hp hd hneg
        generalize hR : scanM a0 0 p = R at *
        have HD := Lib.hid hd
        have HR := Lib.hid hR
        clear hd hR
        go_enter Try.func6, Try.ntmps6
        go_wp2_with (first | (go_at_call 14; go_in) | (go_at_call 15; ((with_reducible refine (dig_is (bt a0 p) true _ (by omega) (by omega) HD.out).mono ?_); rintro e w' ⟨rfl, rfl⟩)) | (go_at_call 11; ((with_reducible refine (scan0_is a0 p R _ (by omega) (by omega) HR.out).mono ?_); rintro e w' ⟨rfl, hb⟩)))
        go_ret
        exact ⟨rfl, hb⟩
  · go_enter Try.func6, Try.ntmps6
    go_wp2_with (first | (go_at_call 14; go_in))
    all_goals go_ret
    all_goals exact ⟨rfl, Below.refl _ _⟩

/-! ### THE ROW's STEP: WRITTEN OUT: LEAVE IT -/
set_option maxRecDepth 100000 in
theorem lifted (os : Os) (started : os.Started) (H : Type) (enc : TypeId × Value → H) :
    ReturnsInHanded {} Try.checked os 6 .any (Rows.fnScanNumberPrefixIsValidNumberSpec.pre6 enc Try.prog Try.f6 Rows.fnScanNumberPrefixIsValidNumberRow.domain false) (Rows.fnScanNumberPrefixIsValidNumberSpec.post enc Try.prog Try.f6 false true false false) := by
  refine returnsInHanded_of_change (C := Try.checked) own started (by kernel_rfl) Try.func6
    (ChangeSpec.witness6 (enc := enc) (C := Try.checked) false ⟨#[], #[.string ByteArray.empty, .int .i64 0], []⟩ 8 (by kernel_rfl) (by kernel_rfl) (by kernel_rfl) (by kernel_rfl)) ?_
  intro W base args ds gs before hval0 hW hcnd _
  have hval : ∀ (j : Nat) t v, Try.f6.params[j]? = some t → args[j]? = some v → Value.okWide Try.prog W .any base t v := hval0
  have hW' := hW
  obtain ⟨p, q, hA0, hV, rfl, hfz, hnd⟩ := hW
  have hA : DataW.TrodAll enc Try.prog W 0 (fun _ => true) true Try.f6.params.toList args.toList ds p := hA0
  rw [Try.params6] at hA hval
  obtain ⟨v0, vs0, d0, ds0, p0, q0, hargs, rfl, rfl, h0, r0⟩ := trodAll_cons hA
  obtain ⟨v1, vs1, d1, ds1, p1, q1, rfl, rfl, rfl, h1, r1⟩ := trodAll_cons r0
  obtain ⟨rfl, rfl, rfl⟩ := trodAll_nil r1
  obtain rfl : args = #[v0, v1] := by cases args; simp_all
  obtain ⟨rfl, rfl⟩ := trodVars_none hV
  obtain ⟨a0, rfl, rfl, rfl, w0⟩ := open_string Try.underlying9 (hval 0 9 v0 rfl rfl) h0
  obtain ⟨a1, rfl, rfl, rfl, w1⟩ := open_int Try.underlying3 (hval 1 3 v1 rfl rfl) h1
  clear hA0 hval0
  simp only [List.append_nil] at hW'
  refine (walk a0 a1 w0 w1 W).mono fun e W' ⟨he, hg⟩ => ?_
  subst he
  exact ⟨_, rfl, post_of_below (pa := []) (pv := []) hW' (fun _ _ _ => (trodAll_cons_mk (shut_bool Try.underlying4 _) trodAll_mk0)) (fun sp _ => (trodAll_cons_mk (shut_string Try.underlying9 w0) (trodAll_cons_mk (shut_int Try.underlying3 w1) trodAll_mk0))) (fun _ _ => rfl) rfl
    hg (ok_one (by kernel_rfl) rfl (okWide_bool_mk Try.underlying4 _))⟩

theorem over : Rows.fnScanNumberPrefixIsValidNumberRow.holds Try.pinned (OpenSpec.ofChange Rows.fnScanNumberPrefixIsValidNumberSpec) :=
  OpenClaim.holds_of_wide 6 Try.f6 rfl rfl rfl rfl rfl rfl rfl ⟨rfl, rfl, rfl, rfl, rfl⟩ rfl rfl rfl rfl rfl (by kernel_rfl) Try.func6 (by kernel_rfl)
    (of_decide_eq_true (by kernel_rfl)) (by unfold Func.isWrapper; first | (rw [if_pos (by decide +kernel)]; kernel_rfl) | (rw [if_neg (by decide +kernel)]; exact ⟨rfl, rfl⟩))
    (fun os started H enc _ => lifted os started H enc)

/-- ████ THE STATEMENT ████ -/
theorem proved : Rows.FnScanNumberPrefixIsValidNumberSaid :=
  over
#print axioms proved
end Go.Proofs.Ytlnjbfloeliabaa.fnScanNumberPrefixIsValidNumber
