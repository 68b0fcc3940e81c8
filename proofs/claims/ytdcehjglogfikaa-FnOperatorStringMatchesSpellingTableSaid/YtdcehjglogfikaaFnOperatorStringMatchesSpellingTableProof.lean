/- Proved: FnOperatorStringMatchesSpellingTable returns true at every int: the spelling of operator op (1 to 24) is the op-th word of the law's own table. No condition on the input. -/
import Derived.Test.YtdcehjglogfikaaRows
import Derived.WalkKit
import Derived.ProofKit
import Derived.OpenShut
import Derived.ShutString
import Derived.Lib.Hide
import Derived.LoopTactic
import Derived.Test.YtdcehjglogfikaaStr
import Derived.Test.YtdcehjglogfikaaAid
namespace Go.Proofs.Ytdcehjglogfikaa.fnOperatorStringMatchesSpellingTable
open Go.ChangeShapes Go.WideShapes Go.ChangeAt Go.RowKit
open Go.ChangeMaps (open_string shut_string)
set_option linter.unusedVariables false      -- a walk need not use every 'w<i>' (that an integer argument fits its kind)

theorem own : ownKnob Try.prog.godebug = none := by kernel_rfl

def tb : List UInt8 := [124, 32, 44, 32, 43, 32, 45, 32, 42, 32, 47, 32, 37, 32, 61, 61, 32, 33, 61, 32, 62, 32, 60, 32, 62, 61, 32, 60, 61, 32, 97, 110, 100, 32, 111, 114, 32, 47, 47, 32, 61, 32, 124, 61, 32, 43, 61, 32, 45, 61, 32, 42, 61, 32, 47, 61, 32, 37, 61, 32, 47, 47, 61]
/-- the word's number and its start, at letter i -/
def st : Nat → Nat × Nat
  | 0 => (1, 0)
  | i + 1 => if tb[i]? = some 32 then ((st i).1 + 1, i + 1) else st i
theorem st_sep : ∀ i : Fin 64, (i.val = 63 ∨ tb[i.val]? = some 32) → (tb.take i.val).drop (st i.val).2 = spell (st i.val).1 := by decide
theorem st_le : ∀ i : Fin 64, (st i.val).1 ≤ 24 ∧ (st i.val).2 ≤ i.val := by decide
theorem st_end : (st 63).1 = 24 := by decide
theorem st_step (i : Nat) (h : tb[i]? = some 32) : st (i + 1) = ((st i).1 + 1, i + 1) := by simp [st, h]
theorem st_stay (i : Nat) (h : ¬ tb[i]? = some 32) : st (i + 1) = st i := by simp [st, h]
theorem byte_yes (s : ByteArray) (j : Nat) (h : j < s.size) (c : UInt8) (hc : ((s[j].toNat : Int) == (c.toNat : Int)) = true) : s.data.toList[j]? = some c := by
  have e : s[j] = c := by have := (beq_iff_eq.1 hc); exact UInt8.toNat_inj.1 (by omega)
  rw [← e, List.getElem?_eq_getElem (by simpa using h)]; rfl
theorem byte_no (s : ByteArray) (j : Nat) (h : j < s.size) (c : UInt8) (hc : ((s[j].toNat : Int) == (c.toNat : Int)) = false) : ¬ s.data.toList[j]? = some c := by
  intro hh
  rw [List.getElem?_eq_getElem (by simpa using h)] at hh
  have e : s[j] = c := Option.some.inj hh
  rw [beq_eq_false_iff_ne] at hc; exact hc (by rw [e])
theorem cut_data (s : ByteArray) (a b : Nat) : (s.extract a b) = ⟨((s.data.toList.take b).drop a).toArray⟩ := by
  apply WideShapes.bytes_inj; simp [List.drop_take]
theorem fin_word (j : Nat) (hj : j < 64) (k : Nat) (hk : ((((st j).1 : Nat) : Int) == (k : Int)) = true) (hs : j = 63 ∨ tb[j]? = some 32) :
    Ending.returned (.string ((⟨tb.toArray⟩ : ByteArray).extract (st j).2 j)) = .returned (.string ⟨(spell k).toArray⟩) := by
  have e : (st j).1 = k := by have := beq_iff_eq.1 hk; omega
  rw [cut_data, ← e, ← st_sep ⟨j, hj⟩ hs]
set_option maxHeartbeats 1000000 in
theorem zz_any (k : Nat) (w : World) (h1 : 1 ≤ k) (h2 : k ≤ 24) :
    Calls Try.prog 11 #[.int .i64 k] w fun e w' => e = .returned (.string ⟨(spell k).toArray⟩) ∧ w = w' := by
  go_enter Try.func11, Try.ntmps11
  go_wp2
  go_loop [3, 4, 5] (fun f s i => ∃ j : Nat, j ≤ 63 ∧ (st j).1 ≤ k ∧ f = .int .i64 (st j).1 ∧ s = .int .i64 (st j).2 ∧ i = .int .i64 j) (fun _ _ i => 64 - (intOf i).toNat)
  case atStart => exact ⟨0, by omega, h1, rfl, rfl, rfl⟩
  case round =>
    obtain ⟨j, hj, hk, rfl, rfl, rfl⟩ := hrel
    have hs := st_le ⟨j, by omega⟩
    by_cases h63 : j = 63
    · have hb : ((j : Int) == 63) = true := by rw [beq_iff_eq]; omega
      have hf : ((((st j).1 : Nat) : Int) == (k : Int)) = true := by have := st_end; rw [beq_iff_eq]; subst h63; omega
      have H := Lib.hid h63
      clear h63
      go_wp2
      go_ret
      exact ⟨fin_word j (by omega) k hf (Or.inl H.out), rfl⟩
    · have hlt : j < 63 := by omega
      go_wp2
      · go_ret
        refine ⟨fin_word j (by omega) k (by assumption) (Or.inr ?_), rfl⟩
        have hor : ((j : Int) == 63) = true ∨ (((⟨tb.toArray⟩ : ByteArray)[j]'(hlt)).toNat == (32 : Int)) = true := by assumption
        rcases hor with hc | hc
        · have := beq_iff_eq.1 hc; omega
        · exact byte_yes ⟨tb.toArray⟩ j hlt 32 hc
      · go_round
        case rel =>
          have hne : ((((st j).1 : Nat) : Int) == (k : Int)) = false := by assumption
          have hor : ((j : Int) == 63) = true ∨ (((⟨tb.toArray⟩ : ByteArray)[j]'(hlt)).toNat == (32 : Int)) = true := by assumption
          have hsp : tb[j]? = some 32 := by
            rcases hor with hc | hc
            · have := beq_iff_eq.1 hc; omega
            · exact byte_yes ⟨tb.toArray⟩ j hlt 32 hc
          rw [beq_eq_false_iff_ne] at hne
          have e := st_step j hsp
          exact ⟨j + 1, by omega, by rw [e]; show (st j).1 + 1 ≤ k; omega, by rw [e]; go_num, by rw [e]; go_num, by go_num⟩
        case measure => simp [intOf]; omega
      · go_round
        case rel =>
          have hand : ((j : Int) == 63) = false ∧ (((⟨tb.toArray⟩ : ByteArray)[j]'(hlt)).toNat == (32 : Int)) = false := by assumption
          have e := st_stay j (byte_no ⟨tb.toArray⟩ j hlt 32 hand.2)
          exact ⟨j + 1, by omega, by rw [e]; exact hk, by rw [e], by rw [e], by go_num⟩
        case measure => simp [intOf]; omega

/-! ### STEP 1: THE WALK: the Go text returns true. 'Grown w w'': the world has at most new blocks (Derived/RowKit3.lean). Part the cases AHEAD of 'go_enter' where a test parts the walk; take each callee by a contract of your own. -/
theorem walk (a0 : Int) (w0 : (Lit.int .i64 a0).wf = true) (w : World) :
    Calls Try.prog 4 #[.int .i64 a0] w fun e w' => e = .returned (.bool true) ∧ Grown w w' := by
  by_cases h : 1 ≤ a0 ∧ a0 ≤ 24
  · obtain ⟨h1, h2⟩ := h
    obtain ⟨k, rfl⟩ := Int.eq_ofNat_of_zero_le (show 0 ≤ a0 by omega)
    go_enter Try.func4, Try.ntmps4
    go_wp2_with (first | (go_at_call 10; refine (str_any _ _ (by omega) (by omega)).mono ?_; rintro e w' ⟨rfl, rfl⟩) | (go_at_call 11; refine (zz_any _ _ (by omega) (by omega)).mono ?_; rintro e w' ⟨rfl, rfl⟩))
    go_ret
    exact ⟨ret_bool (by simp), Grown.refl _⟩
  · go_enter Try.func4, Try.ntmps4
    go_wp2_with fail
    all_goals go_ret
    all_goals exact ⟨rfl, Grown.refl _⟩

/-! ### THE ROW's STEP: WRITTEN OUT: LEAVE IT -/
set_option maxRecDepth 100000 in
theorem lifted (os : Os) (started : os.Started) (H : Type) (enc : TypeId × Value → H) :
    ReturnsInHanded {} Try.checked os 4 .any (Rows.fnOperatorStringMatchesSpellingTableSpec.pre6 enc Try.prog Try.f4 Rows.fnOperatorStringMatchesSpellingTableRow.domain false) (Rows.fnOperatorStringMatchesSpellingTableSpec.post enc Try.prog Try.f4 false true false false) := by
  refine returnsInHanded_of_change (C := Try.checked) own started (by kernel_rfl) Try.func4
    (ChangeSpec.witness6 (enc := enc) (C := Try.checked) false ⟨#[], #[.int .i64 0], []⟩ 8 (by kernel_rfl) (by kernel_rfl) (by kernel_rfl) (by kernel_rfl)) ?_
  intro W base args ds gs before hval0 hW hcnd _
  have hval : ∀ (j : Nat) t v, Try.f4.params[j]? = some t → args[j]? = some v → Value.okWide Try.prog W .any base t v := hval0
  have hW' := hW
  obtain ⟨p, q, hA0, hV, rfl, hfz, hnd⟩ := hW
  have hA : DataW.TrodAll enc Try.prog W 0 (fun _ => true) true Try.f4.params.toList args.toList ds p := hA0
  rw [Try.params4] at hA hval
  obtain ⟨v0, vs0, d0, ds0, p0, q0, hargs, rfl, rfl, h0, r0⟩ := trodAll_cons hA
  obtain ⟨rfl, rfl, rfl⟩ := trodAll_nil r0
  obtain rfl : args = #[v0] := by cases args; simp_all
  obtain ⟨rfl, rfl⟩ := trodVars_none hV
  obtain ⟨a0, rfl, rfl, rfl, w0⟩ := open_int Try.underlying3 (hval 0 3 v0 rfl rfl) h0
  clear hA0 hval0
  simp only [List.append_nil] at hW'
  refine (walk a0 w0 W).mono fun e W' ⟨he, hg⟩ => ?_
  subst he
  exact ⟨_, rfl, post_of_same (pa := []) (pv := []) hW' (fun _ _ _ => (trodAll_cons_mk (shut_bool Try.underlying4 _) trodAll_mk0)) (fun sp _ => (trodAll_cons_mk (shut_int Try.underlying3 w0) trodAll_mk0)) (fun _ _ => rfl) rfl
    (hg.frame _) hg.2.1 (ok_one (by kernel_rfl) rfl (okWide_bool_mk Try.underlying4 _))⟩

theorem over : Rows.fnOperatorStringMatchesSpellingTableRow.holds Try.pinned (OpenSpec.ofChange Rows.fnOperatorStringMatchesSpellingTableSpec) :=
  OpenClaim.holds_of_wide 4 Try.f4 rfl rfl rfl rfl rfl rfl rfl ⟨rfl, rfl, rfl, rfl, rfl⟩ rfl rfl rfl rfl rfl (by kernel_rfl) Try.func4 (by kernel_rfl)
    (of_decide_eq_true (by kernel_rfl)) (by unfold Func.isWrapper; first | (rw [if_pos (by decide +kernel)]; kernel_rfl) | (rw [if_neg (by decide +kernel)]; exact ⟨rfl, rfl⟩))
    (fun os started H enc _ => lifted os started H enc)

/-- ████ THE STATEMENT ████ -/
theorem proved : Rows.FnOperatorStringMatchesSpellingTableSaid :=
  over
#print axioms proved
end Go.Proofs.Ytdcehjglogfikaa.fnOperatorStringMatchesSpellingTable
