/- validUTF8B2 at any text. -/
import Derived.Test.YtbjjcampiknnpaaDoorUr
import Derived.Test.YtbjjcampiknnpaaDoorMqw
namespace Go.Proofs.YtbjjcampiknnpaaDoor
open Go.RowKit
set_option maxRecDepth 100000
set_option linter.unusedVariables false
set_option linter.unusedSimpArgs false
theorem oku_step {l : List UInt8} (hne : l ≠ []) (h : bt l 0 < 128 ∨ seqL l ≠ 0) : OkU l ↔ OkU (l.drop (stepL l).1) :=
  ⟨fun g => by cases g with
    | nil => exact absurd rfl hne
    | step _ _ h3 => exact h3, OkU.step hne h⟩
theorem oku_bad {l : List UInt8} (hne : l ≠ []) (h1 : ¬ bt l 0 < 128) (h2 : seqL l = 0) : ¬ OkU l := fun g => by
  cases g with
  | nil => exact hne rfl
  | step _ h3 _ => rcases h3 with h3 | h3
                   · exact h1 h3
                   · exact h3 h2
def ValidU (s : ByteArray) (w : World) (e : Ending) (w' : World) : Prop := ∃ b : Bool, e = .returned (.bool b) ∧ w = w' ∧ (b = true ↔ OkU s.data.toList)
set_option maxHeartbeats 2000000 in
theorem validU_any (s : ByteArray) (w : World) (hs : s.size ≤ 16777216) : Calls Tryd.prog 22 #[.string s] w (ValidU s w) := by
  have HV := Lib.hid fun i (hi : i < s.size) => validSeq_wide s i w hi hs
  go_enter Tryd.func22, Tryd.ntmps22
  go_wp2_with fail
  go_loopw [3] (fun iv wr => ∃ j : Nat, iv = .int .i64 j ∧ j ≤ s.size ∧ w = wr ∧ Hid (OkU (s.data.toList.drop j) ↔ OkU s.data.toList)) (fun iv _ => s.size - (intOf iv).toNat)
  case atStart => exact ⟨0, rfl, Nat.zero_le _, rfl, Lib.hid Iff.rfl⟩
  case round =>
    obtain ⟨j, rfl, hj, hw, HI⟩ := hrel
    subst hw
    by_cases hlt : j < s.size
    · have hne : s.data.toList.drop j ≠ [] := by
        intro e
        have := congrArg List.length e
        rw [List.length_drop, size_list', List.length_nil] at this
        omega
      have hb0 : bt (s.data.toList.drop j) 0 = s[j].toNat := bt_at s j 0 (by omega)
      have j0 : (0 : Int) ≤ j := by omega
      have j1 : (j : Int) < s.size := by omega
      have HNE := Lib.hid hne
      have HB0 := Lib.hid hb0
      clear hne hb0
      by_cases hb : s[j].toNat < 128
      · have hs1 : (stepL (s.data.toList.drop j)).1 = 1 := by unfold stepL; rw [if_pos (by rw [HB0.out]; exact hb)]
        have HX := Lib.hid (oku_step HNE.out (Or.inl (by rw [HB0.out]; exact hb)))
        rw [hs1, List.drop_drop] at HX
        have hbi : ((s[j].toNat : Nat) : Int) < 128 := by omega
        clear hs1
        go_wp2_with fail
        go_roundw
        case rel => exact ⟨j + 1, by go_num, by omega, trivial, Lib.hid (HX.out.symm.trans HI.out)⟩
        case measure => simp [intOf]; omega
      · obtain ⟨k, hk⟩ : ∃ k, Hid (seqL (s.data.toList.drop j) = k) := ⟨_, Lib.hid rfl⟩
        have hv := Lib.hid (HV.out j hlt)
        rw [hk.out] at hv
        have hbi : ¬ (((s[j].toNat : Nat) : Int) < 128) := by omega
        by_cases hk0 : k = 0
        · have hbad := Lib.hid (oku_bad HNE.out (by rw [HB0.out]; exact hb) (by rw [hk.out]; exact hk0))
          subst hk0
          go_wp2_with fail
          with_reducible refine (hv.out).mono ?_
          rintro e1 w1 ⟨rfl, rfl⟩
          go_wp2_with fail
          go_ret
          exact ⟨_, rfl, rfl, by simp; exact fun h => hbad.out (HI.out.2 h)⟩
        · have hsl := seq_len (l := s.data.toList.drop j) (by rw [hk.out]; exact hk0)
          rw [hk.out, List.length_drop, size_list'] at hsl
          have hs1 : (stepL (s.data.toList.drop j)).1 = k := by unfold stepL; rw [if_neg (by rw [HB0.out]; exact hb), if_neg (by rw [hk.out]; exact hk0)]; exact hk.out
          have HX := Lib.hid (oku_step HNE.out (Or.inr (by rw [hk.out]; exact hk0)))
          rw [hs1, List.drop_drop] at HX
          have hki : ¬ ((k : Int) = 0) := by omega
          clear hs1
          go_wp2_with fail
          with_reducible refine (hv.out).mono ?_
          rintro e1 w1 ⟨rfl, rfl⟩
          go_wp2_with fail
          go_roundw
          case rel => exact ⟨j + k, by go_num, by omega, trivial, Lib.hid (HX.out.symm.trans HI.out)⟩
          case measure => simp [intOf]; omega
    · obtain rfl : j = s.size := by omega
      have h1 : OkU s.data.toList := HI.out.1 (by rw [List.drop_of_length_le (by rw [size_list']; omega)]; exact OkU.nil)
      have H1 := Lib.hid h1
      clear h1
      go_wp2_with fail
      go_ret
      exact ⟨true, rfl, rfl, fun _ => H1.out, fun _ => rfl⟩
end Go.Proofs.YtbjjcampiknnpaaDoor
