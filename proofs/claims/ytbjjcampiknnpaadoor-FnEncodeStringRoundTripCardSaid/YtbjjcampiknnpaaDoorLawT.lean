/- The walk of FnEncodeStringRoundTrip: true at every string. -/
import Derived.Test.YtbjjcampiknnpaaDoorLawS
import Derived.Test.YtbjjcampiknnpaaDoorVu
import Derived.Test.YtbjjcampiknnpaaDoorUn
namespace Go.Proofs.YtbjjcampiknnpaaDoor
open Go.RowKit
set_option maxRecDepth 100000
set_option linter.unusedVariables false
set_option linter.unusedSimpArgs false
theorem zzb64r (s : ByteArray) (w : World) : Calls Tryd.prog 21 #[.string s] w fun e w' => ∃ b : Bool, e = .returned (.bool b) ∧ w = w' := by
  go_enter Tryd.func21, Tryd.ntmps21
  go_wp2_with fail
  all_goals
    go_ret
    exact ⟨_, rfl, rfl⟩
set_option maxHeartbeats 4000000 in
theorem law_round (s : ByteArray) (w : World) (hT : Lib.Utf8Tabs 0 1 w) :
    Calls Tryd.prog 8 #[.string s] w fun e w' => e = .returned (.bool true) ∧ Below w.heap.size w w' := by
  have hz := Lib.hid (zzb64r s w)
  have HT := Lib.hid hT
  clear hT
  go_enter Tryd.func8, Tryd.ntmps8
  go_wp2_with fail
  with_reducible refine (hz.out).mono ?_
  rintro e1 w1 ⟨b, rfl, rfl⟩
  cases b with
  | false =>
    go_wp2_with fail
    go_ret
    exact ⟨rfl, Below.refl _ _⟩
  | true =>
    by_cases hs : s.size ≤ 1048576
    · have h1 := Lib.hid (zzEnc s w hs HT.out)
      obtain ⟨S, hS, hSl⟩ : ∃ S, Hid (quoted s = S) ∧ Hid (S.data.toList = [34] ++ enc s.data.toList ++ [34]) := ⟨_, Lib.hid rfl, Lib.hid (by simp [quoted])⟩
      rw [hS.out] at h1
      obtain ⟨d, hd, hdo⟩ := uq_enc _ s.data.toList (Nat.le_refl _)
      have hSs : S.size ≤ 6 * s.size + 2 := by
        have h := enc_len s.data.toList.length s.data.toList (Nat.le_refl _)
        rw [← size_list', hSl.out]
        rw [size_list'] at h
        simp only [List.length_append, List.length_cons, List.length_nil]
        omega
      have HOK : Hid (OkU S.data.toList) := Lib.hid (by rw [hSl.out]; exact out_ok _)
      have HB : Hid (∀ (i : Nat) (h : i < S.size), 32 ≤ S[i].toNat ∧ S[i].toNat ≠ 127) := Lib.hid fun i h => by
        have hm : S[i] ∈ S.data.toList := by
          have hl : i < S.data.toList.length := by rw [size_list']; exact h
          have := List.getElem_mem hl
          exact this
        rw [hSl.out] at hm
        rcases List.mem_append.1 hm with hm | hm
        · rcases List.mem_append.1 hm with hm | hm
          · simp at hm; rw [hm]; decide
          · exact (enc_ok _ s.data.toList [] (Nat.le_refl _) OkU.nil).2 _ hm
        · simp at hm; rw [hm]; decide
      have HU := Lib.hid fun W => unquote_any S (enc s.data.toList) d W (by omega) hSl.out hd
      have HV := Lib.hid fun W => validU_any S W (by omega)
      have HV2 := Lib.hid fun W => validU_any s W (by omega)
      have HDO := Lib.hid hdo
      obtain ⟨D, hD⟩ : ∃ D : ByteArray, Hid (D = ⟨d.toArray⟩) := ⟨_, Lib.hid rfl⟩
      have hSi : ¬ ((6 : Int) * (s.size : Int) + 2 < (S.size : Int)) := by omega
      have hSz : S.size ≤ 6291458 := by omega
      clear hd hdo
      go_wp2_with fail
      with_reducible refine (h1.out).mono ?_
      rintro e2 w2 ⟨rfl, hb2⟩
      go_wp2_with fail
      with_reducible refine (HV.out _).mono ?_
      rintro e3 w3 ⟨b, rfl, rfl, hbo⟩
      cases b with
      | false => exact absurd (hbo.2 HOK.out) (by simp)
      | true =>
        clear hbo
        go_wp2_with fail
        go_loopw [4] (fun iv wr => ∃ j : Nat, iv = .int .i64 j ∧ j ≤ S.size ∧ Below w.heap.size w wr) (fun iv _ => S.size - (intOf iv).toNat)
        case atStart => exact ⟨0, rfl, Nat.zero_le _, hb2⟩
        case round =>
          obtain ⟨j, rfl, hj, hbw⟩ := hrel
          by_cases hlt : j < S.size
          · obtain ⟨b1, b2⟩ := HB.out j hlt
            obtain ⟨x, hx⟩ : ∃ x : Nat, Hid (S[j].toNat = x) := ⟨_, Lib.hid rfl⟩
            have hxe : ((S[j].toNat : Nat) : Int) = (x : Int) := by rw [hx.out]
            rw [hx.out] at b1 b2
            have j0 : (0 : Int) ≤ (j : Int) := by omega
            have j1 : (j : Int) < (S.size : Int) := by omega
            have n1 : ¬ ((x : Int) < 32) := by omega
            have n2 : ((x : Int) == 127) = false := by rw [beq_eq_false_iff_ne]; omega
            have n3 : ¬ ((x : Int) = 127) := by omega
            go_wp2_with fail
            go_roundw
            case rel => exact ⟨j + 1, by go_num, by omega, hbw⟩
            case measure => simp [intOf]; omega
          · have hu := Lib.hid (HU.out wr)
            go_wp2_with fail
            with_reducible refine (hu.out).mono ?_
            rintro e4 w4 ⟨rfl, hb4⟩
            rw [← hD.out]
            have HB4 := Lib.hid (hbw.trans (hb4.mono hbw.size))
            clear hb4 hbw
            go_wp2_with fail
            with_reducible refine (HV2.out _).mono ?_
            rintro e5 w5 ⟨b, rfl, rfl, hbo⟩
            cases b with
            | false =>
              go_wp2_with fail
              go_ret
              exact ⟨rfl, HB4.out⟩
            | true =>
              have hds : D = s := by
                rw [hD.out, HDO.out (hbo.1 rfl)]
              subst hds
              go_wp2_with fail
              go_ret
              exact ⟨by simp, HB4.out⟩
    · go_wp2_with fail
      go_ret
      exact ⟨rfl, Below.refl _ _⟩
end Go.Proofs.YtbjjcampiknnpaaDoor
