/- The walk of FnImportStringCaseTable: true at every path, alias, include path and metadata. -/
import Derived.Test.YtooalmhelfaodaaDoorImp
namespace Go.Proofs.YtooalmhelfaodaaDoor
open Go.RowKit
set_option maxRecDepth 100000
set_option linter.unusedVariables false
set_option linter.unusedSimpArgs false
def goodC (x : Nat) : Prop := 32 ≤ x ∧ x ≤ 126 ∧ x ≠ 34 ∧ x ≠ 92
set_option maxHeartbeats 2000000 in
theorem safe63 (s : ByteArray) (w : World) (hz : s.size ≤ 1048576) : Calls Tryd.prog 49 #[.string s] w (SomeBool (Prn s) w) := by
  go_enter Tryd.func49, Tryd.ntmps49
  go_wp2_with fail
  go_loop [3] (fun i => ∃ j : Nat, i = .int .i64 j ∧ j ≤ s.size ∧ Hid (∀ k (h : k < s.size), k < j → goodC s[k].toNat)) (fun i => s.size - (intOf i).toNat)
  case atStart => exact ⟨0, rfl, Nat.zero_le _, Lib.hid fun k h hk => absurd hk (by omega)⟩
  case round =>
    obtain ⟨j, rfl, hj, HG⟩ := hrel
    by_cases hlt : j < s.size
    · obtain ⟨x, hx⟩ : ∃ x : Nat, Hid (s[j].toNat = x) := ⟨_, Lib.hid rfl⟩
      have i0 : (0 : Int) ≤ (j : Int) := by omega
      have i1 : (j : Int) < (s.size : Int) := by omega
      by_cases g1 : 32 ≤ x
      · by_cases g2 : x ≤ 126
        · by_cases g3 : x = 34
          · have HX : Hid (decide ((s[j].toNat : Int) < 32) = false ∧ decide (126 < (s[j].toNat : Int)) = false ∧ ((s[j].toNat : Int) == 34) = true) := by
              rw [hx.out]; exact ⟨decide_eq_false (by omega), decide_eq_false (by omega), by rw [beq_iff_eq]; omega⟩
            obtain ⟨q1, q2, q3⟩ := HX.out
            clear g1 g2 g3
            go_wp2_with fail
            go_ret
            exact ⟨_, rfl, rfl, fun h => by cases h⟩
          · by_cases g4 : x = 92
            · have HX : Hid (decide ((s[j].toNat : Int) < 32) = false ∧ decide (126 < (s[j].toNat : Int)) = false ∧ ((s[j].toNat : Int) == 34) = false ∧ ((s[j].toNat : Int) == 92) = true) := by
                rw [hx.out]; exact ⟨decide_eq_false (by omega), decide_eq_false (by omega), by rw [beq_eq_false_iff_ne]; omega, by rw [beq_iff_eq]; omega⟩
              obtain ⟨q1, q2, q3, q4⟩ := HX.out
              clear g1 g2 g3 g4
              go_wp2_with fail
              go_ret
              exact ⟨_, rfl, rfl, fun h => by cases h⟩
            · have HX : Hid (decide ((s[j].toNat : Int) < 32) = false ∧ decide (126 < (s[j].toNat : Int)) = false ∧ ((s[j].toNat : Int) == 34) = false ∧ ((s[j].toNat : Int) == 92) = false) := by
                rw [hx.out]; exact ⟨decide_eq_false (by omega), decide_eq_false (by omega), by rw [beq_eq_false_iff_ne]; omega, by rw [beq_eq_false_iff_ne]; omega⟩
              obtain ⟨q1, q2, q3, q4⟩ := HX.out
              have HG2 : Hid (∀ k (h : k < s.size), k < j + 1 → goodC s[k].toNat) := by
                intro k h hk
                by_cases hkj : k = j
                · subst hkj; rw [hx.out]; exact ⟨g1, g2, g3, g4⟩
                · exact HG.out k h (by omega)
              clear g1 g2 g3 g4
              go_wp2_with fail
              go_round
              case rel => exact ⟨j + 1, by go_num, by omega, HG2⟩
              case measure => simp [intOf]; omega
        · have HX : Hid (decide ((s[j].toNat : Int) < 32) = false ∧ decide (126 < (s[j].toNat : Int)) = true) := by
            rw [hx.out]; exact ⟨decide_eq_false (by omega), decide_eq_true (by omega)⟩
          obtain ⟨q1, q2⟩ := HX.out
          clear g1 g2
          go_wp2_with fail
          go_ret
          exact ⟨_, rfl, rfl, fun h => by cases h⟩
      · have HX : Hid (decide ((s[j].toNat : Int) < 32) = true) := by
          rw [hx.out]; exact decide_eq_true (by omega)
        have q1 := HX.out
        clear g1
        go_wp2_with fail
        go_ret
        exact ⟨_, rfl, rfl, fun h => by cases h⟩
    · have HP : Hid (Prn s) := fun i h => HG.out i h (by omega)
      go_wp2_with fail
      go_ret
      exact ⟨_, rfl, rfl, fun _ => HP⟩
theorem quoted63 (s : ByteArray) (w : World) (hz : s.size ≤ 1048576) : Calls Tryd.prog 50 #[.string s] w fun e w' => e = .returned (.string ((⟨#[34]⟩ : ByteArray) ++ s ++ ⟨#[34]⟩)) ∧ w = w' := by
  go_enter Tryd.func50, Tryd.ntmps50
  go_wp2_with fail
  go_ret
  exact ⟨rfl, rfl⟩
theorem zzbI (p a n k v : ByteArray) (b : Bool) (w : World) : Calls Tryd.prog 48 #[.string p, .string a, .string n, .bool b, .string k, .string v] w (SomeBool True w) := by
  go_enter Tryd.func48, Tryd.ntmps48
  go_wp2_with fail
  all_goals
    go_ret
    exact ⟨_, rfl, rfl, fun _ => trivial⟩
/-- a quoted text, as the law spells it -/
theorem qq_list (s : ByteArray) : ((⟨#[34]⟩ : ByteArray) ++ s ++ ⟨#[34]⟩).data.toList = qT s := by
  rw [ByteArray.data_append, ByteArray.data_append, Array.toList_append, Array.toList_append]
  rfl
theorem ret_boolI {S T : ByteArray} {l : List UInt8} (h1 : S = ⟨l.toArray⟩) (h2 : T.data.toList = l) : Ending.returned (.bool (S.toList == T.toList)) = .returned (.bool true) := by
  subst h1
  have e : (⟨l.toArray⟩ : ByteArray).toList = T.toList := by rw [Lib.toList_data, Lib.toList_data, h2]
  rw [e, beq_self_eq_true]
theorem size_zero' {s : ByteArray} (h : s.size = 0) : s = ⟨#[]⟩ := by
  obtain ⟨d⟩ := s
  have : d.size = 0 := h
  rw [Array.eq_empty_of_size_eq_zero this]
abbrev imNew (w : World) (p a n k v : ByteArray) : World := ((((w.alloc (.cells #[.string p, .string a, .string n, .pointer (some ⟨w.heap.size + 1 + 1 + 1 + 1, 0, none⟩)] 75)).alloc (.cells #[.pointer none, .pointer none, .string ⟨#[]⟩, .string v, .bool false, .bool false, .bool false] 81)).alloc (.cells #[.string k, .string ⟨#[]⟩, .pointer (some ⟨w.heap.size + 1, 0, none⟩)] 83)).alloc (.cells #[.pointer (some ⟨w.heap.size + 1 + 1, 0, none⟩)] 77)).alloc (.cells #[.slice (some ⟨w.heap.size + 1 + 1 + 1, 0, none⟩) 1 1] 86)
theorem im_new (w : World) (p a n k v : ByteArray) (hv : Prn v) : ImIs (imNew w p a n k v) (imNew w p a n k v).heap.size w.heap.size p a n (some (k, v)) := by
  refine ⟨by simp; omega, _, ((((Blk.new w _ _).alloc _).alloc _).alloc _).alloc _, w.heap.size + 1 + 1 + 1 + 1, w.heap.size + 1 + 1 + 1, w.heap.size + 1 + 1, w.heap.size + 1, rfl, by simp, by simp, by simp, by simp, Blk.at_ _ _ (by simp), (Blk.at_ _ _ (by simp)).alloc _, ((Blk.at_ _ _ (by simp)).alloc _).alloc _, (((Blk.at_ _ _ (by simp)).alloc _).alloc _).alloc _, hv⟩
theorem im_new_below (w : World) (p a n k v : ByteArray) : Below w.heap.size w (imNew w p a n k v) :=
  (((((Below.refl _ _).alloc (Nat.le_refl _) _).alloc (by simp) _).alloc (by simp; omega) _).alloc (by simp; omega) _).alloc (by simp; omega) _
set_option maxHeartbeats 8000000 in
theorem law_imp (p a n k v : ByteArray) (b : Bool) (w : World) :
    Calls Tryd.prog 13 #[.string p, .string a, .string n, .bool b, .string k, .string v] w fun e w' => e = .returned (.bool true) ∧ Below w.heap.size w w' := by
  have hz := Lib.hid (zzbI p a n k v b w)
  go_enter Tryd.func13, Tryd.ntmps13
  go_wp2_with fail
  with_reducible refine (hz.out).mono ?_
  rintro e1 w1 ⟨b0, rfl, rfl, _⟩
  cases b0 with
  | false =>
    go_wp2_with fail
    go_ret
    exact ⟨rfl, Below.refl _ _⟩
  | true =>
    clear hz
    by_cases np : p.size ≤ 1048576
    · skip
      by_cases na : a.size ≤ 1048576
      · skip
        by_cases nn : n.size ≤ 1048576
        · skip
          by_cases nk : k.size ≤ 1048576
          · skip
            by_cases nv : v.size ≤ 1048576
            · skip
              by_cases hsum : p.size + a.size + n.size + k.size + v.size ≤ 1048576
              · skip
                have hd : ¬ (1048576 : Int) < (p.size : Int) + (a.size : Int) + (n.size : Int) + (k.size : Int) + (v.size : Int) := by omega
                have f1 := Lib.hid (safe63 p w np)
                have f2 := Lib.hid (safe63 v w nv)
                have f3 := Lib.hid (safe63 n w nn)
                have u1 := Lib.hid fun W => quoted63 p W np
                have u2 := Lib.hid fun W => quoted63 n W nn
                have u3 := Lib.hid fun W => quoted63 v W nv
                have u4 := Lib.hid fun W => quoted63 ⟨#[]⟩ W (by show 0 ≤ _; omega)
                go_wp2_with fail
                with_reducible refine (f1.out).mono ?_
                rintro e2 w2 ⟨b1, rfl, rfl, hp⟩
                cases b1 with
                | false =>
                  go_wp2_with fail
                  go_ret
                  exact ⟨rfl, Below.refl _ _⟩
                | true =>
                  have HP := Lib.hid (hp rfl)
                  clear hp f1
                  go_wp2_with fail
                  with_reducible refine (f2.out).mono ?_
                  rintro e3 w3 ⟨b2, rfl, rfl, hv⟩
                  cases b2 with
                  | false =>
                    go_wp2_with fail
                    go_ret
                    exact ⟨rfl, Below.refl _ _⟩
                  | true =>
                    have HV := Lib.hid (hv rfl)
                    clear hv f2
                    by_cases hp0 : p.size = 0
                    · obtain rfl : p = ⟨#[]⟩ := size_zero' hp0
                      clear hp0
                      go_wp2_with fail
                      with_reducible refine (f3.out).mono ?_
                      rintro e4 w4 ⟨b3, rfl, rfl, hn⟩
                      cases b3 with
                      | false =>
                        go_wp2_with fail
                        go_ret
                        exact ⟨rfl, Below.refl _ _⟩
                      | true =>
                        have HN := Lib.hid (hn rfl)
                        clear hn f3
                        cases b with
                        | false =>
                          go_wp2_with fail
                          with_reducible refine (u2.out _).mono ?_
                          rintro e5 w5 ⟨rfl, rfl⟩
                          have hI : ImIs (w.alloc (.cells #[.string ⟨#[]⟩, .string a, .string n, .pointer none] 75)) (w.alloc (.cells #[.string ⟨#[]⟩, .string a, .string n, .pointer none] 75)).heap.size w.heap.size ⟨#[]⟩ a n none := ⟨by simp, _, Blk.new w _ _, rfl⟩
                          have hS0 := Lib.hid (imStr w.heap.size ⟨#[]⟩ a n none _ hI HP.out (fun _ => HN.out) (by simp only [metaN]; (try show 0 + _ + _ + _ + 60 ≤ _); (try show _ + _ + _ + (0 + _ + 16) + 60 ≤ _); (try show 0 + _ + _ + (0 + _ + 16) + 60 ≤ _); omega))
                          obtain ⟨S, hSS, hS⟩ : ∃ S : ByteArray, Hid (S = ⟨(imT ⟨#[]⟩ a n none).toArray⟩) ∧ Hid (Calls Tryd.prog 51 #[.pointer (some ⟨w.heap.size, 0, none⟩)] _ fun r w' => r = .returned (.string S) ∧ Below _ _ w') := ⟨_, Lib.hid rfl, hS0⟩
                          clear hI hS0
                          go_wp2_with fail
                          with_reducible refine (hS.out).mono ?_
                          rintro e8 w8 ⟨rfl, hb8⟩
                          go_wp2_with fail
                          go_ret
                          exact ⟨ret_boolI hSS.out (by unfold imT headT; rw [if_pos (show (⟨#[]⟩ : ByteArray).size = 0 from rfl)]; simp only [metaT]; simp [qT]), ((Below.refl w.heap.size w).alloc (Nat.le_refl _) _).trans (hb8.mono (by simp))⟩
                        | true =>
                          by_cases hk0 : k.size = 0
                          · obtain rfl : k = ⟨#[]⟩ := size_zero' hk0
                            clear hk0
                            go_wp2_with fail
                            with_reducible refine (u2.out _).mono ?_
                            rintro e5 w5 ⟨rfl, rfl⟩
                            go_wp2_with fail
                            with_reducible refine (u4.out _).mono ?_
                            rintro e6 w6 ⟨rfl, rfl⟩
                            go_wp2_with fail
                            with_reducible refine (u3.out _).mono ?_
                            rintro e7 w7 ⟨rfl, rfl⟩
                            have hI := im_new w ⟨#[]⟩ a n ⟨#[]⟩ v HV.out
                            have hS0 := Lib.hid (imStr w.heap.size ⟨#[]⟩ a n (some (⟨#[]⟩, v)) _ hI HP.out (fun _ => HN.out) (by simp only [metaN]; (try show 0 + _ + _ + _ + 60 ≤ _); (try show _ + _ + _ + (0 + _ + 16) + 60 ≤ _); (try show 0 + _ + _ + (0 + _ + 16) + 60 ≤ _); omega))
                            obtain ⟨S, hSS, hS⟩ : ∃ S : ByteArray, Hid (S = ⟨(imT ⟨#[]⟩ a n (some (⟨#[]⟩, v))).toArray⟩) ∧ Hid (Calls Tryd.prog 51 #[.pointer (some ⟨w.heap.size, 0, none⟩)] _ fun r w' => r = .returned (.string S) ∧ Below _ _ w') := ⟨_, Lib.hid rfl, hS0⟩
                            clear hI hS0
                            go_wp2_with fail
                            with_reducible refine (hS.out).mono ?_
                            rintro e8 w8 ⟨rfl, hb8⟩
                            go_wp2_with fail
                            go_ret
                            exact ⟨ret_boolI hSS.out (by unfold imT headT; rw [if_pos (show (⟨#[]⟩ : ByteArray).size = 0 from rfl)]; simp only [metaT, kvT', keyT]; rw [if_pos (show (⟨#[]⟩ : ByteArray).size = 0 from rfl)]; simp [qT]), (im_new_below w _ _ _ _ _).trans (hb8.mono (by simp; omega))⟩
                          · obtain ⟨k1, k2⟩ := size_ne hk0
                            have HK := Lib.hid hk0
                            clear hk0
                            go_wp2_with fail
                            with_reducible refine (u2.out _).mono ?_
                            rintro e5 w5 ⟨rfl, rfl⟩
                            go_wp2_with fail
                            with_reducible refine (u3.out _).mono ?_
                            rintro e7 w7 ⟨rfl, rfl⟩
                            have hI := im_new w ⟨#[]⟩ a n k v HV.out
                            have hS0 := Lib.hid (imStr w.heap.size ⟨#[]⟩ a n (some (k, v)) _ hI HP.out (fun _ => HN.out) (by simp only [metaN]; (try show 0 + _ + _ + _ + 60 ≤ _); (try show _ + _ + _ + (0 + _ + 16) + 60 ≤ _); (try show 0 + _ + _ + (0 + _ + 16) + 60 ≤ _); omega))
                            obtain ⟨S, hSS, hS⟩ : ∃ S : ByteArray, Hid (S = ⟨(imT ⟨#[]⟩ a n (some (k, v))).toArray⟩) ∧ Hid (Calls Tryd.prog 51 #[.pointer (some ⟨w.heap.size, 0, none⟩)] _ fun r w' => r = .returned (.string S) ∧ Below _ _ w') := ⟨_, Lib.hid rfl, hS0⟩
                            clear hI hS0
                            go_wp2_with fail
                            with_reducible refine (hS.out).mono ?_
                            rintro e8 w8 ⟨rfl, hb8⟩
                            go_wp2_with fail
                            go_ret
                            exact ⟨ret_boolI hSS.out (by unfold imT headT; rw [if_pos (show (⟨#[]⟩ : ByteArray).size = 0 from rfl)]; simp only [metaT, kvT', keyT]; rw [if_neg HK.out]; simp [qT]), (im_new_below w _ _ _ _ _).trans (hb8.mono (by simp; omega))⟩
                    · obtain ⟨j1, j2⟩ := size_ne hp0
                      have HP0 := Lib.hid hp0
                      clear hp0 f3
                      cases b with
                      | false =>
                        go_wp2_with fail
                        with_reducible refine (u1.out _).mono ?_
                        rintro e5 w5 ⟨rfl, rfl⟩
                        have hI : ImIs (w.alloc (.cells #[.string p, .string a, .string n, .pointer none] 75)) (w.alloc (.cells #[.string p, .string a, .string n, .pointer none] 75)).heap.size w.heap.size p a n none := ⟨by simp, _, Blk.new w _ _, rfl⟩
                        have hS0 := Lib.hid (imStr w.heap.size p a n none _ hI HP.out (fun h => absurd h HP0.out) (by simp only [metaN]; (try show 0 + _ + _ + _ + 60 ≤ _); (try show _ + _ + _ + (0 + _ + 16) + 60 ≤ _); (try show 0 + _ + _ + (0 + _ + 16) + 60 ≤ _); omega))
                        obtain ⟨S, hSS, hS⟩ : ∃ S : ByteArray, Hid (S = ⟨(imT p a n none).toArray⟩) ∧ Hid (Calls Tryd.prog 51 #[.pointer (some ⟨w.heap.size, 0, none⟩)] _ fun r w' => r = .returned (.string S) ∧ Below _ _ w') := ⟨_, Lib.hid rfl, hS0⟩
                        clear hI hS0
                        go_wp2_with fail
                        with_reducible refine (hS.out).mono ?_
                        rintro e8 w8 ⟨rfl, hb8⟩
                        go_wp2_with fail
                        go_ret
                        exact ⟨ret_boolI hSS.out (by unfold imT headT; rw [if_neg HP0.out]; simp only [metaT]; simp [qT]), ((Below.refl w.heap.size w).alloc (Nat.le_refl _) _).trans (hb8.mono (by simp))⟩
                      | true =>
                        by_cases hk0 : k.size = 0
                        · obtain rfl : k = ⟨#[]⟩ := size_zero' hk0
                          clear hk0
                          go_wp2_with fail
                          with_reducible refine (u1.out _).mono ?_
                          rintro e5 w5 ⟨rfl, rfl⟩
                          go_wp2_with fail
                          with_reducible refine (u4.out _).mono ?_
                          rintro e6 w6 ⟨rfl, rfl⟩
                          go_wp2_with fail
                          with_reducible refine (u3.out _).mono ?_
                          rintro e7 w7 ⟨rfl, rfl⟩
                          have hI := im_new w p a n ⟨#[]⟩ v HV.out
                          have hS0 := Lib.hid (imStr w.heap.size p a n (some (⟨#[]⟩, v)) _ hI HP.out (fun h => absurd h HP0.out) (by simp only [metaN]; (try show 0 + _ + _ + _ + 60 ≤ _); (try show _ + _ + _ + (0 + _ + 16) + 60 ≤ _); (try show 0 + _ + _ + (0 + _ + 16) + 60 ≤ _); omega))
                          obtain ⟨S, hSS, hS⟩ : ∃ S : ByteArray, Hid (S = ⟨(imT p a n (some (⟨#[]⟩, v))).toArray⟩) ∧ Hid (Calls Tryd.prog 51 #[.pointer (some ⟨w.heap.size, 0, none⟩)] _ fun r w' => r = .returned (.string S) ∧ Below _ _ w') := ⟨_, Lib.hid rfl, hS0⟩
                          clear hI hS0
                          go_wp2_with fail
                          with_reducible refine (hS.out).mono ?_
                          rintro e8 w8 ⟨rfl, hb8⟩
                          go_wp2_with fail
                          go_ret
                          exact ⟨ret_boolI hSS.out (by unfold imT headT; rw [if_neg HP0.out]; simp only [metaT, kvT', keyT]; rw [if_pos (show (⟨#[]⟩ : ByteArray).size = 0 from rfl)]; simp [qT]), (im_new_below w _ _ _ _ _).trans (hb8.mono (by simp; omega))⟩
                        · obtain ⟨k1, k2⟩ := size_ne hk0
                          have HK := Lib.hid hk0
                          clear hk0
                          go_wp2_with fail
                          with_reducible refine (u1.out _).mono ?_
                          rintro e5 w5 ⟨rfl, rfl⟩
                          go_wp2_with fail
                          with_reducible refine (u3.out _).mono ?_
                          rintro e7 w7 ⟨rfl, rfl⟩
                          have hI := im_new w p a n k v HV.out
                          have hS0 := Lib.hid (imStr w.heap.size p a n (some (k, v)) _ hI HP.out (fun h => absurd h HP0.out) (by simp only [metaN]; (try show 0 + _ + _ + _ + 60 ≤ _); (try show _ + _ + _ + (0 + _ + 16) + 60 ≤ _); (try show 0 + _ + _ + (0 + _ + 16) + 60 ≤ _); omega))
                          obtain ⟨S, hSS, hS⟩ : ∃ S : ByteArray, Hid (S = ⟨(imT p a n (some (k, v))).toArray⟩) ∧ Hid (Calls Tryd.prog 51 #[.pointer (some ⟨w.heap.size, 0, none⟩)] _ fun r w' => r = .returned (.string S) ∧ Below _ _ w') := ⟨_, Lib.hid rfl, hS0⟩
                          clear hI hS0
                          go_wp2_with fail
                          with_reducible refine (hS.out).mono ?_
                          rintro e8 w8 ⟨rfl, hb8⟩
                          go_wp2_with fail
                          go_ret
                          exact ⟨ret_boolI hSS.out (by unfold imT headT; rw [if_neg HP0.out]; simp only [metaT, kvT', keyT]; rw [if_neg HK.out]; simp [qT]), (im_new_below w _ _ _ _ _).trans (hb8.mono (by simp; omega))⟩
              · have hd : (1048576 : Int) < (p.size : Int) + (a.size : Int) + (n.size : Int) + (k.size : Int) + (v.size : Int) := by omega
                go_wp2_with fail
                go_ret
                exact ⟨rfl, Below.refl _ _⟩
            · go_wp2_with fail
              go_ret
              exact ⟨rfl, Below.refl _ _⟩
          · go_wp2_with fail
            go_ret
            exact ⟨rfl, Below.refl _ _⟩
        · go_wp2_with fail
          go_ret
          exact ⟨rfl, Below.refl _ _⟩
      · go_wp2_with fail
        go_ret
        exact ⟨rfl, Below.refl _ _⟩
    · go_wp2_with fail
      go_ret
      exact ⟨rfl, Below.refl _ _⟩
end Go.Proofs.YtooalmhelfaodaaDoor
