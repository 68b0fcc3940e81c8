/- validUTF8 at any text: where it says true the text is well-formed. -/
import Derived.Test.YtbjjcampiknnpaaDoorVv
import Derived.Test.YtbjjcampiknnpaaDoorVu
namespace Go.Proofs.YtbjjcampiknnpaaDoor
open Go.RowKit
set_option maxRecDepth 100000
set_option linter.unusedVariables false
set_option linter.unusedSimpArgs false
theorem seq2 {l : List UInt8} {x y1 : Nat} (h0 : bt l 0 = x) (h1 : bt l 1 = y1) (a : 192 ≤ x ∧ x < 224) (b1 : 128 ≤ y1 ∧ y1 < 192) (g : 128 ≤ x % 32 * 64 + y1 % 64) : seqL l = 2 := by
  unfold seqL
  rw [h0, h1, if_pos (by omega), if_pos (by omega)]
theorem seq3 {l : List UInt8} {x y1 y2 : Nat} (h0 : bt l 0 = x) (h1 : bt l 1 = y1) (h2 : bt l 2 = y2) (a : 224 ≤ x ∧ x < 240) (b1 : 128 ≤ y1 ∧ y1 < 192) (b2 : 128 ≤ y2 ∧ y2 < 192) (g : 2048 ≤ (x % 16 * 64 + y1 % 64) * 64 + y2 % 64) (g2 : ¬ (55296 ≤ (x % 16 * 64 + y1 % 64) * 64 + y2 % 64 ∧ (x % 16 * 64 + y1 % 64) * 64 + y2 % 64 ≤ 57343)) : seqL l = 3 := by
  unfold seqL lo3 hi3
  rw [h0, h1, h2, if_neg (by omega), if_pos (by omega), if_pos]
  refine ⟨⟨?_, ?_⟩, by omega⟩ <;> split <;> omega
theorem seq4 {l : List UInt8} {x y1 y2 y3 : Nat} (h0 : bt l 0 = x) (h1 : bt l 1 = y1) (h2 : bt l 2 = y2) (h3 : bt l 3 = y3) (a : 240 ≤ x ∧ x < 248) (b1 : 128 ≤ y1 ∧ y1 < 192) (b2 : 128 ≤ y2 ∧ y2 < 192) (b3 : 128 ≤ y3 ∧ y3 < 192) (g : 65536 ≤ ((x % 8 * 64 + y1 % 64) * 64 + y2 % 64) * 64 + y3 % 64) (g2 : ((x % 8 * 64 + y1 % 64) * 64 + y2 % 64) * 64 + y3 % 64 ≤ 1114111) : seqL l = 4 := by
  unfold seqL lo4 hi4
  rw [h0, h1, h2, h3, if_neg (by omega), if_neg (by omega), if_pos (by omega), if_pos]
  refine ⟨⟨?_, ?_⟩, by omega⟩ <;> split <;> omega
def SayU (s : ByteArray) (w : World) (e : Ending) (w' : World) : Prop := ∃ b : Bool, e = .returned (.bool b) ∧ w = w' ∧ (b = true → OkU s.data.toList)
/-- a byte read: its value, its bits -/
theorem byte_facts (s : ByteArray) (j i : Nat) (h : j + i < s.size) : ∃ y : Nat, y < 256 ∧ Hid (bt (s.data.toList.drop j) i = y) ∧ ((s[j + i].toNat : Nat) : Int) = (y : Int) ∧ bits .and .u8 (y : Int) 192 = ((y / 64 * 64 : Nat) : Int) ∧ bits .and .u8 (y : Int) 63 = ((y % 64 : Nat) : Int) := by
  have hb := bt_at s j i h
  have hl : s[j + i].toNat < 256 := s[j + i].toNat_lt
  obtain ⟨_, _, _, _, _, _, f7, f8⟩ := and_facts ⟨s[j + i].toNat, hl⟩
  exact ⟨s[j + i].toNat, hl, Lib.hid hb, rfl, f7, f8⟩
set_option maxHeartbeats 16000000 in
theorem validSay (s : ByteArray) (w : World) (hs : s.size ≤ 16777216) : Calls Tryd.prog 20 #[.string s] w (SayU s w) := by
  go_enter Tryd.func20, Tryd.ntmps20
  go_wp2_with fail
  go_loopw [3] (fun iv wr => ∃ j : Nat, iv = .int .i64 j ∧ j ≤ s.size ∧ w = wr ∧ Hid (OkU (s.data.toList.drop j) → OkU s.data.toList)) (fun iv _ => s.size - (intOf iv).toNat)
  case atStart => exact ⟨0, rfl, Nat.zero_le _, rfl, Lib.hid fun h => h⟩
  case round =>
    obtain ⟨j, rfl, hj, hw, HI⟩ := hrel
    subst hw
    by_cases hlt : j < s.size
    · have hne : s.data.toList.drop j ≠ [] := by
        intro e
        have := congrArg List.length e
        rw [List.length_drop, size_list', List.length_nil] at this
        omega
      have HNE := Lib.hid hne
      have hb0 : bt (s.data.toList.drop j) 0 = s[j].toNat := bt_at s j 0 (by omega)
      obtain ⟨x, hx⟩ : ∃ x : Nat, Hid (s[j].toNat = x) := ⟨_, Lib.hid rfl⟩
      have hx8 : x < 256 := by rw [← hx.out]; exact s[j].toNat_lt
      have hxe : ((s[j].toNat : Nat) : Int) = (x : Int) := by rw [hx.out]
      have HB0 : Hid (bt (s.data.toList.drop j) 0 = x) := Lib.hid (by rw [hb0, hx.out])
      obtain ⟨f1, f2, f3, f4, f5, f6, _, _⟩ := and_facts ⟨x, hx8⟩
      simp only at f1 f2 f3 f4 f5 f6
      have j0 : (0 : Int) ≤ j := by omega
      have j1 : (j : Int) < s.size := by omega
      clear hne hb0 hx
      by_cases hb : x < 128
      · have hs1 : (stepL (s.data.toList.drop j)).1 = 1 := by unfold stepL; rw [if_pos (by rw [HB0.out]; exact hb)]
        have HX := Lib.hid (oku_step HNE.out (Or.inl (by rw [HB0.out]; exact hb)))
        rw [hs1, List.drop_drop] at HX
        have hbi : (x : Int) < 128 := by omega
        clear hs1
        go_wp2_with fail
        go_roundw
        case rel => exact ⟨j + 1, by go_num, by omega, trivial, Lib.hid fun h => HI.out (HX.out.2 h)⟩
        case measure => simp [intOf]; omega
      · have hbi : ¬ ((x : Int) < 128) := by omega
        by_cases hc1 : 192 ≤ x ∧ x < 224
        · as_aux_lemma =>
            have c1 : bits .and .u8 (x : Int) 224 = 192 := by rw [f1]; show ((x / 32 * 32 : Nat) : Int) = 192; omega
            obtain ⟨q0, hq0⟩ : ∃ q0 : Nat, Hid (q0 = x % 32) := ⟨_, Lib.hid rfl⟩
            have p0 : bits .and .u8 (x : Int) 31 = (q0 : Int) := by rw [f4, hq0.out]
            have q0l : q0 < 32 := by rw [hq0.out]; omega
            clear f1 f2 f3 f4 f5 f6
            by_cases hsz : s.size - j ≤ 1
            · have i1 : (s.size : Int) - (j : Int) ≤ 1 := by omega
              go_wp2_with fail
              go_ret
              exact ⟨false, rfl, rfl, fun h => by cases h⟩
            · have i1 : ¬ ((s.size : Int) - (j : Int) ≤ 1) := by omega
              obtain ⟨y1, yl1, HY1, hye1, ym1, yn1⟩ := byte_facts s j 1 (by omega)
              obtain ⟨z1, hz1⟩ : ∃ z : Nat, Hid (z = y1 % 64) := ⟨_, Lib.hid rfl⟩
              have zl1 : z1 < 64 := by rw [hz1.out]; omega
              rw [← hz1.out] at yn1
              obtain ⟨r1, hr1⟩ : ∃ r : Nat, Hid (r = q0 * 64 + z1) := ⟨_, Lib.hid rfl⟩
              have ro1 : bits .or .u32 ((q0 : Int) * 64) (z1 : Int) = (r1 : Int) := by rw [hr1.out]; exact or6 _ _ (by omega) zl1
              have rl1 : r1 < 2048 := by rw [hr1.out]; omega
              have k1 : (0 : Int) ≤ (j : Int) + 1 := by omega
              have m1 : (j : Int) + 1 < (s.size : Int) := by omega
              by_cases hy1 : 128 ≤ y1 ∧ y1 < 192
              · have yk1 : bits .and .u8 (y1 : Int) 192 = 128 := by rw [ym1]; omega
                clear ym1
                by_cases hg : 128 ≤ r1
                · have hsq : seqL (s.data.toList.drop j) = 2 := seq2 HB0.out HY1.out (by omega) (by omega) (by have h := hg; rw [hr1.out, hz1.out, hq0.out] at h; exact h)
                  have hs1 : (stepL (s.data.toList.drop j)).1 = 2 := by unfold stepL; rw [if_neg (by rw [HB0.out]; omega), if_neg (by rw [hsq]; omega)]; exact hsq
                  have HX := Lib.hid (oku_step HNE.out (Or.inr (by rw [hsq]; omega)))
                  rw [hs1, List.drop_drop] at HX
                  clear hsq hs1
                  have gi1 : decide ((r1 : Int) < 128) = false := by rw [decide_eq_false_iff_not]; omega
                  have gi2 : decide ((1114111 : Int) < (r1 : Int)) = false := by rw [decide_eq_false_iff_not]; omega
                  have gi3 : decide ((55296 : Int) ≤ (r1 : Int)) = false := by rw [decide_eq_false_iff_not]; omega
                  go_wp2_with fail
                  refine wp_loop_rounds 2 ?_
                  rw [rounds_succ]
                  go_wp2_with fail
                  rw [rounds_succ]
                  go_wp2_with fail
                  go_roundw
                  case rel => exact ⟨j + 2, by go_num, by omega, trivial, Lib.hid fun h => HI.out (HX.out.2 h)⟩
                  case measure => simp [intOf]; omega
                · have gi1 : ((r1 : Int) < 128) := by omega
                  go_wp2_with fail
                  refine wp_loop_rounds 2 ?_
                  rw [rounds_succ]
                  go_wp2_with fail
                  rw [rounds_succ]
                  go_wp2_with fail
                  go_ret
                  exact ⟨false, rfl, rfl, fun h => by cases h⟩
              · have yk1 : ¬ (bits .and .u8 (y1 : Int) 192 = 128) := by rw [ym1]; omega
                have yj1 : (bits .and .u8 (y1 : Int) 192 == 128) = false := by rw [beq_eq_false_iff_ne]; exact yk1
                clear ym1
                go_wp2_with fail
                refine wp_loop_rounds 2 ?_
                rw [rounds_succ]
                go_wp2_with fail
                go_ret
                exact ⟨false, rfl, rfl, fun h => by cases h⟩
        · by_cases hc2 : 224 ≤ x ∧ x < 240
          · as_aux_lemma =>
              have c2 : bits .and .u8 (x : Int) 240 = 224 := by rw [f2]; show ((x / 16 * 16 : Nat) : Int) = 224; omega
              obtain ⟨q0, hq0⟩ : ∃ q0 : Nat, Hid (q0 = x % 16) := ⟨_, Lib.hid rfl⟩
              have p0 : bits .and .u8 (x : Int) 15 = (q0 : Int) := by rw [f5, hq0.out]
              have q0l : q0 < 16 := by rw [hq0.out]; omega
              have d1 : (bits .and .u8 (x : Int) 224 == 192) = false := by rw [f1, beq_eq_false_iff_ne]; omega
              have d1' : ¬ (bits .and .u8 (x : Int) 224 = 192) := by rw [f1]; omega
              clear f1 f2 f3 f4 f5 f6
              by_cases hsz : s.size - j ≤ 2
              · have i1 : (s.size : Int) - (j : Int) ≤ 2 := by omega
                go_wp2_with fail
                go_ret
                exact ⟨false, rfl, rfl, fun h => by cases h⟩
              · have i1 : ¬ ((s.size : Int) - (j : Int) ≤ 2) := by omega
                obtain ⟨y1, yl1, HY1, hye1, ym1, yn1⟩ := byte_facts s j 1 (by omega)
                obtain ⟨z1, hz1⟩ : ∃ z : Nat, Hid (z = y1 % 64) := ⟨_, Lib.hid rfl⟩
                have zl1 : z1 < 64 := by rw [hz1.out]; omega
                rw [← hz1.out] at yn1
                obtain ⟨r1, hr1⟩ : ∃ r : Nat, Hid (r = q0 * 64 + z1) := ⟨_, Lib.hid rfl⟩
                have ro1 : bits .or .u32 ((q0 : Int) * 64) (z1 : Int) = (r1 : Int) := by rw [hr1.out]; exact or6 _ _ (by omega) zl1
                have rl1 : r1 < 1024 := by rw [hr1.out]; omega
                have k1 : (0 : Int) ≤ (j : Int) + 1 := by omega
                have m1 : (j : Int) + 1 < (s.size : Int) := by omega
                obtain ⟨y2, yl2, HY2, hye2, ym2, yn2⟩ := byte_facts s j 2 (by omega)
                obtain ⟨z2, hz2⟩ : ∃ z : Nat, Hid (z = y2 % 64) := ⟨_, Lib.hid rfl⟩
                have zl2 : z2 < 64 := by rw [hz2.out]; omega
                rw [← hz2.out] at yn2
                obtain ⟨r2, hr2⟩ : ∃ r : Nat, Hid (r = r1 * 64 + z2) := ⟨_, Lib.hid rfl⟩
                have ro2 : bits .or .u32 ((r1 : Int) * 64) (z2 : Int) = (r2 : Int) := by rw [hr2.out]; exact or6 _ _ (by omega) zl2
                have rl2 : r2 < 65536 := by rw [hr2.out]; omega
                have k2 : (0 : Int) ≤ (j : Int) + 2 := by omega
                have m2 : (j : Int) + 2 < (s.size : Int) := by omega
                by_cases hy1 : 128 ≤ y1 ∧ y1 < 192
                · have yk1 : bits .and .u8 (y1 : Int) 192 = 128 := by rw [ym1]; omega
                  clear ym1
                  by_cases hy2 : 128 ≤ y2 ∧ y2 < 192
                  · have yk2 : bits .and .u8 (y2 : Int) 192 = 128 := by rw [ym2]; omega
                    clear ym2
                    by_cases hg : 2048 ≤ r2 ∧ ¬ (55296 ≤ r2 ∧ r2 ≤ 57343)
                    · have hsq : seqL (s.data.toList.drop j) = 3 := seq3 HB0.out HY1.out HY2.out (by omega) (by omega) (by omega) (by have h := hg.1; rw [hr2.out, hz2.out, hr1.out, hz1.out, hq0.out] at h; exact h) (by have h := hg.2; rw [hr2.out, hz2.out, hr1.out, hz1.out, hq0.out] at h; exact h)
                      have hs1 : (stepL (s.data.toList.drop j)).1 = 3 := by unfold stepL; rw [if_neg (by rw [HB0.out]; omega), if_neg (by rw [hsq]; omega)]; exact hsq
                      have HX := Lib.hid (oku_step HNE.out (Or.inr (by rw [hsq]; omega)))
                      rw [hs1, List.drop_drop] at HX
                      clear hsq hs1
                      have gi1 : decide ((r2 : Int) < 2048) = false := by rw [decide_eq_false_iff_not]; omega
                      have gi2 : decide ((1114111 : Int) < (r2 : Int)) = false := by rw [decide_eq_false_iff_not]; omega
                      have gi4 : (decide ((55296 : Int) ≤ (r2 : Int)) = false) ∨ (decide ((55296 : Int) ≤ (r2 : Int)) = true ∧ decide ((r2 : Int) ≤ 57343) = false) := by rw [decide_eq_false_iff_not, decide_eq_true_eq, decide_eq_false_iff_not]; omega
                      rcases gi4 with gi4 | ⟨gi4, gi5⟩
                      · go_wp2_with fail
                        refine wp_loop_rounds 3 ?_
                        rw [rounds_succ]
                        go_wp2_with fail
                        rw [rounds_succ]
                        go_wp2_with fail
                        rw [rounds_succ]
                        go_wp2_with fail
                        go_roundw
                        case rel => exact ⟨j + 3, by go_num, by omega, trivial, Lib.hid fun h => HI.out (HX.out.2 h)⟩
                        case measure => simp [intOf]; omega
                      · go_wp2_with fail
                        refine wp_loop_rounds 3 ?_
                        rw [rounds_succ]
                        go_wp2_with fail
                        rw [rounds_succ]
                        go_wp2_with fail
                        rw [rounds_succ]
                        go_wp2_with fail
                        go_roundw
                        case rel => exact ⟨j + 3, by go_num, by omega, trivial, Lib.hid fun h => HI.out (HX.out.2 h)⟩
                        case measure => simp [intOf]; omega
                    · have gi1 : ((r2 : Int) < 2048) ∨ (¬ ((r2 : Int) < 2048) ∧ ¬ ((1114111 : Int) < (r2 : Int)) ∧ (55296 : Int) ≤ (r2 : Int) ∧ (r2 : Int) ≤ 57343) := by omega
                      rcases gi1 with gi1 | ⟨gi1, gi2, gi3, gi4⟩
                      · go_wp2_with fail
                        refine wp_loop_rounds 3 ?_
                        rw [rounds_succ]
                        go_wp2_with fail
                        rw [rounds_succ]
                        go_wp2_with fail
                        rw [rounds_succ]
                        go_wp2_with fail
                        go_ret
                        exact ⟨false, rfl, rfl, fun h => by cases h⟩
                      · go_wp2_with fail
                        refine wp_loop_rounds 3 ?_
                        rw [rounds_succ]
                        go_wp2_with fail
                        rw [rounds_succ]
                        go_wp2_with fail
                        rw [rounds_succ]
                        go_wp2_with fail
                        go_ret
                        exact ⟨false, rfl, rfl, fun h => by cases h⟩
                  · have yk2 : ¬ (bits .and .u8 (y2 : Int) 192 = 128) := by rw [ym2]; omega
                    have yj2 : (bits .and .u8 (y2 : Int) 192 == 128) = false := by rw [beq_eq_false_iff_ne]; exact yk2
                    clear ym2
                    go_wp2_with fail
                    refine wp_loop_rounds 3 ?_
                    rw [rounds_succ]
                    go_wp2_with fail
                    rw [rounds_succ]
                    go_wp2_with fail
                    go_ret
                    exact ⟨false, rfl, rfl, fun h => by cases h⟩
                · have yk1 : ¬ (bits .and .u8 (y1 : Int) 192 = 128) := by rw [ym1]; omega
                  have yj1 : (bits .and .u8 (y1 : Int) 192 == 128) = false := by rw [beq_eq_false_iff_ne]; exact yk1
                  clear ym1
                  go_wp2_with fail
                  refine wp_loop_rounds 3 ?_
                  rw [rounds_succ]
                  go_wp2_with fail
                  go_ret
                  exact ⟨false, rfl, rfl, fun h => by cases h⟩
          · by_cases hc3 : 240 ≤ x ∧ x < 248
            · as_aux_lemma =>
                have c3 : bits .and .u8 (x : Int) 248 = 240 := by rw [f3]; show ((x / 8 * 8 : Nat) : Int) = 240; omega
                obtain ⟨q0, hq0⟩ : ∃ q0 : Nat, Hid (q0 = x % 8) := ⟨_, Lib.hid rfl⟩
                have p0 : bits .and .u8 (x : Int) 7 = (q0 : Int) := by rw [f6, hq0.out]
                have q0l : q0 < 8 := by rw [hq0.out]; omega
                have d1 : (bits .and .u8 (x : Int) 224 == 192) = false := by rw [f1, beq_eq_false_iff_ne]; omega
                have d1' : ¬ (bits .and .u8 (x : Int) 224 = 192) := by rw [f1]; omega
                have d2 : (bits .and .u8 (x : Int) 240 == 224) = false := by rw [f2, beq_eq_false_iff_ne]; omega
                have d2' : ¬ (bits .and .u8 (x : Int) 240 = 224) := by rw [f2]; omega
                clear f1 f2 f3 f4 f5 f6
                by_cases hsz : s.size - j ≤ 3
                · have i1 : (s.size : Int) - (j : Int) ≤ 3 := by omega
                  go_wp2_with fail
                  go_ret
                  exact ⟨false, rfl, rfl, fun h => by cases h⟩
                · have i1 : ¬ ((s.size : Int) - (j : Int) ≤ 3) := by omega
                  obtain ⟨y1, yl1, HY1, hye1, ym1, yn1⟩ := byte_facts s j 1 (by omega)
                  obtain ⟨z1, hz1⟩ : ∃ z : Nat, Hid (z = y1 % 64) := ⟨_, Lib.hid rfl⟩
                  have zl1 : z1 < 64 := by rw [hz1.out]; omega
                  rw [← hz1.out] at yn1
                  obtain ⟨r1, hr1⟩ : ∃ r : Nat, Hid (r = q0 * 64 + z1) := ⟨_, Lib.hid rfl⟩
                  have ro1 : bits .or .u32 ((q0 : Int) * 64) (z1 : Int) = (r1 : Int) := by rw [hr1.out]; exact or6 _ _ (by omega) zl1
                  have rl1 : r1 < 512 := by rw [hr1.out]; omega
                  have k1 : (0 : Int) ≤ (j : Int) + 1 := by omega
                  have m1 : (j : Int) + 1 < (s.size : Int) := by omega
                  obtain ⟨y2, yl2, HY2, hye2, ym2, yn2⟩ := byte_facts s j 2 (by omega)
                  obtain ⟨z2, hz2⟩ : ∃ z : Nat, Hid (z = y2 % 64) := ⟨_, Lib.hid rfl⟩
                  have zl2 : z2 < 64 := by rw [hz2.out]; omega
                  rw [← hz2.out] at yn2
                  obtain ⟨r2, hr2⟩ : ∃ r : Nat, Hid (r = r1 * 64 + z2) := ⟨_, Lib.hid rfl⟩
                  have ro2 : bits .or .u32 ((r1 : Int) * 64) (z2 : Int) = (r2 : Int) := by rw [hr2.out]; exact or6 _ _ (by omega) zl2
                  have rl2 : r2 < 32768 := by rw [hr2.out]; omega
                  have k2 : (0 : Int) ≤ (j : Int) + 2 := by omega
                  have m2 : (j : Int) + 2 < (s.size : Int) := by omega
                  obtain ⟨y3, yl3, HY3, hye3, ym3, yn3⟩ := byte_facts s j 3 (by omega)
                  obtain ⟨z3, hz3⟩ : ∃ z : Nat, Hid (z = y3 % 64) := ⟨_, Lib.hid rfl⟩
                  have zl3 : z3 < 64 := by rw [hz3.out]; omega
                  rw [← hz3.out] at yn3
                  obtain ⟨r3, hr3⟩ : ∃ r : Nat, Hid (r = r2 * 64 + z3) := ⟨_, Lib.hid rfl⟩
                  have ro3 : bits .or .u32 ((r2 : Int) * 64) (z3 : Int) = (r3 : Int) := by rw [hr3.out]; exact or6 _ _ (by omega) zl3
                  have rl3 : r3 < 2097152 := by rw [hr3.out]; omega
                  have k3 : (0 : Int) ≤ (j : Int) + 3 := by omega
                  have m3 : (j : Int) + 3 < (s.size : Int) := by omega
                  by_cases hy1 : 128 ≤ y1 ∧ y1 < 192
                  · have yk1 : bits .and .u8 (y1 : Int) 192 = 128 := by rw [ym1]; omega
                    clear ym1
                    by_cases hy2 : 128 ≤ y2 ∧ y2 < 192
                    · have yk2 : bits .and .u8 (y2 : Int) 192 = 128 := by rw [ym2]; omega
                      clear ym2
                      by_cases hy3 : 128 ≤ y3 ∧ y3 < 192
                      · have yk3 : bits .and .u8 (y3 : Int) 192 = 128 := by rw [ym3]; omega
                        clear ym3
                        by_cases hg : 65536 ≤ r3 ∧ r3 ≤ 1114111
                        · have hsq : seqL (s.data.toList.drop j) = 4 := seq4 HB0.out HY1.out HY2.out HY3.out (by omega) (by omega) (by omega) (by omega) (by have h := hg.1; rw [hr3.out, hz3.out, hr2.out, hz2.out, hr1.out, hz1.out, hq0.out] at h; exact h) (by have h := hg.2; rw [hr3.out, hz3.out, hr2.out, hz2.out, hr1.out, hz1.out, hq0.out] at h; exact h)
                          have hs1 : (stepL (s.data.toList.drop j)).1 = 4 := by unfold stepL; rw [if_neg (by rw [HB0.out]; omega), if_neg (by rw [hsq]; omega)]; exact hsq
                          have HX := Lib.hid (oku_step HNE.out (Or.inr (by rw [hsq]; omega)))
                          rw [hs1, List.drop_drop] at HX
                          clear hsq hs1
                          have gi1 : decide ((r3 : Int) < 65536) = false := by rw [decide_eq_false_iff_not]; omega
                          have gi2 : decide ((1114111 : Int) < (r3 : Int)) = false := by rw [decide_eq_false_iff_not]; omega
                          have gi3 : decide ((55296 : Int) ≤ (r3 : Int)) = true := by rw [decide_eq_true_eq]; omega
                          have gi4 : decide ((r3 : Int) ≤ 57343) = false := by rw [decide_eq_false_iff_not]; omega
                          go_wp2_with fail
                          refine wp_loop_rounds 4 ?_
                          rw [rounds_succ]
                          go_wp2_with fail
                          rw [rounds_succ]
                          go_wp2_with fail
                          rw [rounds_succ]
                          go_wp2_with fail
                          rw [rounds_succ]
                          go_wp2_with fail
                          go_roundw
                          case rel => exact ⟨j + 4, by go_num, by omega, trivial, Lib.hid fun h => HI.out (HX.out.2 h)⟩
                          case measure => simp [intOf]; omega
                        · have gi1 : (decide ((r3 : Int) < 65536) = true) ∨ (decide ((r3 : Int) < 65536) = false ∧ decide ((1114111 : Int) < (r3 : Int)) = true) := by rw [decide_eq_true_eq, decide_eq_false_iff_not, decide_eq_true_eq]; omega
                          rcases gi1 with gi1 | ⟨gi1, gi2⟩
                          · go_wp2_with fail
                            refine wp_loop_rounds 4 ?_
                            rw [rounds_succ]
                            go_wp2_with fail
                            rw [rounds_succ]
                            go_wp2_with fail
                            rw [rounds_succ]
                            go_wp2_with fail
                            rw [rounds_succ]
                            go_wp2_with fail
                            go_ret
                            exact ⟨false, rfl, rfl, fun h => by cases h⟩
                          · go_wp2_with fail
                            refine wp_loop_rounds 4 ?_
                            rw [rounds_succ]
                            go_wp2_with fail
                            rw [rounds_succ]
                            go_wp2_with fail
                            rw [rounds_succ]
                            go_wp2_with fail
                            rw [rounds_succ]
                            go_wp2_with fail
                            go_ret
                            exact ⟨false, rfl, rfl, fun h => by cases h⟩
                      · have yk3 : ¬ (bits .and .u8 (y3 : Int) 192 = 128) := by rw [ym3]; omega
                        have yj3 : (bits .and .u8 (y3 : Int) 192 == 128) = false := by rw [beq_eq_false_iff_ne]; exact yk3
                        clear ym3
                        go_wp2_with fail
                        refine wp_loop_rounds 4 ?_
                        rw [rounds_succ]
                        go_wp2_with fail
                        rw [rounds_succ]
                        go_wp2_with fail
                        rw [rounds_succ]
                        go_wp2_with fail
                        go_ret
                        exact ⟨false, rfl, rfl, fun h => by cases h⟩
                    · have yk2 : ¬ (bits .and .u8 (y2 : Int) 192 = 128) := by rw [ym2]; omega
                      have yj2 : (bits .and .u8 (y2 : Int) 192 == 128) = false := by rw [beq_eq_false_iff_ne]; exact yk2
                      clear ym2
                      go_wp2_with fail
                      refine wp_loop_rounds 4 ?_
                      rw [rounds_succ]
                      go_wp2_with fail
                      rw [rounds_succ]
                      go_wp2_with fail
                      go_ret
                      exact ⟨false, rfl, rfl, fun h => by cases h⟩
                  · have yk1 : ¬ (bits .and .u8 (y1 : Int) 192 = 128) := by rw [ym1]; omega
                    have yj1 : (bits .and .u8 (y1 : Int) 192 == 128) = false := by rw [beq_eq_false_iff_ne]; exact yk1
                    clear ym1
                    go_wp2_with fail
                    refine wp_loop_rounds 4 ?_
                    rw [rounds_succ]
                    go_wp2_with fail
                    go_ret
                    exact ⟨false, rfl, rfl, fun h => by cases h⟩
            · have d1 : (bits .and .u8 (x : Int) 224 == 192) = false := by rw [f1, beq_eq_false_iff_ne]; omega
              have d1' : ¬ (bits .and .u8 (x : Int) 224 = 192) := by rw [f1]; omega
              have d2 : (bits .and .u8 (x : Int) 240 == 224) = false := by rw [f2, beq_eq_false_iff_ne]; omega
              have d2' : ¬ (bits .and .u8 (x : Int) 240 = 224) := by rw [f2]; omega
              have d3 : (bits .and .u8 (x : Int) 248 == 240) = false := by rw [f3, beq_eq_false_iff_ne]; omega
              have d3' : ¬ (bits .and .u8 (x : Int) 248 = 240) := by rw [f3]; omega
              clear f1 f2 f3 f4 f5 f6
              go_wp2_with fail
              go_ret
              exact ⟨false, rfl, rfl, fun h => by cases h⟩
    · obtain rfl : j = s.size := by omega
      have h1 : OkU s.data.toList := HI.out (by rw [List.drop_of_length_le (by rw [size_list']; omega)]; exact OkU.nil)
      have H1 := Lib.hid h1
      clear h1
      go_wp2_with fail
      go_ret
      exact ⟨true, rfl, rfl, fun _ => H1.out⟩
end Go.Proofs.YtbjjcampiknnpaaDoor
