/- n001_64: what inRangeB2, hexDigitB2 and validSeqB2 answer. -/
import Derived.Test.YtbjjcampiknnpaaDoorEp
import Derived.LoopTactic
namespace Go.Proofs.YtbjjcampiknnpaaDoor
open Go.RowKit
set_option maxRecDepth 100000
set_option linter.unusedVariables false
set_option linter.unusedSimpArgs false
theorem inr_yes (x : Nat) (lo hi : Int) (w : World) (h1 : lo ≤ (x : Int)) (h2 : (x : Int) ≤ hi) : Calls Tryd.prog 42 #[.int .u8 x, .int .u8 lo, .int .u8 hi] w fun e w' => e = .returned (.bool true) ∧ w = w' := by
  go_enter Tryd.func42, Tryd.ntmps42
  go_wp2_with fail
  go_ret
  exact ⟨rfl, rfl⟩
theorem inr_no (x : Nat) (lo hi : Int) (w : World) (h : ¬ (lo ≤ (x : Int) ∧ (x : Int) ≤ hi)) : Calls Tryd.prog 42 #[.int .u8 x, .int .u8 lo, .int .u8 hi] w fun e w' => e = .returned (.bool false) ∧ w = w' := by
  by_cases h1 : lo ≤ (x : Int)
  · have h2 : ¬ (x : Int) ≤ hi := fun h3 => h ⟨h1, h3⟩
    clear h
    go_enter Tryd.func42, Tryd.ntmps42
    go_wp2_with fail
    go_ret
    exact ⟨rfl, rfl⟩
  · clear h
    go_enter Tryd.func42, Tryd.ntmps42
    go_wp2_with fail
    go_ret
    exact ⟨rfl, rfl⟩
theorem hxd_lo (n : Nat) (h : n < 10) : ((hxd n).toNat : Int) = 48 + (n : Int) := by
  have e : ∀ n : Fin 10, (hxd n.val).toNat = 48 + n.val := by decide
  rw [e ⟨n, h⟩]; push_cast; rfl
theorem hxd_hi (n : Nat) (h1 : 10 ≤ n) (h2 : n < 16) : ((hxd n).toNat : Int) = 87 + (n : Int) := by
  have e : ∀ n : Fin 16, 10 ≤ n.val → (hxd n.val).toNat = 87 + n.val := by decide
  rw [e ⟨n, h2⟩ h1]; push_cast; rfl
theorem ret_int8 {k : IntKind} {a b : Int} (h : a = b) : Ending.returned (.int k a) = .returned (.int k b) := by rw [h]
theorem hexDigit_any (n : Nat) (w : World) (h : n < 16) : Calls Tryd.prog 41 #[.int .u8 n] w fun e w' => e = .returned (.int .u8 ((hxd n).toNat : Int)) ∧ w = w' := by
  by_cases h1 : n < 10
  · have h2 := Lib.hid (hxd_lo n h1)
    go_enter Tryd.func41, Tryd.ntmps41
    go_wp2_with fail
    go_ret
    exact ⟨ret_int8 (by rw [h2.out]), rfl⟩
  · have h2 := Lib.hid (hxd_hi n (by omega) h)
    go_enter Tryd.func41, Tryd.ntmps41
    go_wp2_with fail
    go_ret
    exact ⟨ret_int8 (by rw [h2.out]; omega), rfl⟩
theorem size_list' (s : ByteArray) : s.data.toList.length = s.size := Array.length_toList
theorem bt_at (s : ByteArray) (i k : Nat) (h : i + k < s.size) : bt (s.data.toList.drop i) k = s[i + k].toNat := by
  unfold bt
  have hl : i + k < s.data.toList.length := by rw [size_list']; exact h
  rw [List.getElem?_drop, List.getElem?_eq_getElem hl]
  rfl
theorem bt_off (s : ByteArray) (i k : Nat) (h : ¬ i + k < s.size) : bt (s.data.toList.drop i) k = 0 := bt_none _ _ (by rw [List.length_drop, size_list']; omega)
set_option maxHeartbeats 8000000 in
theorem validSeq_any (s : ByteArray) (i : Nat) (w : World) (hi : i < s.size) (hs : s.size ≤ 1048576) : Calls Tryd.prog 31 #[.string s, .int .i64 i] w fun e w' => e = .returned (.int .i64 (seqL (s.data.toList.drop i))) ∧ w = w' := by
  obtain ⟨k, hk⟩ : ∃ k, Hid (seqL (s.data.toList.drop i) = k) := ⟨_, Lib.hid rfl⟩
  have hb0 := bt_at s i 0 (by omega)
  have hsz := Lib.hid hk.out
  rw [hk.out]
  obtain ⟨x, hx⟩ : ∃ x : Nat, Hid (bt (s.data.toList.drop i) 0 = x) := ⟨_, Lib.hid rfl⟩
  have hx8 : x < 256 := by rw [← hx.out]; exact bt_lt _ _
  have hxc : Hid (((s[i].toNat : Nat) : Int) = (x : Int)) := by rw [← hx.out, hb0]; exact rfl
  have hxe := hxc.out
  clear hxc hb0
  have i0 : (0 : Int) ≤ (i : Int) := by omega
  have i1 : (i : Int) < (s.size : Int) := by omega
  have hun := hk.out
  unfold seqL at hun
  rw [hx.out] at hun
  clear hk hsz
  by_cases c2 : 194 ≤ x ∧ x ≤ 223
  · obtain ⟨u1, u2⟩ := c2
    rw [if_pos ⟨u1, u2⟩] at hun
    by_cases j1' : i + 1 < s.size
    · have j1 : i + 1 < s.size := by omega
      have hb1 := bt_at s i 1 j1
      obtain ⟨y1, hy1⟩ : ∃ y : Nat, Hid (bt (s.data.toList.drop i) 1 = y) := ⟨_, Lib.hid rfl⟩
      rw [hy1.out] at hun
      have hyc1 : Hid (((s[i + 1].toNat : Nat) : Int) = (y1 : Int)) := by rw [← hy1.out, hb1]; exact rfl
      have hye1 := hyc1.out
      have a1 : (0 : Int) ≤ (i : Int) + 1 := by omega
      have b1 : (i : Int) + 1 < (s.size : Int) := by omega
      clear hb1 hyc1 hy1
      by_cases q1 : 128 ≤ y1 ∧ y1 ≤ 191
      · obtain ⟨q1a, q1b⟩ := q1
        have r1 := Lib.hid (inr_yes y1 128 191 w (by omega) (by omega))
        have HK : Hid (k = 2) := by rw [← hun, if_pos ⟨q1a, q1b⟩]; exact rfl
        clear hun
        go_enter Tryd.func31, Tryd.ntmps31
        go_wp2_with fail
        with_reducible refine (r1.out).mono ?_
        rintro e0 w0 ⟨rfl, rfl⟩
        go_wp2_with fail
        go_ret
        exact ⟨ret_int8 (by rw [HK.out]; rfl), rfl⟩
      · have r1 := Lib.hid (inr_no y1 128 191 w (by omega))
        have HK : Hid (k = 0) := by rw [← hun, if_neg q1]; exact rfl
        clear hun
        go_enter Tryd.func31, Tryd.ntmps31
        go_wp2_with fail
        with_reducible refine (r1.out).mono ?_
        rintro e0 w0 ⟨rfl, rfl⟩
        go_wp2_with fail
        go_ret
        exact ⟨ret_int8 (by rw [HK.out]; rfl), rfl⟩
    · have j1 : ¬ (i : Int) + 1 < (s.size : Int) := by omega
      have HK : Hid (k = 0) := by rw [← hun, if_neg (by rw [bt_off s i 1 j1']; omega)]; exact rfl
      clear hun
      go_enter Tryd.func31, Tryd.ntmps31
      go_wp2_with fail
      go_ret
      exact ⟨ret_int8 (by rw [HK.out]; rfl), rfl⟩
  · by_cases c3 : 224 ≤ x ∧ x ≤ 239
    · obtain ⟨u1, u2⟩ := c3
      rw [if_neg c2, if_pos ⟨u1, u2⟩] at hun
      by_cases v224 : x = 224
      · subst v224
        by_cases j9 : i + 2 < s.size
        · have j1 : i + 1 < s.size := by omega
          have hb1 := bt_at s i 1 j1
          obtain ⟨y1, hy1⟩ : ∃ y : Nat, Hid (bt (s.data.toList.drop i) 1 = y) := ⟨_, Lib.hid rfl⟩
          rw [hy1.out] at hun
          have hyc1 : Hid (((s[i + 1].toNat : Nat) : Int) = (y1 : Int)) := by rw [← hy1.out, hb1]; exact rfl
          have hye1 := hyc1.out
          have a1 : (0 : Int) ≤ (i : Int) + 1 := by omega
          have b1 : (i : Int) + 1 < (s.size : Int) := by omega
          clear hb1 hyc1 hy1
          have j2 : i + 2 < s.size := by omega
          have hb2 := bt_at s i 2 j2
          obtain ⟨y2, hy2⟩ : ∃ y : Nat, Hid (bt (s.data.toList.drop i) 2 = y) := ⟨_, Lib.hid rfl⟩
          rw [hy2.out] at hun
          have hyc2 : Hid (((s[i + 2].toNat : Nat) : Int) = (y2 : Int)) := by rw [← hy2.out, hb2]; exact rfl
          have hye2 := hyc2.out
          have a2 : (0 : Int) ≤ (i : Int) + 2 := by omega
          have b2 : (i : Int) + 2 < (s.size : Int) := by omega
          clear hb2 hyc2 hy2
          by_cases q1 : 160 ≤ y1 ∧ y1 ≤ 191
          · obtain ⟨q1a, q1b⟩ := q1
            have r1 := Lib.hid (inr_yes y1 160 191 w (by omega) (by omega))
            by_cases q2 : 128 ≤ y2 ∧ y2 ≤ 191
            · obtain ⟨q2a, q2b⟩ := q2
              have r2 := Lib.hid (inr_yes y2 128 191 w (by omega) (by omega))
              have HK : Hid (k = 3) := by rw [← hun, if_pos ⟨⟨by unfold lo3; (first | (simp; omega) | (simp at *; omega) | omega), by unfold hi3; (first | (simp; omega) | (simp at *; omega) | omega)⟩, q2a, q2b⟩]; exact rfl
              clear hun
              go_enter Tryd.func31, Tryd.ntmps31
              go_wp2_with fail
              with_reducible refine (r1.out).mono ?_
              rintro e0 w0 ⟨rfl, rfl⟩
              go_wp2_with fail
              with_reducible refine (r2.out).mono ?_
              rintro e1 w1 ⟨rfl, rfl⟩
              go_wp2_with fail
              go_ret
              exact ⟨ret_int8 (by rw [HK.out]; rfl), rfl⟩
            · have r2 := Lib.hid (inr_no y2 128 191 w (by omega))
              have HK : Hid (k = 0) := by rw [← hun, if_neg (fun h => q2 h.2)]; exact rfl
              clear hun
              go_enter Tryd.func31, Tryd.ntmps31
              go_wp2_with fail
              with_reducible refine (r1.out).mono ?_
              rintro e0 w0 ⟨rfl, rfl⟩
              go_wp2_with fail
              with_reducible refine (r2.out).mono ?_
              rintro e1 w1 ⟨rfl, rfl⟩
              go_wp2_with fail
              go_ret
              exact ⟨ret_int8 (by rw [HK.out]; rfl), rfl⟩
          · have r1 := Lib.hid (inr_no y1 160 191 w (by omega))
            have HK : Hid (k = 0) := by rw [← hun, if_neg (fun h => q1 ⟨by have := h.1.1; unfold lo3 at this; (first | (simp; omega) | (simp at *; omega) | omega), by have := h.1.2; unfold hi3 at this; (first | (simp; omega) | (simp at *; omega) | omega)⟩)]; exact rfl
            clear hun
            go_enter Tryd.func31, Tryd.ntmps31
            go_wp2_with fail
            with_reducible refine (r1.out).mono ?_
            rintro e0 w0 ⟨rfl, rfl⟩
            go_wp2_with fail
            go_ret
            exact ⟨ret_int8 (by rw [HK.out]; rfl), rfl⟩
        · have j9i : ¬ (i : Int) + 2 < (s.size : Int) := by omega
          have HK : Hid (k = 0) := by rw [← hun, if_neg (fun h => by have h2 := h.2; rw [bt_off s i 2 j9] at h2; omega)]; exact rfl
          clear hun
          go_enter Tryd.func31, Tryd.ntmps31
          go_wp2_with fail
          go_ret
          exact ⟨ret_int8 (by rw [HK.out]; rfl), rfl⟩
      · skip
        by_cases v237 : x = 237
        · subst v237
          by_cases j9 : i + 2 < s.size
          · have j1 : i + 1 < s.size := by omega
            have hb1 := bt_at s i 1 j1
            obtain ⟨y1, hy1⟩ : ∃ y : Nat, Hid (bt (s.data.toList.drop i) 1 = y) := ⟨_, Lib.hid rfl⟩
            rw [hy1.out] at hun
            have hyc1 : Hid (((s[i + 1].toNat : Nat) : Int) = (y1 : Int)) := by rw [← hy1.out, hb1]; exact rfl
            have hye1 := hyc1.out
            have a1 : (0 : Int) ≤ (i : Int) + 1 := by omega
            have b1 : (i : Int) + 1 < (s.size : Int) := by omega
            clear hb1 hyc1 hy1
            have j2 : i + 2 < s.size := by omega
            have hb2 := bt_at s i 2 j2
            obtain ⟨y2, hy2⟩ : ∃ y : Nat, Hid (bt (s.data.toList.drop i) 2 = y) := ⟨_, Lib.hid rfl⟩
            rw [hy2.out] at hun
            have hyc2 : Hid (((s[i + 2].toNat : Nat) : Int) = (y2 : Int)) := by rw [← hy2.out, hb2]; exact rfl
            have hye2 := hyc2.out
            have a2 : (0 : Int) ≤ (i : Int) + 2 := by omega
            have b2 : (i : Int) + 2 < (s.size : Int) := by omega
            clear hb2 hyc2 hy2
            by_cases q1 : 128 ≤ y1 ∧ y1 ≤ 159
            · obtain ⟨q1a, q1b⟩ := q1
              have r1 := Lib.hid (inr_yes y1 128 159 w (by omega) (by omega))
              by_cases q2 : 128 ≤ y2 ∧ y2 ≤ 191
              · obtain ⟨q2a, q2b⟩ := q2
                have r2 := Lib.hid (inr_yes y2 128 191 w (by omega) (by omega))
                have HK : Hid (k = 3) := by rw [← hun, if_pos ⟨⟨by unfold lo3; (first | (simp; omega) | (simp at *; omega) | omega), by unfold hi3; (first | (simp; omega) | (simp at *; omega) | omega)⟩, q2a, q2b⟩]; exact rfl
                clear hun
                go_enter Tryd.func31, Tryd.ntmps31
                go_wp2_with fail
                with_reducible refine (r1.out).mono ?_
                rintro e0 w0 ⟨rfl, rfl⟩
                go_wp2_with fail
                with_reducible refine (r2.out).mono ?_
                rintro e1 w1 ⟨rfl, rfl⟩
                go_wp2_with fail
                go_ret
                exact ⟨ret_int8 (by rw [HK.out]; rfl), rfl⟩
              · have r2 := Lib.hid (inr_no y2 128 191 w (by omega))
                have HK : Hid (k = 0) := by rw [← hun, if_neg (fun h => q2 h.2)]; exact rfl
                clear hun
                go_enter Tryd.func31, Tryd.ntmps31
                go_wp2_with fail
                with_reducible refine (r1.out).mono ?_
                rintro e0 w0 ⟨rfl, rfl⟩
                go_wp2_with fail
                with_reducible refine (r2.out).mono ?_
                rintro e1 w1 ⟨rfl, rfl⟩
                go_wp2_with fail
                go_ret
                exact ⟨ret_int8 (by rw [HK.out]; rfl), rfl⟩
            · have r1 := Lib.hid (inr_no y1 128 159 w (by omega))
              have HK : Hid (k = 0) := by rw [← hun, if_neg (fun h => q1 ⟨by have := h.1.1; unfold lo3 at this; (first | (simp; omega) | (simp at *; omega) | omega), by have := h.1.2; unfold hi3 at this; (first | (simp; omega) | (simp at *; omega) | omega)⟩)]; exact rfl
              clear hun
              go_enter Tryd.func31, Tryd.ntmps31
              go_wp2_with fail
              with_reducible refine (r1.out).mono ?_
              rintro e0 w0 ⟨rfl, rfl⟩
              go_wp2_with fail
              go_ret
              exact ⟨ret_int8 (by rw [HK.out]; rfl), rfl⟩
          · have j9i : ¬ (i : Int) + 2 < (s.size : Int) := by omega
            have HK : Hid (k = 0) := by rw [← hun, if_neg (fun h => by have h2 := h.2; rw [bt_off s i 2 j9] at h2; omega)]; exact rfl
            clear hun
            go_enter Tryd.func31, Tryd.ntmps31
            go_wp2_with fail
            go_ret
            exact ⟨ret_int8 (by rw [HK.out]; rfl), rfl⟩
        · skip
          have nb224 : ((x : Int) == 224) = false := by rw [beq_eq_false_iff_ne]; omega
          have nb237 : ((x : Int) == 237) = false := by rw [beq_eq_false_iff_ne]; omega
          by_cases j9 : i + 2 < s.size
          · have j1 : i + 1 < s.size := by omega
            have hb1 := bt_at s i 1 j1
            obtain ⟨y1, hy1⟩ : ∃ y : Nat, Hid (bt (s.data.toList.drop i) 1 = y) := ⟨_, Lib.hid rfl⟩
            rw [hy1.out] at hun
            have hyc1 : Hid (((s[i + 1].toNat : Nat) : Int) = (y1 : Int)) := by rw [← hy1.out, hb1]; exact rfl
            have hye1 := hyc1.out
            have a1 : (0 : Int) ≤ (i : Int) + 1 := by omega
            have b1 : (i : Int) + 1 < (s.size : Int) := by omega
            clear hb1 hyc1 hy1
            have j2 : i + 2 < s.size := by omega
            have hb2 := bt_at s i 2 j2
            obtain ⟨y2, hy2⟩ : ∃ y : Nat, Hid (bt (s.data.toList.drop i) 2 = y) := ⟨_, Lib.hid rfl⟩
            rw [hy2.out] at hun
            have hyc2 : Hid (((s[i + 2].toNat : Nat) : Int) = (y2 : Int)) := by rw [← hy2.out, hb2]; exact rfl
            have hye2 := hyc2.out
            have a2 : (0 : Int) ≤ (i : Int) + 2 := by omega
            have b2 : (i : Int) + 2 < (s.size : Int) := by omega
            clear hb2 hyc2 hy2
            by_cases q1 : 128 ≤ y1 ∧ y1 ≤ 191
            · obtain ⟨q1a, q1b⟩ := q1
              have r1 := Lib.hid (inr_yes y1 128 191 w (by omega) (by omega))
              by_cases q2 : 128 ≤ y2 ∧ y2 ≤ 191
              · obtain ⟨q2a, q2b⟩ := q2
                have r2 := Lib.hid (inr_yes y2 128 191 w (by omega) (by omega))
                have HK : Hid (k = 3) := by rw [← hun, if_pos ⟨⟨by unfold lo3; (first | (rw [if_neg v224]; assumption) | (rw [if_neg v237]; assumption) | (rw [if_neg v224] at this; assumption) | (rw [if_neg v237] at this; assumption)), by unfold hi3; (first | (rw [if_neg v224]; assumption) | (rw [if_neg v237]; assumption) | (rw [if_neg v224] at this; assumption) | (rw [if_neg v237] at this; assumption))⟩, q2a, q2b⟩]; exact rfl
                clear hun
                go_enter Tryd.func31, Tryd.ntmps31
                go_wp2_with fail
                with_reducible refine (r1.out).mono ?_
                rintro e0 w0 ⟨rfl, rfl⟩
                go_wp2_with fail
                with_reducible refine (r2.out).mono ?_
                rintro e1 w1 ⟨rfl, rfl⟩
                go_wp2_with fail
                go_ret
                exact ⟨ret_int8 (by rw [HK.out]; rfl), rfl⟩
              · have r2 := Lib.hid (inr_no y2 128 191 w (by omega))
                have HK : Hid (k = 0) := by rw [← hun, if_neg (fun h => q2 h.2)]; exact rfl
                clear hun
                go_enter Tryd.func31, Tryd.ntmps31
                go_wp2_with fail
                with_reducible refine (r1.out).mono ?_
                rintro e0 w0 ⟨rfl, rfl⟩
                go_wp2_with fail
                with_reducible refine (r2.out).mono ?_
                rintro e1 w1 ⟨rfl, rfl⟩
                go_wp2_with fail
                go_ret
                exact ⟨ret_int8 (by rw [HK.out]; rfl), rfl⟩
            · have r1 := Lib.hid (inr_no y1 128 191 w (by omega))
              have HK : Hid (k = 0) := by rw [← hun, if_neg (fun h => q1 ⟨by have := h.1.1; unfold lo3 at this; (first | (rw [if_neg v224]; assumption) | (rw [if_neg v237]; assumption) | (rw [if_neg v224] at this; assumption) | (rw [if_neg v237] at this; assumption)), by have := h.1.2; unfold hi3 at this; (first | (rw [if_neg v224]; assumption) | (rw [if_neg v237]; assumption) | (rw [if_neg v224] at this; assumption) | (rw [if_neg v237] at this; assumption))⟩)]; exact rfl
              clear hun
              go_enter Tryd.func31, Tryd.ntmps31
              go_wp2_with fail
              with_reducible refine (r1.out).mono ?_
              rintro e0 w0 ⟨rfl, rfl⟩
              go_wp2_with fail
              go_ret
              exact ⟨ret_int8 (by rw [HK.out]; rfl), rfl⟩
          · have j9i : ¬ (i : Int) + 2 < (s.size : Int) := by omega
            have HK : Hid (k = 0) := by rw [← hun, if_neg (fun h => by have h2 := h.2; rw [bt_off s i 2 j9] at h2; omega)]; exact rfl
            clear hun
            go_enter Tryd.func31, Tryd.ntmps31
            go_wp2_with fail
            go_ret
            exact ⟨ret_int8 (by rw [HK.out]; rfl), rfl⟩
    · by_cases c4 : 240 ≤ x ∧ x ≤ 244
      · obtain ⟨u1, u2⟩ := c4
        rw [if_neg c2, if_neg c3, if_pos ⟨u1, u2⟩] at hun
        by_cases v240 : x = 240
        · subst v240
          by_cases j9 : i + 3 < s.size
          · have j1 : i + 1 < s.size := by omega
            have hb1 := bt_at s i 1 j1
            obtain ⟨y1, hy1⟩ : ∃ y : Nat, Hid (bt (s.data.toList.drop i) 1 = y) := ⟨_, Lib.hid rfl⟩
            rw [hy1.out] at hun
            have hyc1 : Hid (((s[i + 1].toNat : Nat) : Int) = (y1 : Int)) := by rw [← hy1.out, hb1]; exact rfl
            have hye1 := hyc1.out
            have a1 : (0 : Int) ≤ (i : Int) + 1 := by omega
            have b1 : (i : Int) + 1 < (s.size : Int) := by omega
            clear hb1 hyc1 hy1
            have j2 : i + 2 < s.size := by omega
            have hb2 := bt_at s i 2 j2
            obtain ⟨y2, hy2⟩ : ∃ y : Nat, Hid (bt (s.data.toList.drop i) 2 = y) := ⟨_, Lib.hid rfl⟩
            rw [hy2.out] at hun
            have hyc2 : Hid (((s[i + 2].toNat : Nat) : Int) = (y2 : Int)) := by rw [← hy2.out, hb2]; exact rfl
            have hye2 := hyc2.out
            have a2 : (0 : Int) ≤ (i : Int) + 2 := by omega
            have b2 : (i : Int) + 2 < (s.size : Int) := by omega
            clear hb2 hyc2 hy2
            have j3 : i + 3 < s.size := by omega
            have hb3 := bt_at s i 3 j3
            obtain ⟨y3, hy3⟩ : ∃ y : Nat, Hid (bt (s.data.toList.drop i) 3 = y) := ⟨_, Lib.hid rfl⟩
            rw [hy3.out] at hun
            have hyc3 : Hid (((s[i + 3].toNat : Nat) : Int) = (y3 : Int)) := by rw [← hy3.out, hb3]; exact rfl
            have hye3 := hyc3.out
            have a3 : (0 : Int) ≤ (i : Int) + 3 := by omega
            have b3 : (i : Int) + 3 < (s.size : Int) := by omega
            clear hb3 hyc3 hy3
            by_cases q1 : 144 ≤ y1 ∧ y1 ≤ 191
            · obtain ⟨q1a, q1b⟩ := q1
              have r1 := Lib.hid (inr_yes y1 144 191 w (by omega) (by omega))
              by_cases q2 : 128 ≤ y2 ∧ y2 ≤ 191
              · obtain ⟨q2a, q2b⟩ := q2
                have r2 := Lib.hid (inr_yes y2 128 191 w (by omega) (by omega))
                by_cases q3 : 128 ≤ y3 ∧ y3 ≤ 191
                · obtain ⟨q3a, q3b⟩ := q3
                  have r3 := Lib.hid (inr_yes y3 128 191 w (by omega) (by omega))
                  have HK : Hid (k = 4) := by rw [← hun, if_pos ⟨⟨by unfold lo4; (first | (simp; omega) | (simp at *; omega) | omega), by unfold hi4; (first | (simp; omega) | (simp at *; omega) | omega)⟩, ⟨q2a, q2b⟩, q3a, q3b⟩]; exact rfl
                  clear hun
                  go_enter Tryd.func31, Tryd.ntmps31
                  go_wp2_with fail
                  with_reducible refine (r1.out).mono ?_
                  rintro e0 w0 ⟨rfl, rfl⟩
                  go_wp2_with fail
                  with_reducible refine (r2.out).mono ?_
                  rintro e1 w1 ⟨rfl, rfl⟩
                  go_wp2_with fail
                  with_reducible refine (r3.out).mono ?_
                  rintro e2 w2 ⟨rfl, rfl⟩
                  go_wp2_with fail
                  go_ret
                  exact ⟨ret_int8 (by rw [HK.out]; rfl), rfl⟩
                · have r3 := Lib.hid (inr_no y3 128 191 w (by omega))
                  have HK : Hid (k = 0) := by rw [← hun, if_neg (fun h => q3 h.2.2)]; exact rfl
                  clear hun
                  go_enter Tryd.func31, Tryd.ntmps31
                  go_wp2_with fail
                  with_reducible refine (r1.out).mono ?_
                  rintro e0 w0 ⟨rfl, rfl⟩
                  go_wp2_with fail
                  with_reducible refine (r2.out).mono ?_
                  rintro e1 w1 ⟨rfl, rfl⟩
                  go_wp2_with fail
                  with_reducible refine (r3.out).mono ?_
                  rintro e2 w2 ⟨rfl, rfl⟩
                  go_wp2_with fail
                  go_ret
                  exact ⟨ret_int8 (by rw [HK.out]; rfl), rfl⟩
              · have r2 := Lib.hid (inr_no y2 128 191 w (by omega))
                have HK : Hid (k = 0) := by rw [← hun, if_neg (fun h => q2 h.2.1)]; exact rfl
                clear hun
                go_enter Tryd.func31, Tryd.ntmps31
                go_wp2_with fail
                with_reducible refine (r1.out).mono ?_
                rintro e0 w0 ⟨rfl, rfl⟩
                go_wp2_with fail
                with_reducible refine (r2.out).mono ?_
                rintro e1 w1 ⟨rfl, rfl⟩
                go_wp2_with fail
                go_ret
                exact ⟨ret_int8 (by rw [HK.out]; rfl), rfl⟩
            · have r1 := Lib.hid (inr_no y1 144 191 w (by omega))
              have HK : Hid (k = 0) := by rw [← hun, if_neg (fun h => q1 ⟨by have := h.1.1; unfold lo4 at this; (first | (simp; omega) | (simp at *; omega) | omega), by have := h.1.2; unfold hi4 at this; (first | (simp; omega) | (simp at *; omega) | omega)⟩)]; exact rfl
              clear hun
              go_enter Tryd.func31, Tryd.ntmps31
              go_wp2_with fail
              with_reducible refine (r1.out).mono ?_
              rintro e0 w0 ⟨rfl, rfl⟩
              go_wp2_with fail
              go_ret
              exact ⟨ret_int8 (by rw [HK.out]; rfl), rfl⟩
          · have j9i : ¬ (i : Int) + 3 < (s.size : Int) := by omega
            have HK : Hid (k = 0) := by rw [← hun, if_neg (fun h => by have h2 := h.2.2; rw [bt_off s i 3 j9] at h2; omega)]; exact rfl
            clear hun
            go_enter Tryd.func31, Tryd.ntmps31
            go_wp2_with fail
            go_ret
            exact ⟨ret_int8 (by rw [HK.out]; rfl), rfl⟩
        · skip
          by_cases v244 : x = 244
          · subst v244
            by_cases j9 : i + 3 < s.size
            · have j1 : i + 1 < s.size := by omega
              have hb1 := bt_at s i 1 j1
              obtain ⟨y1, hy1⟩ : ∃ y : Nat, Hid (bt (s.data.toList.drop i) 1 = y) := ⟨_, Lib.hid rfl⟩
              rw [hy1.out] at hun
              have hyc1 : Hid (((s[i + 1].toNat : Nat) : Int) = (y1 : Int)) := by rw [← hy1.out, hb1]; exact rfl
              have hye1 := hyc1.out
              have a1 : (0 : Int) ≤ (i : Int) + 1 := by omega
              have b1 : (i : Int) + 1 < (s.size : Int) := by omega
              clear hb1 hyc1 hy1
              have j2 : i + 2 < s.size := by omega
              have hb2 := bt_at s i 2 j2
              obtain ⟨y2, hy2⟩ : ∃ y : Nat, Hid (bt (s.data.toList.drop i) 2 = y) := ⟨_, Lib.hid rfl⟩
              rw [hy2.out] at hun
              have hyc2 : Hid (((s[i + 2].toNat : Nat) : Int) = (y2 : Int)) := by rw [← hy2.out, hb2]; exact rfl
              have hye2 := hyc2.out
              have a2 : (0 : Int) ≤ (i : Int) + 2 := by omega
              have b2 : (i : Int) + 2 < (s.size : Int) := by omega
              clear hb2 hyc2 hy2
              have j3 : i + 3 < s.size := by omega
              have hb3 := bt_at s i 3 j3
              obtain ⟨y3, hy3⟩ : ∃ y : Nat, Hid (bt (s.data.toList.drop i) 3 = y) := ⟨_, Lib.hid rfl⟩
              rw [hy3.out] at hun
              have hyc3 : Hid (((s[i + 3].toNat : Nat) : Int) = (y3 : Int)) := by rw [← hy3.out, hb3]; exact rfl
              have hye3 := hyc3.out
              have a3 : (0 : Int) ≤ (i : Int) + 3 := by omega
              have b3 : (i : Int) + 3 < (s.size : Int) := by omega
              clear hb3 hyc3 hy3
              by_cases q1 : 128 ≤ y1 ∧ y1 ≤ 143
              · obtain ⟨q1a, q1b⟩ := q1
                have r1 := Lib.hid (inr_yes y1 128 143 w (by omega) (by omega))
                by_cases q2 : 128 ≤ y2 ∧ y2 ≤ 191
                · obtain ⟨q2a, q2b⟩ := q2
                  have r2 := Lib.hid (inr_yes y2 128 191 w (by omega) (by omega))
                  by_cases q3 : 128 ≤ y3 ∧ y3 ≤ 191
                  · obtain ⟨q3a, q3b⟩ := q3
                    have r3 := Lib.hid (inr_yes y3 128 191 w (by omega) (by omega))
                    have HK : Hid (k = 4) := by rw [← hun, if_pos ⟨⟨by unfold lo4; (first | (simp; omega) | (simp at *; omega) | omega), by unfold hi4; (first | (simp; omega) | (simp at *; omega) | omega)⟩, ⟨q2a, q2b⟩, q3a, q3b⟩]; exact rfl
                    clear hun
                    go_enter Tryd.func31, Tryd.ntmps31
                    go_wp2_with fail
                    with_reducible refine (r1.out).mono ?_
                    rintro e0 w0 ⟨rfl, rfl⟩
                    go_wp2_with fail
                    with_reducible refine (r2.out).mono ?_
                    rintro e1 w1 ⟨rfl, rfl⟩
                    go_wp2_with fail
                    with_reducible refine (r3.out).mono ?_
                    rintro e2 w2 ⟨rfl, rfl⟩
                    go_wp2_with fail
                    go_ret
                    exact ⟨ret_int8 (by rw [HK.out]; rfl), rfl⟩
                  · have r3 := Lib.hid (inr_no y3 128 191 w (by omega))
                    have HK : Hid (k = 0) := by rw [← hun, if_neg (fun h => q3 h.2.2)]; exact rfl
                    clear hun
                    go_enter Tryd.func31, Tryd.ntmps31
                    go_wp2_with fail
                    with_reducible refine (r1.out).mono ?_
                    rintro e0 w0 ⟨rfl, rfl⟩
                    go_wp2_with fail
                    with_reducible refine (r2.out).mono ?_
                    rintro e1 w1 ⟨rfl, rfl⟩
                    go_wp2_with fail
                    with_reducible refine (r3.out).mono ?_
                    rintro e2 w2 ⟨rfl, rfl⟩
                    go_wp2_with fail
                    go_ret
                    exact ⟨ret_int8 (by rw [HK.out]; rfl), rfl⟩
                · have r2 := Lib.hid (inr_no y2 128 191 w (by omega))
                  have HK : Hid (k = 0) := by rw [← hun, if_neg (fun h => q2 h.2.1)]; exact rfl
                  clear hun
                  go_enter Tryd.func31, Tryd.ntmps31
                  go_wp2_with fail
                  with_reducible refine (r1.out).mono ?_
                  rintro e0 w0 ⟨rfl, rfl⟩
                  go_wp2_with fail
                  with_reducible refine (r2.out).mono ?_
                  rintro e1 w1 ⟨rfl, rfl⟩
                  go_wp2_with fail
                  go_ret
                  exact ⟨ret_int8 (by rw [HK.out]; rfl), rfl⟩
              · have r1 := Lib.hid (inr_no y1 128 143 w (by omega))
                have HK : Hid (k = 0) := by rw [← hun, if_neg (fun h => q1 ⟨by have := h.1.1; unfold lo4 at this; (first | (simp; omega) | (simp at *; omega) | omega), by have := h.1.2; unfold hi4 at this; (first | (simp; omega) | (simp at *; omega) | omega)⟩)]; exact rfl
                clear hun
                go_enter Tryd.func31, Tryd.ntmps31
                go_wp2_with fail
                with_reducible refine (r1.out).mono ?_
                rintro e0 w0 ⟨rfl, rfl⟩
                go_wp2_with fail
                go_ret
                exact ⟨ret_int8 (by rw [HK.out]; rfl), rfl⟩
            · have j9i : ¬ (i : Int) + 3 < (s.size : Int) := by omega
              have HK : Hid (k = 0) := by rw [← hun, if_neg (fun h => by have h2 := h.2.2; rw [bt_off s i 3 j9] at h2; omega)]; exact rfl
              clear hun
              go_enter Tryd.func31, Tryd.ntmps31
              go_wp2_with fail
              go_ret
              exact ⟨ret_int8 (by rw [HK.out]; rfl), rfl⟩
          · skip
            have nb240 : ((x : Int) == 240) = false := by rw [beq_eq_false_iff_ne]; omega
            have nb244 : ((x : Int) == 244) = false := by rw [beq_eq_false_iff_ne]; omega
            by_cases j9 : i + 3 < s.size
            · have j1 : i + 1 < s.size := by omega
              have hb1 := bt_at s i 1 j1
              obtain ⟨y1, hy1⟩ : ∃ y : Nat, Hid (bt (s.data.toList.drop i) 1 = y) := ⟨_, Lib.hid rfl⟩
              rw [hy1.out] at hun
              have hyc1 : Hid (((s[i + 1].toNat : Nat) : Int) = (y1 : Int)) := by rw [← hy1.out, hb1]; exact rfl
              have hye1 := hyc1.out
              have a1 : (0 : Int) ≤ (i : Int) + 1 := by omega
              have b1 : (i : Int) + 1 < (s.size : Int) := by omega
              clear hb1 hyc1 hy1
              have j2 : i + 2 < s.size := by omega
              have hb2 := bt_at s i 2 j2
              obtain ⟨y2, hy2⟩ : ∃ y : Nat, Hid (bt (s.data.toList.drop i) 2 = y) := ⟨_, Lib.hid rfl⟩
              rw [hy2.out] at hun
              have hyc2 : Hid (((s[i + 2].toNat : Nat) : Int) = (y2 : Int)) := by rw [← hy2.out, hb2]; exact rfl
              have hye2 := hyc2.out
              have a2 : (0 : Int) ≤ (i : Int) + 2 := by omega
              have b2 : (i : Int) + 2 < (s.size : Int) := by omega
              clear hb2 hyc2 hy2
              have j3 : i + 3 < s.size := by omega
              have hb3 := bt_at s i 3 j3
              obtain ⟨y3, hy3⟩ : ∃ y : Nat, Hid (bt (s.data.toList.drop i) 3 = y) := ⟨_, Lib.hid rfl⟩
              rw [hy3.out] at hun
              have hyc3 : Hid (((s[i + 3].toNat : Nat) : Int) = (y3 : Int)) := by rw [← hy3.out, hb3]; exact rfl
              have hye3 := hyc3.out
              have a3 : (0 : Int) ≤ (i : Int) + 3 := by omega
              have b3 : (i : Int) + 3 < (s.size : Int) := by omega
              clear hb3 hyc3 hy3
              by_cases q1 : 128 ≤ y1 ∧ y1 ≤ 191
              · obtain ⟨q1a, q1b⟩ := q1
                have r1 := Lib.hid (inr_yes y1 128 191 w (by omega) (by omega))
                by_cases q2 : 128 ≤ y2 ∧ y2 ≤ 191
                · obtain ⟨q2a, q2b⟩ := q2
                  have r2 := Lib.hid (inr_yes y2 128 191 w (by omega) (by omega))
                  by_cases q3 : 128 ≤ y3 ∧ y3 ≤ 191
                  · obtain ⟨q3a, q3b⟩ := q3
                    have r3 := Lib.hid (inr_yes y3 128 191 w (by omega) (by omega))
                    have HK : Hid (k = 4) := by rw [← hun, if_pos ⟨⟨by unfold lo4; (first | (rw [if_neg v240]; assumption) | (rw [if_neg v244]; assumption) | (rw [if_neg v240] at this; assumption) | (rw [if_neg v244] at this; assumption)), by unfold hi4; (first | (rw [if_neg v240]; assumption) | (rw [if_neg v244]; assumption) | (rw [if_neg v240] at this; assumption) | (rw [if_neg v244] at this; assumption))⟩, ⟨q2a, q2b⟩, q3a, q3b⟩]; exact rfl
                    clear hun
                    go_enter Tryd.func31, Tryd.ntmps31
                    go_wp2_with fail
                    with_reducible refine (r1.out).mono ?_
                    rintro e0 w0 ⟨rfl, rfl⟩
                    go_wp2_with fail
                    with_reducible refine (r2.out).mono ?_
                    rintro e1 w1 ⟨rfl, rfl⟩
                    go_wp2_with fail
                    with_reducible refine (r3.out).mono ?_
                    rintro e2 w2 ⟨rfl, rfl⟩
                    go_wp2_with fail
                    go_ret
                    exact ⟨ret_int8 (by rw [HK.out]; rfl), rfl⟩
                  · have r3 := Lib.hid (inr_no y3 128 191 w (by omega))
                    have HK : Hid (k = 0) := by rw [← hun, if_neg (fun h => q3 h.2.2)]; exact rfl
                    clear hun
                    go_enter Tryd.func31, Tryd.ntmps31
                    go_wp2_with fail
                    with_reducible refine (r1.out).mono ?_
                    rintro e0 w0 ⟨rfl, rfl⟩
                    go_wp2_with fail
                    with_reducible refine (r2.out).mono ?_
                    rintro e1 w1 ⟨rfl, rfl⟩
                    go_wp2_with fail
                    with_reducible refine (r3.out).mono ?_
                    rintro e2 w2 ⟨rfl, rfl⟩
                    go_wp2_with fail
                    go_ret
                    exact ⟨ret_int8 (by rw [HK.out]; rfl), rfl⟩
                · have r2 := Lib.hid (inr_no y2 128 191 w (by omega))
                  have HK : Hid (k = 0) := by rw [← hun, if_neg (fun h => q2 h.2.1)]; exact rfl
                  clear hun
                  go_enter Tryd.func31, Tryd.ntmps31
                  go_wp2_with fail
                  with_reducible refine (r1.out).mono ?_
                  rintro e0 w0 ⟨rfl, rfl⟩
                  go_wp2_with fail
                  with_reducible refine (r2.out).mono ?_
                  rintro e1 w1 ⟨rfl, rfl⟩
                  go_wp2_with fail
                  go_ret
                  exact ⟨ret_int8 (by rw [HK.out]; rfl), rfl⟩
              · have r1 := Lib.hid (inr_no y1 128 191 w (by omega))
                have HK : Hid (k = 0) := by rw [← hun, if_neg (fun h => q1 ⟨by have := h.1.1; unfold lo4 at this; (first | (rw [if_neg v240]; assumption) | (rw [if_neg v244]; assumption) | (rw [if_neg v240] at this; assumption) | (rw [if_neg v244] at this; assumption)), by have := h.1.2; unfold hi4 at this; (first | (rw [if_neg v240]; assumption) | (rw [if_neg v244]; assumption) | (rw [if_neg v240] at this; assumption) | (rw [if_neg v244] at this; assumption))⟩)]; exact rfl
                clear hun
                go_enter Tryd.func31, Tryd.ntmps31
                go_wp2_with fail
                with_reducible refine (r1.out).mono ?_
                rintro e0 w0 ⟨rfl, rfl⟩
                go_wp2_with fail
                go_ret
                exact ⟨ret_int8 (by rw [HK.out]; rfl), rfl⟩
            · have j9i : ¬ (i : Int) + 3 < (s.size : Int) := by omega
              have HK : Hid (k = 0) := by rw [← hun, if_neg (fun h => by have h2 := h.2.2; rw [bt_off s i 3 j9] at h2; omega)]; exact rfl
              clear hun
              go_enter Tryd.func31, Tryd.ntmps31
              go_wp2_with fail
              go_ret
              exact ⟨ret_int8 (by rw [HK.out]; rfl), rfl⟩
      · rw [if_neg c2, if_neg c3, if_neg c4] at hun
        have HK : Hid (k = 0) := hun.symm
        have c5 : x < 194 ∨ 244 < x := by omega
        clear c2 c3 c4 hun
        rcases c5 with c5 | c5
        · go_enter Tryd.func31, Tryd.ntmps31
          go_wp2_with fail
          go_ret
          exact ⟨ret_int8 (by rw [HK.out]; rfl), rfl⟩
        · go_enter Tryd.func31, Tryd.ntmps31
          go_wp2_with fail
          go_ret
          exact ⟨ret_int8 (by rw [HK.out]; rfl), rfl⟩
end Go.Proofs.YtbjjcampiknnpaaDoor
