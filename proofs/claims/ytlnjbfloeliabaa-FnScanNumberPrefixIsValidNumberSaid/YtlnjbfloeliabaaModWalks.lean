/- What the laws' own helpers do (at, isDig, isLet, skipDigits, modelScanNumber, matchNumber): contracts. -/
import Derived.Test.YtlnjbfloeliabaaLexWalks
namespace Go.Proofs.Ytlnjbfloeliabaa
open Go.ChangeShapes Go.WideShapes Go.ChangeAt Go.RowKit Go.PlainAid
theorem at_any (s : ByteArray) (i : Nat) (w : World) (_hs : s.size ≤ 2097152) (hi : i ≤ 4194304) :
    Calls Try.prog 16 #[.string s, .int .i64 i] w fun e w' => e = .returned (.int .u8 (bt s i)) ∧ w = w' := by
  have hg := get_bt s
  by_cases he : i < s.size
  · go_enter Try.func16, Try.ntmps16
    go_wp2
    go_ret
    exact ⟨rfl, rfl⟩
  · have E0 : bt s i = 0 := bt_end s (by omega)
    have H := Lib.hid E0
    clear E0
    go_enter Try.func16, Try.ntmps16
    go_wp2
    go_ret
    exact ⟨ret_int H.out.symm, rfl⟩
theorem isDig_any (c : Int) (w : World) (h0 : 0 ≤ c) (h1 : c ≤ 255) :
    Calls Try.prog 15 #[.int .u8 c] w fun e w' => e = .returned (.bool (dg c)) ∧ w = w' := by
  go_enter Try.func15, Try.ntmps15
  go_wp2
  all_goals go_ret
  all_goals exact ⟨ret_bool (by rw [Bool.eq_iff_iff]; simp [dg]; try omega), rfl⟩
set_option maxHeartbeats 400000 in
theorem isLet_any (c : Int) (w : World) (h0 : 0 ≤ c) (h1 : c ≤ 255) :
    Calls Try.prog 17 #[.int .u8 c] w fun e w' => e = .returned (.bool (lt c)) ∧ w = w' := by
  go_enter Try.func17, Try.ntmps17
  go_wp2
  all_goals go_ret
  all_goals exact ⟨ret_bool (by rw [Bool.eq_iff_iff]; simp [lt]; try omega), rfl⟩
set_option maxHeartbeats 400000 in
theorem skip_any (s : ByteArray) (i : Nat) (w : World) (hs : s.size ≤ 2097152) (hi : i ≤ 4194304) :
    Calls Try.prog 19 #[.string s, .int .i64 i] w fun e w' => e = .returned (.int .i64 (sk s i)) ∧ w = w' := by
  generalize hR : sk s i = R
  have HR := Lib.hid hR
  clear hR
  have hg := get_bt s
  go_enter Try.func19, Try.ntmps19
  go_wp2
  go_loop [1] (fun t => ∃ p : Nat, t = .int .i64 p ∧ p ≤ 4194304 ∧ Hid (sk s p = R)) (fun t => s.size - (intOf t).toNat)
  case atStart => exact ⟨i, rfl, hi, HR⟩
  case round =>
    clear HR hi
    obtain ⟨p, rfl, hp, HR⟩ := hrel
    have hc0 := bt_nonneg s p
    have hc1 := bt_le s p
    by_cases hl : p < s.size
    · by_cases hd : dg (bt s p) = true
      · go_wp2_with (go_at_call 15; refine (isDig_any _ _ (by omega) (by omega)).mono ?_; rintro e w' ⟨rfl, rfl⟩)
        go_round
        case rel => exact ⟨p + 1, by go_num, by omega, Lib.hid ((sk_yes s p hd).symm.trans HR.out)⟩
        case measure => simp [intOf]; omega
      · have hd' : dg (bt s p) = false := by simpa using hd
        clear hd
        go_wp2_with (go_at_call 15; refine (isDig_any _ _ (by omega) (by omega)).mono ?_; rintro e w' ⟨rfl, rfl⟩)
        go_ret
        exact ⟨ret_int (by rw [← HR.out, sk_no s p hd']), rfl⟩
    · have hd' : dg (bt s p) = false := by rw [bt_end s (by omega)]; rfl
      go_wp2_with fail
      go_ret
      exact ⟨ret_int (by rw [← HR.out, sk_no s p hd']), rfl⟩
theorem sk_top (s : ByteArray) (hs : s.size ≤ 2097152) (i : Nat) (hi : i ≤ 3000000) : sk s i ≤ 3000000 := by
  rcases Nat.lt_or_ge i s.size with h | h
  · have := sk_le s i (by omega); omega
  · rw [sk_no s i (by rw [bt_end s h]; rfl)]; exact hi
theorem at_int (s : ByteArray) (i : Int) (w : World) (hs : s.size ≤ 2097152) (h0 : 0 ≤ i) (hi : i ≤ 4194304) :
    Calls Try.prog 16 #[.string s, .int .i64 i] w fun e w' => e = .returned (.int .u8 (bt s i.toNat)) ∧ w = w' := by
  obtain ⟨n, rfl⟩ := Int.eq_ofNat_of_zero_le h0
  exact at_any s n w hs (by omega)
theorem skip_int (s : ByteArray) (i : Int) (w : World) (hs : s.size ≤ 2097152) (h0 : 0 ≤ i) (hi : i ≤ 4194304) :
    Calls Try.prog 19 #[.string s, .int .i64 i] w fun e w' => e = .returned (.int .i64 (sk s i.toNat)) ∧ w = w' := by
  obtain ⟨n, rfl⟩ := Int.eq_ofNat_of_zero_le h0
  exact skip_any s n w hs (by omega)
set_option maxHeartbeats 2000000 in
set_option maxRecDepth 100000 in
theorem model_1 (s : ByteArray) (p : Nat) (w : World) (hs : s.size ≤ 2097152) (hp : p ≤ s.size) :
    Calls Try.prog 12 #[.string s, .int .i64 p, .int .i64 1] w fun e w' => e = .returned (.int .i64 (scanM s 1 p)) ∧ w = w' := by
  generalize hR : scanM s 1 p = R
  have HR := Lib.hid hR
  clear hR
  have b1 := sk_top s hs p (by omega)
  have b2 := sk_le s p hp
  have b3 := sk_top s hs (sk s p + 1) (by omega)
  have b4 := sk_top s hs (sk s p + 1 + 1) (by omega)
  have hb := fun i => bt_nonneg s i
  have hb' := fun i => bt_le s i
  go_enter Try.func12, Try.ntmps12
  go_wp2_with (first | (go_at_call 16; ((with_reducible refine (at_int s _ _ hs (by omega) (by omega)).mono ?_); rintro e w' ⟨rfl, rfl⟩)) | (go_at_call 19; ((with_reducible refine (skip_int s _ _ hs (by omega) (by omega)).mono ?_); rintro e w' ⟨rfl, rfl⟩)) | (go_at_call 17; ((with_reducible refine (isLet_any _ _ (hb _) (hb' _)).mono ?_); rintro e w' ⟨rfl, rfl⟩)))
  all_goals go_ret
  all_goals refine ⟨ret_int ?_, rfl⟩
  all_goals rw [← HR.out]
  all_goals clear hb hb' HR b1 b3 b4
  all_goals (simp_all [scanM, tl, expAt, ex, ee, sg]; try (first | omega | (split <;> omega)))
set_option maxHeartbeats 2000000 in
set_option maxRecDepth 100000 in
theorem model_0n (s : ByteArray) (p : Nat) (w : World) (hs : s.size ≤ 2097152) (hp : p ≤ s.size) (hdot : (bt s (sk s p) == 46) = false) :
    Calls Try.prog 12 #[.string s, .int .i64 p, .int .i64 0] w fun e w' => e = .returned (.int .i64 (scanM s 0 p)) ∧ w = w' := by
  generalize hR : scanM s 0 p = R
  have HR := Lib.hid hR
  clear hR
  have b1 := sk_top s hs p (by omega)
  have b2 := sk_le s p hp
  have b3 := sk_top s hs (sk s p + 1) (by omega)
  have b4 := sk_top s hs (sk s p + 1 + 1) (by omega)
  have hb := fun i => bt_nonneg s i
  have hb' := fun i => bt_le s i
  go_enter Try.func12, Try.ntmps12
  go_wp2_with (first | (go_at_call 16; ((with_reducible refine (at_int s _ _ hs (by omega) (by omega)).mono ?_); rintro e w' ⟨rfl, rfl⟩)) | (go_at_call 19; ((with_reducible refine (skip_int s _ _ hs (by omega) (by omega)).mono ?_); rintro e w' ⟨rfl, rfl⟩)) | (go_at_call 17; ((with_reducible refine (isLet_any _ _ (hb _) (hb' _)).mono ?_); rintro e w' ⟨rfl, rfl⟩)))
  all_goals go_ret
  all_goals refine ⟨ret_int ?_, rfl⟩
  all_goals rw [← HR.out]
  all_goals clear hb hb' HR b1 b3 b4
  all_goals (simp_all [scanM, tl, fracEnd, expAt, ex, ee, sg]; try (first | omega | (split <;> omega)))
set_option maxHeartbeats 2000000 in
set_option maxRecDepth 100000 in
theorem model_0d (s : ByteArray) (p : Nat) (w : World) (hs : s.size ≤ 2097152) (hp : p ≤ s.size) (hdot : (bt s (sk s p) == 46) = true) :
    Calls Try.prog 12 #[.string s, .int .i64 p, .int .i64 0] w fun e w' => e = .returned (.int .i64 (scanM s 0 p)) ∧ w = w' := by
  generalize hR : scanM s 0 p = R
  have HR := Lib.hid hR
  clear hR
  have b1 := sk_top s hs p (by omega)
  have b2 := sk_le s p hp
  have hl : sk s p < s.size := by rcases Nat.lt_or_ge (sk s p) s.size with h | h; exact h; rw [bt_end s h] at hdot; cases hdot
  have b3 := sk_le s (sk s p + 1) (by omega)
  have b4 := sk_top s hs (sk s (sk s p + 1) + 1) (by omega)
  have b5 := sk_top s hs (sk s (sk s p + 1) + 1 + 1) (by omega)
  have hb := fun i => bt_nonneg s i
  have hb' := fun i => bt_le s i
  go_enter Try.func12, Try.ntmps12
  go_wp2_with (first | (go_at_call 16; ((with_reducible refine (at_int s _ _ hs (by omega) (by omega)).mono ?_); rintro e w' ⟨rfl, rfl⟩)) | (go_at_call 19; ((with_reducible refine (skip_int s _ _ hs (by omega) (by omega)).mono ?_); rintro e w' ⟨rfl, rfl⟩)) | (go_at_call 17; ((with_reducible refine (isLet_any _ _ (hb _) (hb' _)).mono ?_); rintro e w' ⟨rfl, rfl⟩)))
  all_goals go_ret
  all_goals refine ⟨ret_int ?_, rfl⟩
  all_goals rw [← HR.out]
  all_goals clear hb hb' HR b1 b3 b4 b5 hl
  all_goals (simp_all [scanM, tl, fracEnd, expAt, ex, ee, sg]; try (first | omega | (split <;> omega)))
set_option maxHeartbeats 2000000 in
set_option maxRecDepth 100000 in
theorem model_2 (s : ByteArray) (p : Nat) (w : World) (hs : s.size ≤ 2097152) (hp : p ≤ s.size) :
    Calls Try.prog 12 #[.string s, .int .i64 p, .int .i64 2] w fun e w' => e = .returned (.int .i64 (scanM s 2 p)) ∧ w = w' := by
  generalize hR : scanM s 2 p = R
  have HR := Lib.hid hR
  clear hR
  have b1 := sk_top s hs p (by omega)
  have b2 := sk_le s p hp
  have hb := fun i => bt_nonneg s i
  have hb' := fun i => bt_le s i
  go_enter Try.func12, Try.ntmps12
  go_wp2_with (first | (go_at_call 16; ((with_reducible refine (at_int s _ _ hs (by omega) (by omega)).mono ?_); rintro e w' ⟨rfl, rfl⟩)) | (go_at_call 19; ((with_reducible refine (skip_int s _ _ hs (by omega) (by omega)).mono ?_); rintro e w' ⟨rfl, rfl⟩)) | (go_at_call 17; ((with_reducible refine (isLet_any _ _ (hb _) (hb' _)).mono ?_); rintro e w' ⟨rfl, rfl⟩)))
  all_goals go_ret
  all_goals refine ⟨ret_int ?_, rfl⟩
  all_goals rw [← HR.out]
  all_goals clear hb hb' HR b1
  all_goals (simp_all [scanM, ex]; try (first | omega | (split <;> omega)))
set_option maxHeartbeats 2000000 in
set_option maxRecDepth 100000 in
theorem model_3 (s : ByteArray) (p : Nat) (w : World) (hs : s.size ≤ 2097152) (hp : p ≤ s.size) :
    Calls Try.prog 12 #[.string s, .int .i64 p, .int .i64 3] w fun e w' => e = .returned (.int .i64 (scanM s 3 p)) ∧ w = w' := by
  generalize hR : scanM s 3 p = R
  have HR := Lib.hid hR
  clear hR
  have b1 := sk_top s hs p (by omega)
  have b2 := sk_le s p hp
  have hb := fun i => bt_nonneg s i
  have hb' := fun i => bt_le s i
  go_enter Try.func12, Try.ntmps12
  go_wp2_with (first | (go_at_call 16; ((with_reducible refine (at_int s _ _ hs (by omega) (by omega)).mono ?_); rintro e w' ⟨rfl, rfl⟩)) | (go_at_call 19; ((with_reducible refine (skip_int s _ _ hs (by omega) (by omega)).mono ?_); rintro e w' ⟨rfl, rfl⟩)) | (go_at_call 17; ((with_reducible refine (isLet_any _ _ (hb _) (hb' _)).mono ?_); rintro e w' ⟨rfl, rfl⟩)))
  all_goals go_ret
  all_goals refine ⟨ret_int ?_, rfl⟩
  all_goals rw [← HR.out]
  all_goals clear hb hb' HR b1
  all_goals (simp_all [scanM, ex]; try (first | omega | (split <;> omega)))
theorem model_any (s : ByteArray) (p st : Nat) (w : World) (hs : s.size ≤ 2097152) (hp : p ≤ s.size) (hst : st ≤ 3) :
    Calls Try.prog 12 #[.string s, .int .i64 p, .int .i64 st] w fun e w' => e = .returned (.int .i64 (scanM s st p)) ∧ w = w' := by
  obtain rfl | rfl | rfl | rfl : st = 0 ∨ st = 1 ∨ st = 2 ∨ st = 3 := by omega
  · cases h : (bt s (sk s p) == 46)
    · exact model_0n s p w hs hp h
    · exact model_0d s p w hs hp h
  · exact model_1 s p w hs hp
  · exact model_2 s p w hs hp
  · exact model_3 s p w hs hp
end Go.Proofs.Ytlnjbfloeliabaa
