/- What matchNumber does: contracts, one for each shape of the text. -/
import Derived.Test.YtlnjbfloeliabaaModWalks
import Derived.Test.YtlnjbfloeliabaaVal
namespace Go.Proofs.Ytlnjbfloeliabaa
set_option linter.unusedSimpArgs false
set_option linter.unusedVariables false
open Go.ChangeShapes Go.WideShapes Go.ChangeAt Go.RowKit Go.PlainAid
theorem nat_beq (a b : Nat) : (((a : Nat) : Int) == ((b : Nat) : Int)) = (a == b) := by rw [Bool.eq_iff_iff]; simp; omega
theorem nat_beq1 (a b : Nat) : (((a : Nat) : Int) == ((b : Nat) : Int) + 1) = (a == b + 1) := by rw [Bool.eq_iff_iff]; simp; omega
theorem nat_beq2 (a b : Nat) : (((a : Nat) : Int) == ((b : Nat) : Int) + 1 + 1) = (a == b + 1 + 1) := by rw [Bool.eq_iff_iff]; simp; omega
set_option maxHeartbeats 2000000 in
set_option maxRecDepth 100000 in
theorem match_0A (s : ByteArray) (w : World) (hs : s.size ≤ 2097152) (hsg : sg (bt s 0) = false) (hk : 0 < sk s 0) (hdot : (bt s (sk s 0) == 46) = true) :
    Calls Try.prog 9 #[.string s] w fun e w' => e = .returned (.bool (validFrom s 0)) ∧ w = w' := by
  have hsg' := sg_not hsg
  have n43 := beq_no hsg'.2
  have n45 := beq_no hsg'.1
  clear hsg' hsg
  generalize hR : validFrom s 0 = R
  have HR := Lib.hid hR
  clear hR
  have b1 := sk_le s 0 (by omega)
  have hl : sk s 0 < s.size := by rcases Nat.lt_or_ge (sk s 0) s.size with h | h; exact h; rw [bt_end s h] at hdot; cases hdot
  have b4 := sk_le s (sk s 0 + 1) (by omega)
  have b2 := sk_top s hs ((sk s (sk s 0 + 1)) + 1) (by omega)
  have b3 := sk_top s hs ((sk s (sk s 0 + 1)) + 1 + 1) (by omega)
  go_enter Try.func9, Try.ntmps9
  go_wp2_with (first | (go_at_call 16; ((with_reducible refine (at_int s _ _ hs (by omega) (by omega)).mono ?_); rintro e w' ⟨rfl, rfl⟩)) | (go_at_call 19; ((with_reducible refine (skip_int s _ _ hs (by omega) (by omega)).mono ?_); rintro e w' ⟨rfl, rfl⟩)))
  all_goals go_ret
  all_goals refine ⟨ret_bool ?_, rfl⟩
  all_goals rw [← HR.out]
  all_goals clear HR b2 b3
  all_goals (simp_all [validFrom, vEnd, fracEnd, expAt, ee, sg, nat_beq, nat_beq1, nat_beq2]; try omega)
set_option maxHeartbeats 2000000 in
set_option maxRecDepth 100000 in
theorem match_0B (s : ByteArray) (w : World) (hs : s.size ≤ 2097152) (hsg : sg (bt s 0) = false) (hk : 0 < sk s 0) (hdot : (bt s (sk s 0) == 46) = false) :
    Calls Try.prog 9 #[.string s] w fun e w' => e = .returned (.bool (validFrom s 0)) ∧ w = w' := by
  have hsg' := sg_not hsg
  have n43 := beq_no hsg'.2
  have n45 := beq_no hsg'.1
  clear hsg' hsg
  generalize hR : validFrom s 0 = R
  have HR := Lib.hid hR
  clear hR
  have b1 := sk_le s 0 (by omega)
  have b2 := sk_top s hs ((sk s 0) + 1) (by omega)
  have b3 := sk_top s hs ((sk s 0) + 1 + 1) (by omega)
  go_enter Try.func9, Try.ntmps9
  go_wp2_with (first | (go_at_call 16; ((with_reducible refine (at_int s _ _ hs (by omega) (by omega)).mono ?_); rintro e w' ⟨rfl, rfl⟩)) | (go_at_call 19; ((with_reducible refine (skip_int s _ _ hs (by omega) (by omega)).mono ?_); rintro e w' ⟨rfl, rfl⟩)))
  all_goals go_ret
  all_goals refine ⟨ret_bool ?_, rfl⟩
  all_goals rw [← HR.out]
  all_goals clear HR b2 b3
  all_goals (simp_all [validFrom, vEnd, fracEnd, expAt, ee, sg, nat_beq, nat_beq1, nat_beq2]; try omega)
set_option maxHeartbeats 2000000 in
set_option maxRecDepth 100000 in
theorem match_0C (s : ByteArray) (w : World) (hs : s.size ≤ 2097152) (hsg : sg (bt s 0) = false) (hk : sk s 0 ≤ 0) (hdot : (bt s 0 == 46) = false) :
    Calls Try.prog 9 #[.string s] w fun e w' => e = .returned (.bool (validFrom s 0)) ∧ w = w' := by
  have hsg' := sg_not hsg
  have n43 := beq_no hsg'.2
  have n45 := beq_no hsg'.1
  clear hsg' hsg
  generalize hR : validFrom s 0 = R
  have HR := Lib.hid hR
  clear hR
  have b1 := sk_le s 0 (by omega)
  have hge := sk_ge s 0
  go_enter Try.func9, Try.ntmps9
  go_wp2_with (first | (go_at_call 16; ((with_reducible refine (at_int s _ _ hs (by omega) (by omega)).mono ?_); rintro e w' ⟨rfl, rfl⟩)) | (go_at_call 19; ((with_reducible refine (skip_int s _ _ hs (by omega) (by omega)).mono ?_); rintro e w' ⟨rfl, rfl⟩)))
  all_goals go_ret
  all_goals refine ⟨ret_bool ?_, rfl⟩
  all_goals rw [← HR.out]
  all_goals clear HR
  all_goals (simp_all [validFrom, vEnd, fracEnd, expAt, ee, sg, nat_beq, nat_beq1, nat_beq2]; try omega)
set_option maxHeartbeats 2000000 in
set_option maxRecDepth 100000 in
theorem match_0D (s : ByteArray) (w : World) (hs : s.size ≤ 2097152) (hsg : sg (bt s 0) = false) (hk : sk s 0 ≤ 0) (hdot : (bt s 0 == 46) = true) (hj : sk s (1) ≤ 1) :
    Calls Try.prog 9 #[.string s] w fun e w' => e = .returned (.bool (validFrom s 0)) ∧ w = w' := by
  have hsg' := sg_not hsg
  have n43 := beq_no hsg'.2
  have n45 := beq_no hsg'.1
  clear hsg' hsg
  generalize hR : validFrom s 0 = R
  have HR := Lib.hid hR
  clear hR
  have b1 := sk_le s 0 (by omega)
  have hl : 0 < s.size := by rcases Nat.lt_or_ge 0 s.size with h | h; exact h; rw [bt_end s h] at hdot; cases hdot
  have b4 := sk_le s 1 (by omega)
  have hge := sk_ge s 0
  have hgj := sk_ge s 1
  go_enter Try.func9, Try.ntmps9
  go_wp2_with (first | (go_at_call 16; ((with_reducible refine (at_int s _ _ hs (by omega) (by omega)).mono ?_); rintro e w' ⟨rfl, rfl⟩)) | (go_at_call 19; ((with_reducible refine (skip_int s _ _ hs (by omega) (by omega)).mono ?_); rintro e w' ⟨rfl, rfl⟩)))
  all_goals go_ret
  all_goals refine ⟨ret_bool ?_, rfl⟩
  all_goals rw [← HR.out]
  all_goals clear HR
  all_goals (simp_all [validFrom, vEnd, fracEnd, expAt, ee, sg, nat_beq, nat_beq1, nat_beq2]; try omega)
set_option maxHeartbeats 2000000 in
set_option maxRecDepth 100000 in
theorem match_0E (s : ByteArray) (w : World) (hs : s.size ≤ 2097152) (hsg : sg (bt s 0) = false) (hk : sk s 0 ≤ 0) (hdot : (bt s 0 == 46) = true) (hj : 1 < sk s 1) :
    Calls Try.prog 9 #[.string s] w fun e w' => e = .returned (.bool (validFrom s 0)) ∧ w = w' := by
  have hsg' := sg_not hsg
  have n43 := beq_no hsg'.2
  have n45 := beq_no hsg'.1
  clear hsg' hsg
  generalize hR : validFrom s 0 = R
  have HR := Lib.hid hR
  clear hR
  have b1 := sk_le s 0 (by omega)
  have hl : 0 < s.size := by rcases Nat.lt_or_ge 0 s.size with h | h; exact h; rw [bt_end s h] at hdot; cases hdot
  have b4 := sk_le s 1 (by omega)
  have b2 := sk_top s hs ((sk s 1) + 1) (by omega)
  have b3 := sk_top s hs ((sk s 1) + 1 + 1) (by omega)
  have hge := sk_ge s 0
  go_enter Try.func9, Try.ntmps9
  go_wp2_with (first | (go_at_call 16; ((with_reducible refine (at_int s _ _ hs (by omega) (by omega)).mono ?_); rintro e w' ⟨rfl, rfl⟩)) | (go_at_call 19; ((with_reducible refine (skip_int s _ _ hs (by omega) (by omega)).mono ?_); rintro e w' ⟨rfl, rfl⟩)))
  all_goals go_ret
  all_goals refine ⟨ret_bool ?_, rfl⟩
  all_goals rw [← HR.out]
  all_goals clear HR b2 b3
  all_goals (simp_all [validFrom, vEnd, fracEnd, expAt, ee, sg, nat_beq, nat_beq1, nat_beq2]; try omega)
set_option maxHeartbeats 2000000 in
set_option maxRecDepth 100000 in
theorem match_1A (s : ByteArray) (w : World) (hs : s.size ≤ 2097152) (hsg : sg (bt s 0) = true) (hq : 1 ≤ s.size) (hk : 1 < sk s 1) (hdot : (bt s (sk s 1) == 46) = true) :
    Calls Try.prog 9 #[.string s] w fun e w' => e = .returned (.bool (validFrom s 1)) ∧ w = w' := by
  have hsg' := sg_or hsg
  clear hsg
  generalize hR : validFrom s 1 = R
  have HR := Lib.hid hR
  clear hR
  have b1 := sk_le s 1 (by omega)
  have hl : sk s 1 < s.size := by rcases Nat.lt_or_ge (sk s 1) s.size with h | h; exact h; rw [bt_end s h] at hdot; cases hdot
  have b4 := sk_le s (sk s 1 + 1) (by omega)
  have b2 := sk_top s hs ((sk s (sk s 1 + 1)) + 1) (by omega)
  have b3 := sk_top s hs ((sk s (sk s 1 + 1)) + 1 + 1) (by omega)
  rcases hsg' with h | h
  · have y1 : (bt s 0 == 43) = false := beq_no (by omega)
    have y2 := beq_yes h
    clear h
    go_enter Try.func9, Try.ntmps9
    go_wp2_with (first | (go_at_call 16; ((with_reducible refine (at_int s _ _ hs (by omega) (by omega)).mono ?_); rintro e w' ⟨rfl, rfl⟩)) | (go_at_call 19; ((with_reducible refine (skip_int s _ _ hs (by omega) (by omega)).mono ?_); rintro e w' ⟨rfl, rfl⟩)))
    all_goals go_ret
    all_goals refine ⟨ret_bool ?_, rfl⟩
    all_goals rw [← HR.out]
    all_goals clear HR b2 b3
    all_goals (simp_all [validFrom, vEnd, fracEnd, expAt, ee, sg, nat_beq, nat_beq1, nat_beq2]; try omega)
  · have y2 := beq_yes h
    clear h
    go_enter Try.func9, Try.ntmps9
    go_wp2_with (first | (go_at_call 16; ((with_reducible refine (at_int s _ _ hs (by omega) (by omega)).mono ?_); rintro e w' ⟨rfl, rfl⟩)) | (go_at_call 19; ((with_reducible refine (skip_int s _ _ hs (by omega) (by omega)).mono ?_); rintro e w' ⟨rfl, rfl⟩)))
    all_goals go_ret
    all_goals refine ⟨ret_bool ?_, rfl⟩
    all_goals rw [← HR.out]
    all_goals clear HR b2 b3
    all_goals (simp_all [validFrom, vEnd, fracEnd, expAt, ee, sg, nat_beq, nat_beq1, nat_beq2]; try omega)
set_option maxHeartbeats 2000000 in
set_option maxRecDepth 100000 in
theorem match_1B (s : ByteArray) (w : World) (hs : s.size ≤ 2097152) (hsg : sg (bt s 0) = true) (hq : 1 ≤ s.size) (hk : 1 < sk s 1) (hdot : (bt s (sk s 1) == 46) = false) :
    Calls Try.prog 9 #[.string s] w fun e w' => e = .returned (.bool (validFrom s 1)) ∧ w = w' := by
  have hsg' := sg_or hsg
  clear hsg
  generalize hR : validFrom s 1 = R
  have HR := Lib.hid hR
  clear hR
  have b1 := sk_le s 1 (by omega)
  have b2 := sk_top s hs ((sk s 1) + 1) (by omega)
  have b3 := sk_top s hs ((sk s 1) + 1 + 1) (by omega)
  rcases hsg' with h | h
  · have y1 : (bt s 0 == 43) = false := beq_no (by omega)
    have y2 := beq_yes h
    clear h
    go_enter Try.func9, Try.ntmps9
    go_wp2_with (first | (go_at_call 16; ((with_reducible refine (at_int s _ _ hs (by omega) (by omega)).mono ?_); rintro e w' ⟨rfl, rfl⟩)) | (go_at_call 19; ((with_reducible refine (skip_int s _ _ hs (by omega) (by omega)).mono ?_); rintro e w' ⟨rfl, rfl⟩)))
    all_goals go_ret
    all_goals refine ⟨ret_bool ?_, rfl⟩
    all_goals rw [← HR.out]
    all_goals clear HR b2 b3
    all_goals (simp_all [validFrom, vEnd, fracEnd, expAt, ee, sg, nat_beq, nat_beq1, nat_beq2]; try omega)
  · have y2 := beq_yes h
    clear h
    go_enter Try.func9, Try.ntmps9
    go_wp2_with (first | (go_at_call 16; ((with_reducible refine (at_int s _ _ hs (by omega) (by omega)).mono ?_); rintro e w' ⟨rfl, rfl⟩)) | (go_at_call 19; ((with_reducible refine (skip_int s _ _ hs (by omega) (by omega)).mono ?_); rintro e w' ⟨rfl, rfl⟩)))
    all_goals go_ret
    all_goals refine ⟨ret_bool ?_, rfl⟩
    all_goals rw [← HR.out]
    all_goals clear HR b2 b3
    all_goals (simp_all [validFrom, vEnd, fracEnd, expAt, ee, sg, nat_beq, nat_beq1, nat_beq2]; try omega)
set_option maxHeartbeats 2000000 in
set_option maxRecDepth 100000 in
theorem match_1C (s : ByteArray) (w : World) (hs : s.size ≤ 2097152) (hsg : sg (bt s 0) = true) (hq : 1 ≤ s.size) (hk : sk s 1 ≤ 1) (hdot : (bt s 1 == 46) = false) :
    Calls Try.prog 9 #[.string s] w fun e w' => e = .returned (.bool (validFrom s 1)) ∧ w = w' := by
  have hsg' := sg_or hsg
  clear hsg
  generalize hR : validFrom s 1 = R
  have HR := Lib.hid hR
  clear hR
  have b1 := sk_le s 1 (by omega)
  have hge := sk_ge s 1
  rcases hsg' with h | h
  · have y1 : (bt s 0 == 43) = false := beq_no (by omega)
    have y2 := beq_yes h
    clear h
    go_enter Try.func9, Try.ntmps9
    go_wp2_with (first | (go_at_call 16; ((with_reducible refine (at_int s _ _ hs (by omega) (by omega)).mono ?_); rintro e w' ⟨rfl, rfl⟩)) | (go_at_call 19; ((with_reducible refine (skip_int s _ _ hs (by omega) (by omega)).mono ?_); rintro e w' ⟨rfl, rfl⟩)))
    all_goals go_ret
    all_goals refine ⟨ret_bool ?_, rfl⟩
    all_goals rw [← HR.out]
    all_goals clear HR
    all_goals have hk' : ¬ (1 < sk s 1) := by omega
    all_goals (simp_all [validFrom, vEnd, fracEnd, expAt, ee, sg, nat_beq, nat_beq1, nat_beq2]; try omega)
  · have y2 := beq_yes h
    clear h
    go_enter Try.func9, Try.ntmps9
    go_wp2_with (first | (go_at_call 16; ((with_reducible refine (at_int s _ _ hs (by omega) (by omega)).mono ?_); rintro e w' ⟨rfl, rfl⟩)) | (go_at_call 19; ((with_reducible refine (skip_int s _ _ hs (by omega) (by omega)).mono ?_); rintro e w' ⟨rfl, rfl⟩)))
    all_goals go_ret
    all_goals refine ⟨ret_bool ?_, rfl⟩
    all_goals rw [← HR.out]
    all_goals clear HR
    all_goals have hk' : ¬ (1 < sk s 1) := by omega
    all_goals (simp_all [validFrom, vEnd, fracEnd, expAt, ee, sg, nat_beq, nat_beq1, nat_beq2]; try omega)
set_option maxHeartbeats 2000000 in
set_option maxRecDepth 100000 in
theorem match_1D (s : ByteArray) (w : World) (hs : s.size ≤ 2097152) (hsg : sg (bt s 0) = true) (hq : 1 ≤ s.size) (hk : sk s 1 ≤ 1) (hdot : (bt s 1 == 46) = true) (hj : sk s (2) ≤ 2) :
    Calls Try.prog 9 #[.string s] w fun e w' => e = .returned (.bool (validFrom s 1)) ∧ w = w' := by
  have hsg' := sg_or hsg
  clear hsg
  generalize hR : validFrom s 1 = R
  have HR := Lib.hid hR
  clear hR
  have b1 := sk_le s 1 (by omega)
  have hl : 1 < s.size := by rcases Nat.lt_or_ge 1 s.size with h | h; exact h; rw [bt_end s h] at hdot; cases hdot
  have b4 := sk_le s 2 (by omega)
  have hge := sk_ge s 1
  have hgj := sk_ge s 2
  rcases hsg' with h | h
  · have y1 : (bt s 0 == 43) = false := beq_no (by omega)
    have y2 := beq_yes h
    clear h
    go_enter Try.func9, Try.ntmps9
    go_wp2_with (first | (go_at_call 16; ((with_reducible refine (at_int s _ _ hs (by omega) (by omega)).mono ?_); rintro e w' ⟨rfl, rfl⟩)) | (go_at_call 19; ((with_reducible refine (skip_int s _ _ hs (by omega) (by omega)).mono ?_); rintro e w' ⟨rfl, rfl⟩)))
    all_goals go_ret
    all_goals refine ⟨ret_bool ?_, rfl⟩
    all_goals rw [← HR.out]
    all_goals clear HR
    all_goals have hk' : ¬ (1 < sk s 1) := by omega
    all_goals have hj' : sk s 2 = 2 := by omega
    all_goals (simp_all [validFrom, vEnd, fracEnd, expAt, ee, sg, nat_beq, nat_beq1, nat_beq2]; try omega)
  · have y2 := beq_yes h
    clear h
    go_enter Try.func9, Try.ntmps9
    go_wp2_with (first | (go_at_call 16; ((with_reducible refine (at_int s _ _ hs (by omega) (by omega)).mono ?_); rintro e w' ⟨rfl, rfl⟩)) | (go_at_call 19; ((with_reducible refine (skip_int s _ _ hs (by omega) (by omega)).mono ?_); rintro e w' ⟨rfl, rfl⟩)))
    all_goals go_ret
    all_goals refine ⟨ret_bool ?_, rfl⟩
    all_goals rw [← HR.out]
    all_goals clear HR
    all_goals have hk' : ¬ (1 < sk s 1) := by omega
    all_goals have hj' : sk s 2 = 2 := by omega
    all_goals (simp_all [validFrom, vEnd, fracEnd, expAt, ee, sg, nat_beq, nat_beq1, nat_beq2]; try omega)
set_option maxHeartbeats 2000000 in
set_option maxRecDepth 100000 in
theorem match_1E (s : ByteArray) (w : World) (hs : s.size ≤ 2097152) (hsg : sg (bt s 0) = true) (hq : 1 ≤ s.size) (hk : sk s 1 ≤ 1) (hdot : (bt s 1 == 46) = true) (hj : 2 < sk s 2) :
    Calls Try.prog 9 #[.string s] w fun e w' => e = .returned (.bool (validFrom s 1)) ∧ w = w' := by
  have hsg' := sg_or hsg
  clear hsg
  generalize hR : validFrom s 1 = R
  have HR := Lib.hid hR
  clear hR
  have b1 := sk_le s 1 (by omega)
  have hl : 1 < s.size := by rcases Nat.lt_or_ge 1 s.size with h | h; exact h; rw [bt_end s h] at hdot; cases hdot
  have b4 := sk_le s 2 (by omega)
  have b2 := sk_top s hs ((sk s 2) + 1) (by omega)
  have b3 := sk_top s hs ((sk s 2) + 1 + 1) (by omega)
  have hge := sk_ge s 1
  rcases hsg' with h | h
  · have y1 : (bt s 0 == 43) = false := beq_no (by omega)
    have y2 := beq_yes h
    clear h
    go_enter Try.func9, Try.ntmps9
    go_wp2_with (first | (go_at_call 16; ((with_reducible refine (at_int s _ _ hs (by omega) (by omega)).mono ?_); rintro e w' ⟨rfl, rfl⟩)) | (go_at_call 19; ((with_reducible refine (skip_int s _ _ hs (by omega) (by omega)).mono ?_); rintro e w' ⟨rfl, rfl⟩)))
    all_goals go_ret
    all_goals refine ⟨ret_bool ?_, rfl⟩
    all_goals rw [← HR.out]
    all_goals clear HR b2 b3
    all_goals have hk' : ¬ (1 < sk s 1) := by omega
    all_goals have hj' : ¬ sk s 2 = 2 := by omega
    all_goals (simp_all [validFrom, vEnd, fracEnd, expAt, ee, sg, nat_beq, nat_beq1, nat_beq2]; try omega)
  · have y2 := beq_yes h
    clear h
    go_enter Try.func9, Try.ntmps9
    go_wp2_with (first | (go_at_call 16; ((with_reducible refine (at_int s _ _ hs (by omega) (by omega)).mono ?_); rintro e w' ⟨rfl, rfl⟩)) | (go_at_call 19; ((with_reducible refine (skip_int s _ _ hs (by omega) (by omega)).mono ?_); rintro e w' ⟨rfl, rfl⟩)))
    all_goals go_ret
    all_goals refine ⟨ret_bool ?_, rfl⟩
    all_goals rw [← HR.out]
    all_goals clear HR b2 b3
    all_goals have hk' : ¬ (1 < sk s 1) := by omega
    all_goals have hj' : ¬ sk s 2 = 2 := by omega
    all_goals (simp_all [validFrom, vEnd, fracEnd, expAt, ee, sg, nat_beq, nat_beq1, nat_beq2]; try omega)
theorem match_any (s : ByteArray) (w : World) (hs : s.size ≤ 2097152) :
    Calls Try.prog 9 #[.string s] w fun e w' => e = .returned (.bool (validM s)) ∧ w = w' := by
  unfold validM
  by_cases hsg : sg (bt s 0) = true
  · have hq : 1 ≤ s.size := by rcases Nat.lt_or_ge 0 s.size with h | h; omega; rw [bt_end s h] at hsg; cases hsg
    rw [if_pos hsg]
    rcases Nat.lt_or_ge 1 (sk s 1) with hk | hk
    · cases hd : (bt s (sk s 1) == 46)
      · exact match_1B s w hs hsg hq hk hd
      · exact match_1A s w hs hsg hq hk hd
    · cases hd : (bt s 1 == 46)
      · exact match_1C s w hs hsg hq hk hd
      · rcases Nat.lt_or_ge 2 (sk s 2) with hj | hj
        · exact match_1E s w hs hsg hq hk hd hj
        · exact match_1D s w hs hsg hq hk hd hj
  · have hsg' : sg (bt s 0) = false := by simpa using hsg
    rw [if_neg hsg]
    rcases Nat.lt_or_ge 0 (sk s 0) with hk | hk
    · cases hd : (bt s (sk s 0) == 46)
      · exact match_0B s w hs hsg' hk hd
      · exact match_0A s w hs hsg' hk hd
    · cases hd : (bt s 0 == 46)
      · exact match_0C s w hs hsg' hk hd
      · rcases Nat.lt_or_ge 1 (sk s 1) with hj | hj
        · exact match_0E s w hs hsg' hk hd hj
        · exact match_0D s w hs hsg' hk hd hj
end Go.Proofs.Ytlnjbfloeliabaa
