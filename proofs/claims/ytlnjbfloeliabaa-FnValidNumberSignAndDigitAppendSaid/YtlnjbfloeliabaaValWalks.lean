/- What validNumber and the exported callers do: contracts. -/
import Derived.Test.YtlnjbfloeliabaaMatWalks
import Derived.Deep.RegionWith
namespace Go.Proofs.Ytlnjbfloeliabaa
open Go.ChangeShapes Go.WideShapes Go.ChangeAt Go.RowKit Go.PlainAid
theorem quiet_add_left {P : Program} {f : FuncId} {args : Array Value} {w : World} {a n : Nat} {v : Value}
    (h : Calls P f args (w.drewN (a + n)) fun e w' => e = .returned v ∧ w.drewN (a + n) = w') :
    Calls P f args (w.drewN (a + n)) fun e w'' => e = .returned v ∧ ∃ m, w'' = w.drewN (a + m) :=
  h.mono fun _ _ ⟨he, hm⟩ => ⟨he, n, hm.symm⟩
theorem isNumber_no (c : Int) (w : World) (h0 : 0 ≤ c) (h1 : c ≤ 255) (h : dg c = false) :
    Calls Try.prog 22 #[.int .u8 c] w fun e w' => e = .returned (.bool false) ∧ w = w' := by
  have := isNumber_any c w h0 h1
  rw [h] at this; exact this
theorem isNumber_yes (c : Int) (w : World) (h0 : 0 ≤ c) (h1 : c ≤ 255) (h : dg c = true) :
    Calls Try.prog 22 #[.int .u8 c] w fun e w' => e = .returned (.bool true) ∧ w = w' := by
  have := isNumber_any c w h0 h1
  rw [h] at this; exact this
theorem scan_st0 (b off : Nat) (s : ByteArray) (w0 w : World) (hs : s.size ≤ 2097152) (ho : off ≤ s.size) (hL : LexAt w0 w b s off) :
    Calls Try.prog 20 #[.pointer (some ⟨b, 0, none⟩), .int .i64 0] w fun e w' => e = .returned (.int .i64 (scanM s 0 off)) ∧ ∃ q, LexAt w0 w' b s q := scan_lex b off 0 s w0 w hs ho (by omega) hL
theorem scan_st1 (b off : Nat) (s : ByteArray) (w0 w : World) (hs : s.size ≤ 2097152) (ho : off ≤ s.size) (hL : LexAt w0 w b s off) :
    Calls Try.prog 20 #[.pointer (some ⟨b, 0, none⟩), .int .i64 1] w fun e w' => e = .returned (.int .i64 (scanM s 1 off)) ∧ ∃ q, LexAt w0 w' b s q := scan_lex b off 1 s w0 w hs ho (by omega) hL
set_option maxHeartbeats 2000000 in
set_option maxRecDepth 100000 in
theorem valid_0ny (b : Nat) (s : ByteArray) (w0 w : World) (hs : s.size ≤ 2097152) (HL : LexAt w0 w b s 0) (hsg : sg (bt s 0) = false) (hdot : (bt s 0 == 46) = false) (hd : dg (bt s 0) = true) :
    Calls Try.prog 18 #[.pointer (some ⟨b, 0, none⟩)] w fun e w' => e = .returned (.bool (scanM s 0 0 == (s.size : Int))) ∧ ∃ q, LexAt w0 w' b s q := by
  have hc0 := bt_nonneg s 0
  have hc1 := bt_le s 0
  have ⟨h0, h1, h2, _⟩ := HL
  have hsg' := sg_not hsg
  have n43 := beq_no hsg'.2
  have n45 := beq_no hsg'.1
  clear hsg' hsg
  go_enter Try.func18, Try.ntmps18
  go_wp2_with (first | (go_at_call 21; ((with_reducible refine (peek_lex HL hs (by omega)).mono ?_); rintro e w' ⟨rfl, nn, rfl⟩)))
  go_region_with (first | (go_at_call 22; ((with_reducible refine (isNumber_yes _ _ (by omega) (by omega) hd).mono ?_); rintro e w' ⟨rfl, rfl⟩)) | (go_at_call 20; ((with_reducible refine (scan_st0 b 0 s w0 _ hs (by omega) (HL.draw _)).mono ?_); rintro e w' ⟨rfl, q, hL⟩; have hL0 := hL.1)))
  all_goals go_wp2
  all_goals go_ret
  all_goals exact ⟨rfl, _, hL⟩
set_option maxHeartbeats 2000000 in
set_option maxRecDepth 100000 in
theorem valid_0nn (b : Nat) (s : ByteArray) (w0 w : World) (hs : s.size ≤ 2097152) (HL : LexAt w0 w b s 0) (hsg : sg (bt s 0) = false) (hdot : (bt s 0 == 46) = false) (hd : dg (bt s 0) = false) :
    Calls Try.prog 18 #[.pointer (some ⟨b, 0, none⟩)] w fun e w' => e = .returned (.bool false) ∧ ∃ q, LexAt w0 w' b s q := by
  have hc0 := bt_nonneg s 0
  have hc1 := bt_le s 0
  have ⟨h0, h1, h2, _⟩ := HL
  have hsg' := sg_not hsg
  have n43 := beq_no hsg'.2
  have n45 := beq_no hsg'.1
  clear hsg' hsg
  go_enter Try.func18, Try.ntmps18
  go_wp2_with (first | (go_at_call 21; ((with_reducible refine (peek_lex HL hs (by omega)).mono ?_); rintro e w' ⟨rfl, nn, rfl⟩)))
  go_quiet ((go_at_call 22; exact quiet_add_left (isNumber_no _ _ (by omega) (by omega) hd)))
  all_goals go_wp2
  all_goals go_ret
  all_goals exact ⟨rfl, _, ((HL.draw _).draw _)⟩
set_option maxHeartbeats 2000000 in
set_option maxRecDepth 100000 in
theorem valid_0dy (b : Nat) (s : ByteArray) (w0 w : World) (hs : s.size ≤ 2097152) (HL : LexAt w0 w b s 0) (hsg : sg (bt s 0) = false) (hdot : (bt s 0 == 46) = true) (hd : dg (bt s 1) = true) :
    Calls Try.prog 18 #[.pointer (some ⟨b, 0, none⟩)] w fun e w' => e = .returned (.bool (scanM s 1 1 == (s.size : Int))) ∧ ∃ q, LexAt w0 w' b s q := by
  have hc0 := bt_nonneg s 1
  have hc1 := bt_le s 1
  have ⟨h0, h1, h2, _⟩ := HL
  have hp : 0 < s.size := by rcases Nat.lt_or_ge 0 s.size with h | h; exact h; rw [bt_end s h] at hdot; cases hdot
  have hsg' := sg_not hsg
  have n43 := beq_no hsg'.2
  have n45 := beq_no hsg'.1
  clear hsg' hsg
  go_enter Try.func18, Try.ntmps18
  go_wp2_with (first | (go_at_call 21; ((with_reducible refine (peek_lex HL hs (by omega)).mono ?_); rintro e w' ⟨rfl, nn, rfl⟩)) | (go_at_call 21; ((with_reducible refine (peek_lex ((HL.draw _).put (q := 1) (by omega)) hs (by omega)).mono ?_); rintro e w' ⟨rfl, nn, rfl⟩)))
  go_region_with (first | (go_at_call 22; ((with_reducible refine (isNumber_yes _ _ (by omega) (by omega) hd).mono ?_); rintro e w' ⟨rfl, rfl⟩)) | (go_at_call 20; ((with_reducible refine (scan_st1 b 1 s w0 _ hs (by omega) (((HL.draw _).put (q := 1) (by omega)).draw _)).mono ?_); rintro e w' ⟨rfl, q, hL⟩; have hL0 := hL.1)))
  all_goals go_wp2
  all_goals go_ret
  all_goals exact ⟨rfl, _, hL⟩
set_option maxHeartbeats 2000000 in
set_option maxRecDepth 100000 in
theorem valid_0dn (b : Nat) (s : ByteArray) (w0 w : World) (hs : s.size ≤ 2097152) (HL : LexAt w0 w b s 0) (hsg : sg (bt s 0) = false) (hdot : (bt s 0 == 46) = true) (hd : dg (bt s 1) = false) :
    Calls Try.prog 18 #[.pointer (some ⟨b, 0, none⟩)] w fun e w' => e = .returned (.bool false) ∧ ∃ q, LexAt w0 w' b s q := by
  have hc0 := bt_nonneg s 1
  have hc1 := bt_le s 1
  have ⟨h0, h1, h2, _⟩ := HL
  have hp : 0 < s.size := by rcases Nat.lt_or_ge 0 s.size with h | h; exact h; rw [bt_end s h] at hdot; cases hdot
  have hsg' := sg_not hsg
  have n43 := beq_no hsg'.2
  have n45 := beq_no hsg'.1
  clear hsg' hsg
  go_enter Try.func18, Try.ntmps18
  go_wp2_with (first | (go_at_call 21; ((with_reducible refine (peek_lex HL hs (by omega)).mono ?_); rintro e w' ⟨rfl, nn, rfl⟩)) | (go_at_call 21; ((with_reducible refine (peek_lex ((HL.draw _).put (q := 1) (by omega)) hs (by omega)).mono ?_); rintro e w' ⟨rfl, nn, rfl⟩)))
  go_quiet ((go_at_call 22; exact quiet_add_left (isNumber_no _ _ (by omega) (by omega) hd)))
  all_goals go_wp2
  all_goals go_ret
  all_goals exact ⟨rfl, _, ((((HL.draw _).put (q := 1) (by omega)).draw _).draw _)⟩
set_option maxHeartbeats 2000000 in
set_option maxRecDepth 100000 in
theorem valid_1ny (b : Nat) (s : ByteArray) (w0 w : World) (hs : s.size ≤ 2097152) (HL : LexAt w0 w b s 0) (hsg : sg (bt s 0) = true) (hdot : (bt s 1 == 46) = false) (hd : dg (bt s 1) = true) :
    Calls Try.prog 18 #[.pointer (some ⟨b, 0, none⟩)] w fun e w' => e = .returned (.bool (scanM s 0 1 == (s.size : Int))) ∧ ∃ q, LexAt w0 w' b s q := by
  have hc0 := bt_nonneg s 1
  have hc1 := bt_le s 1
  have ⟨h0, h1, h2, _⟩ := HL
  have hq : 0 < s.size := by rcases Nat.lt_or_ge 0 s.size with h | h; exact h; rw [bt_end s h] at hsg; cases hsg
  have hsg' := sg_or hsg
  clear hsg
  rcases hsg' with h | h
  · have y1 : (bt s 0 == 43) = false := beq_no (by omega)
    have y2 := beq_yes h
    clear h
    go_enter Try.func18, Try.ntmps18
    go_wp2_with (first | (go_at_call 21; ((with_reducible refine (peek_lex HL hs (by omega)).mono ?_); rintro e w' ⟨rfl, nn, rfl⟩)) | (go_at_call 21; ((with_reducible refine (peek_lex ((HL.draw _).put (q := 1) (by omega)) hs (by omega)).mono ?_); rintro e w' ⟨rfl, nn, rfl⟩)))
    go_region_with (first | (go_at_call 22; ((with_reducible refine (isNumber_yes _ _ (by omega) (by omega) hd).mono ?_); rintro e w' ⟨rfl, rfl⟩)) | (go_at_call 20; ((with_reducible refine (scan_st0 b 1 s w0 _ hs (by omega) (((HL.draw _).put (q := 1) (by omega)).draw _)).mono ?_); rintro e w' ⟨rfl, q, hL⟩; have hL0 := hL.1)))
    all_goals go_wp2
    all_goals go_ret
    all_goals exact ⟨rfl, _, hL⟩
  · have y2 := beq_yes h
    clear h
    go_enter Try.func18, Try.ntmps18
    go_wp2_with (first | (go_at_call 21; ((with_reducible refine (peek_lex HL hs (by omega)).mono ?_); rintro e w' ⟨rfl, nn, rfl⟩)) | (go_at_call 21; ((with_reducible refine (peek_lex ((HL.draw _).put (q := 1) (by omega)) hs (by omega)).mono ?_); rintro e w' ⟨rfl, nn, rfl⟩)))
    go_region_with (first | (go_at_call 22; ((with_reducible refine (isNumber_yes _ _ (by omega) (by omega) hd).mono ?_); rintro e w' ⟨rfl, rfl⟩)) | (go_at_call 20; ((with_reducible refine (scan_st0 b 1 s w0 _ hs (by omega) (((HL.draw _).put (q := 1) (by omega)).draw _)).mono ?_); rintro e w' ⟨rfl, q, hL⟩; have hL0 := hL.1)))
    all_goals go_wp2
    all_goals go_ret
    all_goals exact ⟨rfl, _, hL⟩
set_option maxHeartbeats 2000000 in
set_option maxRecDepth 100000 in
theorem valid_1nn (b : Nat) (s : ByteArray) (w0 w : World) (hs : s.size ≤ 2097152) (HL : LexAt w0 w b s 0) (hsg : sg (bt s 0) = true) (hdot : (bt s 1 == 46) = false) (hd : dg (bt s 1) = false) :
    Calls Try.prog 18 #[.pointer (some ⟨b, 0, none⟩)] w fun e w' => e = .returned (.bool false) ∧ ∃ q, LexAt w0 w' b s q := by
  have hc0 := bt_nonneg s 1
  have hc1 := bt_le s 1
  have ⟨h0, h1, h2, _⟩ := HL
  have hq : 0 < s.size := by rcases Nat.lt_or_ge 0 s.size with h | h; exact h; rw [bt_end s h] at hsg; cases hsg
  have hsg' := sg_or hsg
  clear hsg
  rcases hsg' with h | h
  · have y1 : (bt s 0 == 43) = false := beq_no (by omega)
    have y2 := beq_yes h
    clear h
    go_enter Try.func18, Try.ntmps18
    go_wp2_with (first | (go_at_call 21; ((with_reducible refine (peek_lex HL hs (by omega)).mono ?_); rintro e w' ⟨rfl, nn, rfl⟩)) | (go_at_call 21; ((with_reducible refine (peek_lex ((HL.draw _).put (q := 1) (by omega)) hs (by omega)).mono ?_); rintro e w' ⟨rfl, nn, rfl⟩)))
    go_quiet ((go_at_call 22; exact quiet_add_left (isNumber_no _ _ (by omega) (by omega) hd)))
    all_goals go_wp2
    all_goals go_ret
    all_goals exact ⟨rfl, _, ((((HL.draw _).put (q := 1) (by omega)).draw _).draw _)⟩
  · have y2 := beq_yes h
    clear h
    go_enter Try.func18, Try.ntmps18
    go_wp2_with (first | (go_at_call 21; ((with_reducible refine (peek_lex HL hs (by omega)).mono ?_); rintro e w' ⟨rfl, nn, rfl⟩)) | (go_at_call 21; ((with_reducible refine (peek_lex ((HL.draw _).put (q := 1) (by omega)) hs (by omega)).mono ?_); rintro e w' ⟨rfl, nn, rfl⟩)))
    go_quiet ((go_at_call 22; exact quiet_add_left (isNumber_no _ _ (by omega) (by omega) hd)))
    all_goals go_wp2
    all_goals go_ret
    all_goals exact ⟨rfl, _, ((((HL.draw _).put (q := 1) (by omega)).draw _).draw _)⟩
set_option maxHeartbeats 2000000 in
set_option maxRecDepth 100000 in
theorem valid_1dy (b : Nat) (s : ByteArray) (w0 w : World) (hs : s.size ≤ 2097152) (HL : LexAt w0 w b s 0) (hsg : sg (bt s 0) = true) (hdot : (bt s 1 == 46) = true) (hd : dg (bt s 2) = true) :
    Calls Try.prog 18 #[.pointer (some ⟨b, 0, none⟩)] w fun e w' => e = .returned (.bool (scanM s 1 2 == (s.size : Int))) ∧ ∃ q, LexAt w0 w' b s q := by
  have hc0 := bt_nonneg s 2
  have hc1 := bt_le s 2
  have ⟨h0, h1, h2, _⟩ := HL
  have hq : 0 < s.size := by rcases Nat.lt_or_ge 0 s.size with h | h; exact h; rw [bt_end s h] at hsg; cases hsg
  have hp : 1 < s.size := by rcases Nat.lt_or_ge 1 s.size with h | h; exact h; rw [bt_end s h] at hdot; cases hdot
  have hsg' := sg_or hsg
  clear hsg
  rcases hsg' with h | h
  · have y1 : (bt s 0 == 43) = false := beq_no (by omega)
    have y2 := beq_yes h
    clear h
    go_enter Try.func18, Try.ntmps18
    go_wp2_with (first | (go_at_call 21; ((with_reducible refine (peek_lex HL hs (by omega)).mono ?_); rintro e w' ⟨rfl, nn, rfl⟩)) | (go_at_call 21; ((with_reducible refine (peek_lex ((HL.draw _).put (q := 1) (by omega)) hs (by omega)).mono ?_); rintro e w' ⟨rfl, nn, rfl⟩)) | (go_at_call 21; ((with_reducible refine (peek_lex ((((HL.draw _).put (q := 1) (by omega)).draw _).put (q := 2) (by omega)) hs (by omega)).mono ?_); rintro e w' ⟨rfl, nn, rfl⟩)))
    go_region_with (first | (go_at_call 22; ((with_reducible refine (isNumber_yes _ _ (by omega) (by omega) hd).mono ?_); rintro e w' ⟨rfl, rfl⟩)) | (go_at_call 20; ((with_reducible refine (scan_st1 b 2 s w0 _ hs (by omega) (((((HL.draw _).put (q := 1) (by omega)).draw _).put (q := 2) (by omega)).draw _)).mono ?_); rintro e w' ⟨rfl, q, hL⟩; have hL0 := hL.1)))
    all_goals go_wp2
    all_goals go_ret
    all_goals exact ⟨rfl, _, hL⟩
  · have y2 := beq_yes h
    clear h
    go_enter Try.func18, Try.ntmps18
    go_wp2_with (first | (go_at_call 21; ((with_reducible refine (peek_lex HL hs (by omega)).mono ?_); rintro e w' ⟨rfl, nn, rfl⟩)) | (go_at_call 21; ((with_reducible refine (peek_lex ((HL.draw _).put (q := 1) (by omega)) hs (by omega)).mono ?_); rintro e w' ⟨rfl, nn, rfl⟩)) | (go_at_call 21; ((with_reducible refine (peek_lex ((((HL.draw _).put (q := 1) (by omega)).draw _).put (q := 2) (by omega)) hs (by omega)).mono ?_); rintro e w' ⟨rfl, nn, rfl⟩)))
    go_region_with (first | (go_at_call 22; ((with_reducible refine (isNumber_yes _ _ (by omega) (by omega) hd).mono ?_); rintro e w' ⟨rfl, rfl⟩)) | (go_at_call 20; ((with_reducible refine (scan_st1 b 2 s w0 _ hs (by omega) (((((HL.draw _).put (q := 1) (by omega)).draw _).put (q := 2) (by omega)).draw _)).mono ?_); rintro e w' ⟨rfl, q, hL⟩; have hL0 := hL.1)))
    all_goals go_wp2
    all_goals go_ret
    all_goals exact ⟨rfl, _, hL⟩
set_option maxHeartbeats 2000000 in
set_option maxRecDepth 100000 in
theorem valid_1dn (b : Nat) (s : ByteArray) (w0 w : World) (hs : s.size ≤ 2097152) (HL : LexAt w0 w b s 0) (hsg : sg (bt s 0) = true) (hdot : (bt s 1 == 46) = true) (hd : dg (bt s 2) = false) :
    Calls Try.prog 18 #[.pointer (some ⟨b, 0, none⟩)] w fun e w' => e = .returned (.bool false) ∧ ∃ q, LexAt w0 w' b s q := by
  have hc0 := bt_nonneg s 2
  have hc1 := bt_le s 2
  have ⟨h0, h1, h2, _⟩ := HL
  have hq : 0 < s.size := by rcases Nat.lt_or_ge 0 s.size with h | h; exact h; rw [bt_end s h] at hsg; cases hsg
  have hp : 1 < s.size := by rcases Nat.lt_or_ge 1 s.size with h | h; exact h; rw [bt_end s h] at hdot; cases hdot
  have hsg' := sg_or hsg
  clear hsg
  rcases hsg' with h | h
  · have y1 : (bt s 0 == 43) = false := beq_no (by omega)
    have y2 := beq_yes h
    clear h
    go_enter Try.func18, Try.ntmps18
    go_wp2_with (first | (go_at_call 21; ((with_reducible refine (peek_lex HL hs (by omega)).mono ?_); rintro e w' ⟨rfl, nn, rfl⟩)) | (go_at_call 21; ((with_reducible refine (peek_lex ((HL.draw _).put (q := 1) (by omega)) hs (by omega)).mono ?_); rintro e w' ⟨rfl, nn, rfl⟩)) | (go_at_call 21; ((with_reducible refine (peek_lex ((((HL.draw _).put (q := 1) (by omega)).draw _).put (q := 2) (by omega)) hs (by omega)).mono ?_); rintro e w' ⟨rfl, nn, rfl⟩)))
    go_quiet ((go_at_call 22; exact quiet_add_left (isNumber_no _ _ (by omega) (by omega) hd)))
    all_goals go_wp2
    all_goals go_ret
    all_goals exact ⟨rfl, _, ((((((HL.draw _).put (q := 1) (by omega)).draw _).put (q := 2) (by omega)).draw _).draw _)⟩
  · have y2 := beq_yes h
    clear h
    go_enter Try.func18, Try.ntmps18
    go_wp2_with (first | (go_at_call 21; ((with_reducible refine (peek_lex HL hs (by omega)).mono ?_); rintro e w' ⟨rfl, nn, rfl⟩)) | (go_at_call 21; ((with_reducible refine (peek_lex ((HL.draw _).put (q := 1) (by omega)) hs (by omega)).mono ?_); rintro e w' ⟨rfl, nn, rfl⟩)) | (go_at_call 21; ((with_reducible refine (peek_lex ((((HL.draw _).put (q := 1) (by omega)).draw _).put (q := 2) (by omega)) hs (by omega)).mono ?_); rintro e w' ⟨rfl, nn, rfl⟩)))
    go_quiet ((go_at_call 22; exact quiet_add_left (isNumber_no _ _ (by omega) (by omega) hd)))
    all_goals go_wp2
    all_goals go_ret
    all_goals exact ⟨rfl, _, ((((((HL.draw _).put (q := 1) (by omega)).draw _).put (q := 2) (by omega)).draw _).draw _)⟩
theorem valid_lex (b : Nat) (s : ByteArray) (w0 w : World) (hs : s.size ≤ 2097152) (HL : LexAt w0 w b s 0) :
    Calls Try.prog 18 #[.pointer (some ⟨b, 0, none⟩)] w fun e w' => e = .returned (.bool (validM s)) ∧ ∃ q, LexAt w0 w' b s q := by
  unfold validM
  cases hsg : sg (bt s 0)
  · rw [if_neg (by simp), ← lex_eq]
    unfold lexFrom
    cases hdot : (bt s 0 == 46)
    · rw [if_neg (by simpa using hdot)]
      cases hd : dg (bt s 0)
      · exact valid_0nn b s w0 w hs HL hsg hdot hd
      · exact valid_0ny b s w0 w hs HL hsg hdot hd
    · rw [if_pos (by simpa using hdot)]
      cases hd : dg (bt s (0 + 1))
      · exact valid_0dn b s w0 w hs HL hsg hdot hd
      · exact valid_0dy b s w0 w hs HL hsg hdot hd
  · rw [if_pos rfl, ← lex_eq]
    unfold lexFrom
    cases hdot : (bt s 1 == 46)
    · rw [if_neg (by simpa using hdot)]
      cases hd : dg (bt s 1)
      · exact valid_1nn b s w0 w hs HL hsg hdot hd
      · exact valid_1ny b s w0 w hs HL hsg hdot hd
    · rw [if_pos (by simpa using hdot)]
      cases hd : dg (bt s (1 + 1))
      · exact valid_1dn b s w0 w hs HL hsg hdot hd
      · exact valid_1dy b s w0 w hs HL hsg hdot hd
/-- a lexer in new memory -/
theorem lex_new (w : World) (s : ByteArray) (off : Nat) (a2 a3 a4 a5 a6 : Value) (t : TypeId) : LexAt w (w.alloc (.cells #[.string s, .int .i64 off, a2, a3, a4, a5, a6] t)) w.heap.size s off := by
  refine ⟨?_, ?_, ?_, (Below.refl _ _).alloc (Nat.le_refl _) _⟩ <;> simp [go_sem]
set_option maxHeartbeats 1000000 in
theorem zzscan_any (s : ByteArray) (off : Nat) (st : Nat) (w : World) (hs : s.size ≤ 2097152) (ho : off ≤ s.size) (hst : st ≤ 3) :
    Calls Try.prog 11 #[.string s, .int .i64 off, .int .i64 st] w fun e w' => e = .returned (.int .i64 (scanM s st off)) ∧ Below w.heap.size w w' := by
  go_enter Try.func11, Try.ntmps11
  go_wp2_with (go_at_call 20; refine (scan_lex w.heap.size off st s w _ hs ho hst (lex_new w s off _ _ _ _ _ _)).mono ?_; rintro e w' ⟨rfl, q, hL⟩)
  go_ret
  exact ⟨rfl, hL.2.2.2⟩
set_option maxHeartbeats 1000000 in
theorem zzvalid_any (s : ByteArray) (w : World) (hs : s.size ≤ 2097152) :
    Calls Try.prog 8 #[.string s] w fun e w' => e = .returned (.bool (validM s)) ∧ Below w.heap.size w w' := by
  go_enter Try.func8, Try.ntmps8
  go_wp2_with (go_at_call 18; refine (valid_lex w.heap.size s w _ hs (lex_new w s 0 _ _ _ _ _ _)).mono ?_; rintro e w' ⟨rfl, q, hL⟩)
  go_ret
  exact ⟨rfl, hL.2.2.2⟩
end Go.Proofs.Ytlnjbfloeliabaa
