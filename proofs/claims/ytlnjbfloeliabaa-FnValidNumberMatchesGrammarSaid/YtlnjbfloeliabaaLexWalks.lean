/- What the lexer's peek, isNumber, isIdent and scanNumber do: contracts over the translated program. -/
import Derived.Test.YtlnjbfloeliabaaRows
import Derived.Test.YtlnjbfloeliabaaNum
import Derived.WalkKit
import Derived.ProofKit
import Derived.WalkSpells
import Derived.Deep.QuietTactic
import Derived.BigQuiet
import Derived.Lib.Hide
import Derived.LoopTactic
import Derived.Outline
namespace Go.Proofs.Ytlnjbfloeliabaa
open Go.ChangeShapes Go.WideShapes Go.ChangeAt Go.RowKit Go.PlainAid
theorem ret_int {k : IntKind} {a b : Int} (h : a = b) : Ending.returned (.int k a) = .returned (.int k b) := by rw [h]
theorem ret_bool {a b : Bool} (h : a = b) : Ending.returned (.bool a) = .returned (.bool b) := by rw [h]
set_option maxHeartbeats 400000 in
theorem peek_any (b off : Nat) (s : ByteArray) (w : World) (_hs : s.size ≤ 2097152) (ho : off ≤ s.size)
    (h0 : w.cell? ⟨b, 0, none⟩ = some (.string s)) (h1 : w.cell? ⟨b, 1, none⟩ = some (.int .i64 off)) :
    Calls Try.prog 21 #[.pointer (some ⟨b, 0, none⟩)] w fun e w' => e = .returned (.int .u8 (bt s off)) ∧ ∃ n, w' = w.drewN n := by
  have hg := get_bt s
  by_cases he : off = s.size
  · have hb : ((s.size : Int) == (off : Int)) = true := by rw [beq_iff_eq]; omega
    have E0 : bt s off = 0 := bt_end s (by omega)
    have H := Lib.hid E0
    clear E0 he
    go_enter Try.func21, Try.ntmps21
    go_wp2
    go_quiet (fail)
    go_wp2
    go_ret
    exact ⟨ret_int H.out.symm, _, rfl⟩
  · have hb : ((s.size : Int) == (off : Int)) = false := by rw [beq_eq_false_iff_ne]; omega
    have hl : off < s.size := by omega
    clear he
    go_enter Try.func21, Try.ntmps21
    go_wp2
    go_quiet (fail)
    go_wp2
    go_quiet (fail)
    go_wp2
    go_ret
    exact ⟨rfl, _, World.drewN_drewN _ _ _⟩
theorem isNumber_any (c : Int) (w : World) (h0 : 0 ≤ c) (h1 : c ≤ 255) :
    Calls Try.prog 22 #[.int .u8 c] w fun e w' => e = .returned (.bool (dg c)) ∧ w = w' := by
  by_cases ha : 48 ≤ c
  · go_enter Try.func22, Try.ntmps22
    go_wp2
    go_ret
    exact ⟨ret_bool (by simp [dg, ha]), rfl⟩
  · go_enter Try.func22, Try.ntmps22
    go_wp2
    go_ret
    exact ⟨ret_bool (by rw [Bool.eq_iff_iff]; simp [dg]; try omega), rfl⟩
set_option maxHeartbeats 400000 in
theorem isIdent_any (c : Int) (w : World) (h0 : 0 ≤ c) (h1 : c ≤ 255) :
    Calls Try.prog 23 #[.int .u8 c, .bool false] w fun e w' => e = .returned (.bool (lt c)) ∧ w = w' := by
  go_enter Try.func23, Try.ntmps23
  go_wp2
  all_goals go_ret
  all_goals exact ⟨ret_bool (by rw [Bool.eq_iff_iff]; simp [lt]; try omega), rfl⟩
/-- the offset that lies in the lexer's second cell -/
def offOf (w : World) (b : Nat) : Nat := match w.cell? ⟨b, 1, none⟩ with
  | some (.int _ n) => n.toNat
  | _ => 0
/-- block b of wr holds a lexer over s at offset p; below b nothing has turned since w0 -/
def LexAt (w0 wr : World) (b : Nat) (s : ByteArray) (p : Nat) : Prop :=
  wr.cell? ⟨b, 0, none⟩ = some (.string s) ∧ wr.cell? ⟨b, 1, none⟩ = some (.int .i64 p) ∧ wr.frozen? ⟨b, 1, none⟩ = false ∧ Below b w0 wr
theorem below_drewN {B : Nat} {a w : World} (h : Below B a w) (n : Nat) : Below B a (w.drewN n) := ⟨h.os, h.tape, h.output, h.size, h.block⟩
theorem LexAt.draw {w0 wr : World} {b : Nat} {s : ByteArray} {p : Nat} (h : LexAt w0 wr b s p) (n : Nat) : LexAt w0 (wr.drewN n) b s p := ⟨h.1, h.2.1, h.2.2.1, below_drewN h.2.2.2 n⟩
theorem LexAt.put {w0 wr : World} {b : Nat} {s : ByteArray} {p : Nat} (h : LexAt w0 wr b s p) {q : Nat} {z : Int} (hz : z = (q : Int)) : LexAt w0 (wr.setCell ⟨b, 1, none⟩ (.int .i64 z)) b s q := by
  obtain ⟨h0, h1, h2, h3⟩ := h
  subst hz
  refine ⟨?_, ?_, ?_, h3.setCell (Nat.le_refl _) _⟩
  · simp [go_sem, h0]
  · simp [go_sem, h1]
  · simp [go_sem, h2]
theorem LexAt.off {w0 wr : World} {b : Nat} {s : ByteArray} {p : Nat} (h : LexAt w0 wr b s p) : offOf wr b = p := by unfold offOf; rw [h.2.1]; rfl
theorem peek_lex {w0 w : World} {b p : Nat} {s : ByteArray} (h : LexAt w0 w b s p) (hs : s.size ≤ 2097152) (ho : p ≤ s.size) :
    Calls Try.prog 21 #[.pointer (some ⟨b, 0, none⟩)] w fun e w' => e = .returned (.int .u8 (bt s p)) ∧ ∃ n, w' = w.drewN n :=
  peek_any b p s w hs ho h.1 h.2.1
theorem sg_or {c : Int} (h : sg c = true) : c = 45 ∨ c = 43 := by
  have h1 : c = 43 ∨ c = 45 := by simpa [sg] using h
  omega
theorem sg_not {c : Int} (h : sg c = false) : c ≠ 45 ∧ c ≠ 43 := by
  have h1 : c ≠ 43 ∧ c ≠ 45 := by simpa [sg] using h
  omega
theorem ee_or {c : Int} (h : ee c = true) : c = 101 ∨ c = 69 := by simpa [ee] using h
theorem beq_yes {a b : Int} (h : a = b) : (a == b) = true := by rw [beq_iff_eq]; exact h
theorem beq_no {a b : Int} (h : a ≠ b) : (a == b) = false := by rw [beq_eq_false_iff_ne]; exact h
set_option maxHeartbeats 4000000 in
set_option maxRecDepth 100000 in
theorem scan_lex (b off st : Nat) (s : ByteArray) (w0 w : World) (hs : s.size ≤ 2097152) (ho : off ≤ s.size) (hst : st ≤ 3) (hL : LexAt w0 w b s off) :
    Calls Try.prog 20 #[.pointer (some ⟨b, 0, none⟩), .int .i64 st] w fun e w' => e = .returned (.int .i64 (scanM s st off)) ∧ ∃ q, LexAt w0 w' b s q := by
  generalize hR : scanM s st off = R
  have HR := Lib.hid hR
  clear hR
  go_enter Try.func20, Try.ntmps20
  go_wp2
  go_loopw [1] (fun t wr => ∃ k p : Nat, t = .int .i64 k ∧ k ≤ 3 ∧ p ≤ s.size ∧ LexAt w0 wr b s p ∧ Hid (scanM s k p = R)) (fun _ wr => s.size - offOf wr b)
  case atStart => exact ⟨st, off, rfl, hst, ho, hL, HR⟩
  case round =>
    clear hL HR ho hst
    obtain ⟨k, p, rfl, hk, hp, HL, HR⟩ := hrel
    have hc0 := bt_nonneg s p
    have hc1 := bt_le s p
    have ⟨h0, h1, h2, _⟩ := HL
    obtain rfl | rfl | rfl | rfl : k = 0 ∨ k = 1 ∨ k = 2 ∨ k = 3 := by omega
    · by_cases hd : dg (bt s p) = true
      · have hl := dg_lt s p hd
        go_wp2_with (first | (go_at_call 21; ((with_reducible refine (peek_lex HL hs (by omega)).mono ?_); rintro e w' ⟨rfl, nn, rfl⟩)) | (go_at_call 22; refine (isNumber_any _ _ (by omega) (by omega)).mono ?_; rintro e w' ⟨rfl, rfl⟩) | (go_at_call 23; refine (isIdent_any _ _ (by omega) (by omega)).mono ?_; rintro e w' ⟨rfl, rfl⟩))
        go_roundw
        case rel => exact ⟨0, p + 1, rfl, by omega, by omega, ((HL.draw _).put (q := p + 1) (by omega)), Lib.hid ((scan0_dig s p hd).symm.trans HR.out)⟩
        case measure => rw [HL.off, LexAt.off (((HL.draw _).put (q := p + 1) (by omega)) : LexAt w0 _ b s (p + 1))]; omega
      · have hd' : dg (bt s p) = false := by simpa using hd
        clear hd
        by_cases h46 : bt s p = 46
        · have hl : p < s.size := by rcases Nat.lt_or_ge p s.size with h | h; exact h; rw [bt_end s h] at h46; omega
          have h46' : (bt s p == 46) = true := by rw [beq_iff_eq]; exact h46
          have H46 := Lib.hid h46
          clear h46
          go_wp2_with (first | (go_at_call 21; ((with_reducible refine (peek_lex HL hs (by omega)).mono ?_); rintro e w' ⟨rfl, nn, rfl⟩)) | (go_at_call 22; refine (isNumber_any _ _ (by omega) (by omega)).mono ?_; rintro e w' ⟨rfl, rfl⟩) | (go_at_call 23; refine (isIdent_any _ _ (by omega) (by omega)).mono ?_; rintro e w' ⟨rfl, rfl⟩))
          go_roundw
          case rel => exact ⟨1, p + 1, rfl, by omega, by omega, ((HL.draw _).put (q := p + 1) (by omega)), Lib.hid ((scan0_dot s p H46.out).symm.trans HR.out)⟩
          case measure => rw [HL.off, LexAt.off (((HL.draw _).put (q := p + 1) (by omega)) : LexAt w0 _ b s (p + 1))]; omega
        · have n46 : (bt s p == 46) = false := beq_no h46
          by_cases he : ee (bt s p) = true
          · have hl : p < s.size := by rcases Nat.lt_or_ge p s.size with h | h; exact h; rw [bt_end s h] at he; cases he
            have he' := ee_or he
            have HE := Lib.hid he
            clear he h46
            have hx0 := bt_nonneg s (p + 1)
            have hx1 := bt_le s (p + 1)
            by_cases hg : sg (bt s (p + 1)) = true
            · have hl2 : p + 1 < s.size := by rcases Nat.lt_or_ge (p + 1) s.size with h | h; exact h; rw [bt_end s h] at hg; cases hg
              have e2 : expAt s p = p + 2 := by simp [expAt, hg]
              have hq : scanM s 2 (p + 2) = R := by rw [← e2, ← scan01_e s 0 p (by omega) HE.out]; exact HR.out
              have HQ := Lib.hid hq
              have hg' := sg_or hg
              clear hg hq e2
              rcases he' with he' | he'
              · have x1 := beq_yes he'
                clear he'
                rcases hg' with hg' | hg'
                · have y1 := beq_yes hg'
                  clear hg'
                  go_wp2_with (first | (go_at_call 21; ((with_reducible refine (peek_lex HL hs (by omega)).mono ?_); rintro e w' ⟨rfl, nn, rfl⟩)) | (go_at_call 22; refine (isNumber_any _ _ (by omega) (by omega)).mono ?_; rintro e w' ⟨rfl, rfl⟩) | (go_at_call 21; ((with_reducible refine (peek_lex ((HL.draw _).put (q := p + 1) (by omega)) hs (by omega)).mono ?_); rintro e w' ⟨rfl, nn, rfl⟩)))
                  go_roundw
                  case rel => exact ⟨2, p + 2, rfl, by omega, by omega, ((((HL.draw _).put (q := p + 1) (by omega)).draw _).put (q := p + 2) (by omega)), Lib.hid (HQ.out)⟩
                  case measure => rw [HL.off, LexAt.off (((((HL.draw _).put (q := p + 1) (by omega)).draw _).put (q := p + 2) (by omega)) : LexAt w0 _ b s (p + 2))]; omega
                · have y1 : (bt s (p + 1) == 45) = false := beq_no (by omega)
                  have y2 := beq_yes hg'
                  clear hg'
                  go_wp2_with (first | (go_at_call 21; ((with_reducible refine (peek_lex HL hs (by omega)).mono ?_); rintro e w' ⟨rfl, nn, rfl⟩)) | (go_at_call 22; refine (isNumber_any _ _ (by omega) (by omega)).mono ?_; rintro e w' ⟨rfl, rfl⟩) | (go_at_call 21; ((with_reducible refine (peek_lex ((HL.draw _).put (q := p + 1) (by omega)) hs (by omega)).mono ?_); rintro e w' ⟨rfl, nn, rfl⟩)))
                  go_roundw
                  case rel => exact ⟨2, p + 2, rfl, by omega, by omega, ((((HL.draw _).put (q := p + 1) (by omega)).draw _).put (q := p + 2) (by omega)), Lib.hid (HQ.out)⟩
                  case measure => rw [HL.off, LexAt.off (((((HL.draw _).put (q := p + 1) (by omega)).draw _).put (q := p + 2) (by omega)) : LexAt w0 _ b s (p + 2))]; omega
              · have x1 : (bt s p == 101) = false := beq_no (by omega)
                have x2 := beq_yes he'
                clear he'
                rcases hg' with hg' | hg'
                · have y1 := beq_yes hg'
                  clear hg'
                  go_wp2_with (first | (go_at_call 21; ((with_reducible refine (peek_lex HL hs (by omega)).mono ?_); rintro e w' ⟨rfl, nn, rfl⟩)) | (go_at_call 22; refine (isNumber_any _ _ (by omega) (by omega)).mono ?_; rintro e w' ⟨rfl, rfl⟩) | (go_at_call 21; ((with_reducible refine (peek_lex ((HL.draw _).put (q := p + 1) (by omega)) hs (by omega)).mono ?_); rintro e w' ⟨rfl, nn, rfl⟩)))
                  go_roundw
                  case rel => exact ⟨2, p + 2, rfl, by omega, by omega, ((((HL.draw _).put (q := p + 1) (by omega)).draw _).put (q := p + 2) (by omega)), Lib.hid (HQ.out)⟩
                  case measure => rw [HL.off, LexAt.off (((((HL.draw _).put (q := p + 1) (by omega)).draw _).put (q := p + 2) (by omega)) : LexAt w0 _ b s (p + 2))]; omega
                · have y1 : (bt s (p + 1) == 45) = false := beq_no (by omega)
                  have y2 := beq_yes hg'
                  clear hg'
                  go_wp2_with (first | (go_at_call 21; ((with_reducible refine (peek_lex HL hs (by omega)).mono ?_); rintro e w' ⟨rfl, nn, rfl⟩)) | (go_at_call 22; refine (isNumber_any _ _ (by omega) (by omega)).mono ?_; rintro e w' ⟨rfl, rfl⟩) | (go_at_call 21; ((with_reducible refine (peek_lex ((HL.draw _).put (q := p + 1) (by omega)) hs (by omega)).mono ?_); rintro e w' ⟨rfl, nn, rfl⟩)))
                  go_roundw
                  case rel => exact ⟨2, p + 2, rfl, by omega, by omega, ((((HL.draw _).put (q := p + 1) (by omega)).draw _).put (q := p + 2) (by omega)), Lib.hid (HQ.out)⟩
                  case measure => rw [HL.off, LexAt.off (((((HL.draw _).put (q := p + 1) (by omega)).draw _).put (q := p + 2) (by omega)) : LexAt w0 _ b s (p + 2))]; omega
            · have hg2 : sg (bt s (p + 1)) = false := by simpa using hg
              have e2 : expAt s p = p + 1 := by simp [expAt, hg2]
              have hq : scanM s 2 (p + 1) = R := by rw [← e2, ← scan01_e s 0 p (by omega) HE.out]; exact HR.out
              have HQ := Lib.hid hq
              have hg' := sg_not hg2
              have y1 := beq_no hg'.1
              have y2 := beq_no hg'.2
              clear hg hg2 hq e2 hg'
              rcases he' with he' | he'
              · have x1 := beq_yes he'
                clear he'
                go_wp2_with (first | (go_at_call 21; ((with_reducible refine (peek_lex HL hs (by omega)).mono ?_); rintro e w' ⟨rfl, nn, rfl⟩)) | (go_at_call 22; refine (isNumber_any _ _ (by omega) (by omega)).mono ?_; rintro e w' ⟨rfl, rfl⟩) | (go_at_call 21; ((with_reducible refine (peek_lex ((HL.draw _).put (q := p + 1) (by omega)) hs (by omega)).mono ?_); rintro e w' ⟨rfl, nn, rfl⟩)))
                go_roundw
                case rel => exact ⟨2, p + 1, rfl, by omega, by omega, (((HL.draw _).put (q := p + 1) (by omega)).draw _), Lib.hid (HQ.out)⟩
                case measure => rw [HL.off, LexAt.off ((((HL.draw _).put (q := p + 1) (by omega)).draw _) : LexAt w0 _ b s (p + 1))]; omega
              · have x1 : (bt s p == 101) = false := beq_no (by omega)
                have x2 := beq_yes he'
                clear he'
                go_wp2_with (first | (go_at_call 21; ((with_reducible refine (peek_lex HL hs (by omega)).mono ?_); rintro e w' ⟨rfl, nn, rfl⟩)) | (go_at_call 22; refine (isNumber_any _ _ (by omega) (by omega)).mono ?_; rintro e w' ⟨rfl, rfl⟩) | (go_at_call 21; ((with_reducible refine (peek_lex ((HL.draw _).put (q := p + 1) (by omega)) hs (by omega)).mono ?_); rintro e w' ⟨rfl, nn, rfl⟩)))
                go_roundw
                case rel => exact ⟨2, p + 1, rfl, by omega, by omega, (((HL.draw _).put (q := p + 1) (by omega)).draw _), Lib.hid (HQ.out)⟩
                case measure => rw [HL.off, LexAt.off ((((HL.draw _).put (q := p + 1) (by omega)).draw _) : LexAt w0 _ b s (p + 1))]; omega
          · have he' : ee (bt s p) = false := by simpa using he
            have hee : bt s p ≠ 101 ∧ bt s p ≠ 69 := by simpa [ee] using he'
            have n1 := beq_no hee.1
            have n2 := beq_no hee.2
            have hv := scan01_end s 0 p (by omega) hd' h46 he'
            have HV := Lib.hid hv
            clear hv hee he h46
            by_cases hlt : lt (bt s p) = true
            · go_wp2_with (first | (go_at_call 21; ((with_reducible refine (peek_lex HL hs (by omega)).mono ?_); rintro e w' ⟨rfl, nn, rfl⟩)) | (go_at_call 22; refine (isNumber_any _ _ (by omega) (by omega)).mono ?_; rintro e w' ⟨rfl, rfl⟩) | (go_at_call 23; refine (isIdent_any _ _ (by omega) (by omega)).mono ?_; rintro e w' ⟨rfl, rfl⟩))
              go_ret
              exact ⟨ret_int (by rw [← HR.out, HV.out, if_pos hlt]), _, ((HL.draw _).put (q := p + 1) (by omega))⟩
            · have hlt' : lt (bt s p) = false := by simpa using hlt
              go_wp2_with (first | (go_at_call 21; ((with_reducible refine (peek_lex HL hs (by omega)).mono ?_); rintro e w' ⟨rfl, nn, rfl⟩)) | (go_at_call 22; refine (isNumber_any _ _ (by omega) (by omega)).mono ?_; rintro e w' ⟨rfl, rfl⟩) | (go_at_call 23; refine (isIdent_any _ _ (by omega) (by omega)).mono ?_; rintro e w' ⟨rfl, rfl⟩))
              go_ret
              exact ⟨ret_int (by rw [← HR.out, HV.out, if_neg hlt]), _, (HL.draw _)⟩
    · by_cases hd : dg (bt s p) = true
      · have hl := dg_lt s p hd
        go_wp2_with (first | (go_at_call 21; ((with_reducible refine (peek_lex HL hs (by omega)).mono ?_); rintro e w' ⟨rfl, nn, rfl⟩)) | (go_at_call 22; refine (isNumber_any _ _ (by omega) (by omega)).mono ?_; rintro e w' ⟨rfl, rfl⟩) | (go_at_call 23; refine (isIdent_any _ _ (by omega) (by omega)).mono ?_; rintro e w' ⟨rfl, rfl⟩))
        go_roundw
        case rel => exact ⟨1, p + 1, rfl, by omega, by omega, ((HL.draw _).put (q := p + 1) (by omega)), Lib.hid ((scan1_dig s p hd).symm.trans HR.out)⟩
        case measure => rw [HL.off, LexAt.off (((HL.draw _).put (q := p + 1) (by omega)) : LexAt w0 _ b s (p + 1))]; omega
      · have hd' : dg (bt s p) = false := by simpa using hd
        clear hd
        by_cases h46 : bt s p = 46
        · have hl : p < s.size := by rcases Nat.lt_or_ge p s.size with h | h; exact h; rw [bt_end s h] at h46; omega
          have h46' : (bt s p == 46) = true := by rw [beq_iff_eq]; exact h46
          have H46 := Lib.hid h46
          clear h46
          go_wp2_with (first | (go_at_call 21; ((with_reducible refine (peek_lex HL hs (by omega)).mono ?_); rintro e w' ⟨rfl, nn, rfl⟩)) | (go_at_call 22; refine (isNumber_any _ _ (by omega) (by omega)).mono ?_; rintro e w' ⟨rfl, rfl⟩) | (go_at_call 23; refine (isIdent_any _ _ (by omega) (by omega)).mono ?_; rintro e w' ⟨rfl, rfl⟩))
          go_ret
          exact ⟨ret_int (by rw [← HR.out, scan1_dot s p H46.out]), _, ((HL.draw _).put (q := p + 1) (by omega))⟩
        · have n46 : (bt s p == 46) = false := beq_no h46
          by_cases he : ee (bt s p) = true
          · have hl : p < s.size := by rcases Nat.lt_or_ge p s.size with h | h; exact h; rw [bt_end s h] at he; cases he
            have he' := ee_or he
            have HE := Lib.hid he
            clear he h46
            have hx0 := bt_nonneg s (p + 1)
            have hx1 := bt_le s (p + 1)
            by_cases hg : sg (bt s (p + 1)) = true
            · have hl2 : p + 1 < s.size := by rcases Nat.lt_or_ge (p + 1) s.size with h | h; exact h; rw [bt_end s h] at hg; cases hg
              have e2 : expAt s p = p + 2 := by simp [expAt, hg]
              have hq : scanM s 2 (p + 2) = R := by rw [← e2, ← scan01_e s 1 p (by omega) HE.out]; exact HR.out
              have HQ := Lib.hid hq
              have hg' := sg_or hg
              clear hg hq e2
              rcases he' with he' | he'
              · have x1 := beq_yes he'
                clear he'
                rcases hg' with hg' | hg'
                · have y1 := beq_yes hg'
                  clear hg'
                  go_wp2_with (first | (go_at_call 21; ((with_reducible refine (peek_lex HL hs (by omega)).mono ?_); rintro e w' ⟨rfl, nn, rfl⟩)) | (go_at_call 22; refine (isNumber_any _ _ (by omega) (by omega)).mono ?_; rintro e w' ⟨rfl, rfl⟩) | (go_at_call 21; ((with_reducible refine (peek_lex ((HL.draw _).put (q := p + 1) (by omega)) hs (by omega)).mono ?_); rintro e w' ⟨rfl, nn, rfl⟩)))
                  go_roundw
                  case rel => exact ⟨2, p + 2, rfl, by omega, by omega, ((((HL.draw _).put (q := p + 1) (by omega)).draw _).put (q := p + 2) (by omega)), Lib.hid (HQ.out)⟩
                  case measure => rw [HL.off, LexAt.off (((((HL.draw _).put (q := p + 1) (by omega)).draw _).put (q := p + 2) (by omega)) : LexAt w0 _ b s (p + 2))]; omega
                · have y1 : (bt s (p + 1) == 45) = false := beq_no (by omega)
                  have y2 := beq_yes hg'
                  clear hg'
                  go_wp2_with (first | (go_at_call 21; ((with_reducible refine (peek_lex HL hs (by omega)).mono ?_); rintro e w' ⟨rfl, nn, rfl⟩)) | (go_at_call 22; refine (isNumber_any _ _ (by omega) (by omega)).mono ?_; rintro e w' ⟨rfl, rfl⟩) | (go_at_call 21; ((with_reducible refine (peek_lex ((HL.draw _).put (q := p + 1) (by omega)) hs (by omega)).mono ?_); rintro e w' ⟨rfl, nn, rfl⟩)))
                  go_roundw
                  case rel => exact ⟨2, p + 2, rfl, by omega, by omega, ((((HL.draw _).put (q := p + 1) (by omega)).draw _).put (q := p + 2) (by omega)), Lib.hid (HQ.out)⟩
                  case measure => rw [HL.off, LexAt.off (((((HL.draw _).put (q := p + 1) (by omega)).draw _).put (q := p + 2) (by omega)) : LexAt w0 _ b s (p + 2))]; omega
              · have x1 : (bt s p == 101) = false := beq_no (by omega)
                have x2 := beq_yes he'
                clear he'
                rcases hg' with hg' | hg'
                · have y1 := beq_yes hg'
                  clear hg'
                  go_wp2_with (first | (go_at_call 21; ((with_reducible refine (peek_lex HL hs (by omega)).mono ?_); rintro e w' ⟨rfl, nn, rfl⟩)) | (go_at_call 22; refine (isNumber_any _ _ (by omega) (by omega)).mono ?_; rintro e w' ⟨rfl, rfl⟩) | (go_at_call 21; ((with_reducible refine (peek_lex ((HL.draw _).put (q := p + 1) (by omega)) hs (by omega)).mono ?_); rintro e w' ⟨rfl, nn, rfl⟩)))
                  go_roundw
                  case rel => exact ⟨2, p + 2, rfl, by omega, by omega, ((((HL.draw _).put (q := p + 1) (by omega)).draw _).put (q := p + 2) (by omega)), Lib.hid (HQ.out)⟩
                  case measure => rw [HL.off, LexAt.off (((((HL.draw _).put (q := p + 1) (by omega)).draw _).put (q := p + 2) (by omega)) : LexAt w0 _ b s (p + 2))]; omega
                · have y1 : (bt s (p + 1) == 45) = false := beq_no (by omega)
                  have y2 := beq_yes hg'
                  clear hg'
                  go_wp2_with (first | (go_at_call 21; ((with_reducible refine (peek_lex HL hs (by omega)).mono ?_); rintro e w' ⟨rfl, nn, rfl⟩)) | (go_at_call 22; refine (isNumber_any _ _ (by omega) (by omega)).mono ?_; rintro e w' ⟨rfl, rfl⟩) | (go_at_call 21; ((with_reducible refine (peek_lex ((HL.draw _).put (q := p + 1) (by omega)) hs (by omega)).mono ?_); rintro e w' ⟨rfl, nn, rfl⟩)))
                  go_roundw
                  case rel => exact ⟨2, p + 2, rfl, by omega, by omega, ((((HL.draw _).put (q := p + 1) (by omega)).draw _).put (q := p + 2) (by omega)), Lib.hid (HQ.out)⟩
                  case measure => rw [HL.off, LexAt.off (((((HL.draw _).put (q := p + 1) (by omega)).draw _).put (q := p + 2) (by omega)) : LexAt w0 _ b s (p + 2))]; omega
            · have hg2 : sg (bt s (p + 1)) = false := by simpa using hg
              have e2 : expAt s p = p + 1 := by simp [expAt, hg2]
              have hq : scanM s 2 (p + 1) = R := by rw [← e2, ← scan01_e s 1 p (by omega) HE.out]; exact HR.out
              have HQ := Lib.hid hq
              have hg' := sg_not hg2
              have y1 := beq_no hg'.1
              have y2 := beq_no hg'.2
              clear hg hg2 hq e2 hg'
              rcases he' with he' | he'
              · have x1 := beq_yes he'
                clear he'
                go_wp2_with (first | (go_at_call 21; ((with_reducible refine (peek_lex HL hs (by omega)).mono ?_); rintro e w' ⟨rfl, nn, rfl⟩)) | (go_at_call 22; refine (isNumber_any _ _ (by omega) (by omega)).mono ?_; rintro e w' ⟨rfl, rfl⟩) | (go_at_call 21; ((with_reducible refine (peek_lex ((HL.draw _).put (q := p + 1) (by omega)) hs (by omega)).mono ?_); rintro e w' ⟨rfl, nn, rfl⟩)))
                go_roundw
                case rel => exact ⟨2, p + 1, rfl, by omega, by omega, (((HL.draw _).put (q := p + 1) (by omega)).draw _), Lib.hid (HQ.out)⟩
                case measure => rw [HL.off, LexAt.off ((((HL.draw _).put (q := p + 1) (by omega)).draw _) : LexAt w0 _ b s (p + 1))]; omega
              · have x1 : (bt s p == 101) = false := beq_no (by omega)
                have x2 := beq_yes he'
                clear he'
                go_wp2_with (first | (go_at_call 21; ((with_reducible refine (peek_lex HL hs (by omega)).mono ?_); rintro e w' ⟨rfl, nn, rfl⟩)) | (go_at_call 22; refine (isNumber_any _ _ (by omega) (by omega)).mono ?_; rintro e w' ⟨rfl, rfl⟩) | (go_at_call 21; ((with_reducible refine (peek_lex ((HL.draw _).put (q := p + 1) (by omega)) hs (by omega)).mono ?_); rintro e w' ⟨rfl, nn, rfl⟩)))
                go_roundw
                case rel => exact ⟨2, p + 1, rfl, by omega, by omega, (((HL.draw _).put (q := p + 1) (by omega)).draw _), Lib.hid (HQ.out)⟩
                case measure => rw [HL.off, LexAt.off ((((HL.draw _).put (q := p + 1) (by omega)).draw _) : LexAt w0 _ b s (p + 1))]; omega
          · have he' : ee (bt s p) = false := by simpa using he
            have hee : bt s p ≠ 101 ∧ bt s p ≠ 69 := by simpa [ee] using he'
            have n1 := beq_no hee.1
            have n2 := beq_no hee.2
            have hv := scan01_end s 1 p (by omega) hd' h46 he'
            have HV := Lib.hid hv
            clear hv hee he h46
            by_cases hlt : lt (bt s p) = true
            · go_wp2_with (first | (go_at_call 21; ((with_reducible refine (peek_lex HL hs (by omega)).mono ?_); rintro e w' ⟨rfl, nn, rfl⟩)) | (go_at_call 22; refine (isNumber_any _ _ (by omega) (by omega)).mono ?_; rintro e w' ⟨rfl, rfl⟩) | (go_at_call 23; refine (isIdent_any _ _ (by omega) (by omega)).mono ?_; rintro e w' ⟨rfl, rfl⟩))
              go_ret
              exact ⟨ret_int (by rw [← HR.out, HV.out, if_pos hlt]), _, ((HL.draw _).put (q := p + 1) (by omega))⟩
            · have hlt' : lt (bt s p) = false := by simpa using hlt
              go_wp2_with (first | (go_at_call 21; ((with_reducible refine (peek_lex HL hs (by omega)).mono ?_); rintro e w' ⟨rfl, nn, rfl⟩)) | (go_at_call 22; refine (isNumber_any _ _ (by omega) (by omega)).mono ?_; rintro e w' ⟨rfl, rfl⟩) | (go_at_call 23; refine (isIdent_any _ _ (by omega) (by omega)).mono ?_; rintro e w' ⟨rfl, rfl⟩))
              go_ret
              exact ⟨ret_int (by rw [← HR.out, HV.out, if_neg hlt]), _, (HL.draw _)⟩
    · by_cases hd : dg (bt s p) = true
      · have hl := dg_lt s p hd
        go_wp2_with (first | (go_at_call 21; ((with_reducible refine (peek_lex HL hs (by omega)).mono ?_); rintro e w' ⟨rfl, nn, rfl⟩)) | (go_at_call 22; refine (isNumber_any _ _ (by omega) (by omega)).mono ?_; rintro e w' ⟨rfl, rfl⟩) | (go_at_call 23; refine (isIdent_any _ _ (by omega) (by omega)).mono ?_; rintro e w' ⟨rfl, rfl⟩))
        go_roundw
        case rel => exact ⟨3, p + 1, rfl, by omega, by omega, ((HL.draw _).put (q := p + 1) (by omega)), Lib.hid ((scan23_dig s 2 p (by omega) hd).symm.trans HR.out)⟩
        case measure => rw [HL.off, LexAt.off (((HL.draw _).put (q := p + 1) (by omega)) : LexAt w0 _ b s (p + 1))]; omega
      · have hd' : dg (bt s p) = false := by simpa using hd
        clear hd
        have hv := scan23_end s 2 p (by omega) hd'
        have HV := Lib.hid hv
        clear hv
        by_cases hlt : lt (bt s p) = true
        · go_wp2_with (first | (go_at_call 21; ((with_reducible refine (peek_lex HL hs (by omega)).mono ?_); rintro e w' ⟨rfl, nn, rfl⟩)) | (go_at_call 22; refine (isNumber_any _ _ (by omega) (by omega)).mono ?_; rintro e w' ⟨rfl, rfl⟩) | (go_at_call 23; refine (isIdent_any _ _ (by omega) (by omega)).mono ?_; rintro e w' ⟨rfl, rfl⟩))
          go_ret
          exact ⟨ret_int (by rw [← HR.out, HV.out, if_pos hlt]), _, ((HL.draw _).put (q := p + 1) (by omega))⟩
        · have hlt' : lt (bt s p) = false := by simpa using hlt
          go_wp2_with (first | (go_at_call 21; ((with_reducible refine (peek_lex HL hs (by omega)).mono ?_); rintro e w' ⟨rfl, nn, rfl⟩)) | (go_at_call 22; refine (isNumber_any _ _ (by omega) (by omega)).mono ?_; rintro e w' ⟨rfl, rfl⟩) | (go_at_call 23; refine (isIdent_any _ _ (by omega) (by omega)).mono ?_; rintro e w' ⟨rfl, rfl⟩))
          go_ret
          exact ⟨ret_int (by rw [← HR.out, HV.out, if_neg hlt]; rfl), _, (HL.draw _)⟩
    · by_cases hd : dg (bt s p) = true
      · have hl := dg_lt s p hd
        go_wp2_with (first | (go_at_call 21; ((with_reducible refine (peek_lex HL hs (by omega)).mono ?_); rintro e w' ⟨rfl, nn, rfl⟩)) | (go_at_call 22; refine (isNumber_any _ _ (by omega) (by omega)).mono ?_; rintro e w' ⟨rfl, rfl⟩) | (go_at_call 23; refine (isIdent_any _ _ (by omega) (by omega)).mono ?_; rintro e w' ⟨rfl, rfl⟩))
        go_roundw
        case rel => exact ⟨3, p + 1, rfl, by omega, by omega, ((HL.draw _).put (q := p + 1) (by omega)), Lib.hid ((scan23_dig s 3 p (by omega) hd).symm.trans HR.out)⟩
        case measure => rw [HL.off, LexAt.off (((HL.draw _).put (q := p + 1) (by omega)) : LexAt w0 _ b s (p + 1))]; omega
      · have hd' : dg (bt s p) = false := by simpa using hd
        clear hd
        have hv := scan23_end s 3 p (by omega) hd'
        have HV := Lib.hid hv
        clear hv
        by_cases hlt : lt (bt s p) = true
        · go_wp2_with (first | (go_at_call 21; ((with_reducible refine (peek_lex HL hs (by omega)).mono ?_); rintro e w' ⟨rfl, nn, rfl⟩)) | (go_at_call 22; refine (isNumber_any _ _ (by omega) (by omega)).mono ?_; rintro e w' ⟨rfl, rfl⟩) | (go_at_call 23; refine (isIdent_any _ _ (by omega) (by omega)).mono ?_; rintro e w' ⟨rfl, rfl⟩))
          go_ret
          exact ⟨ret_int (by rw [← HR.out, HV.out, if_pos hlt]), _, ((HL.draw _).put (q := p + 1) (by omega))⟩
        · have hlt' : lt (bt s p) = false := by simpa using hlt
          go_wp2_with (first | (go_at_call 21; ((with_reducible refine (peek_lex HL hs (by omega)).mono ?_); rintro e w' ⟨rfl, nn, rfl⟩)) | (go_at_call 22; refine (isNumber_any _ _ (by omega) (by omega)).mono ?_; rintro e w' ⟨rfl, rfl⟩) | (go_at_call 23; refine (isIdent_any _ _ (by omega) (by omega)).mono ?_; rintro e w' ⟨rfl, rfl⟩))
          go_ret
          exact ⟨ret_int (by rw [← HR.out, HV.out, if_neg hlt]; rfl), _, (HL.draw _)⟩
end Go.Proofs.Ytlnjbfloeliabaa
