/- What (*Index).writeTo writes for a name; what (*Query).writeTo writes for chains of binary nodes over small terms. -/
import Derived.Test.YtooalmhelfaodaaDoorKvd
namespace Go.Proofs.YtooalmhelfaodaaDoor
open Go.RowKit
set_option maxRecDepth 100000
set_option linter.unusedVariables false
theorem bLen (B b : Nat) (l : List UInt8) (w : World) (h : Bd B b l w) :
    Calls Tryd.prog 96 #[.pointer (some ⟨b, 0, none⟩)] w fun e w' => e = .returned (.int .i64 l.length) ∧ w = w' := by
  refine (Tryd.Builder_Len_f B b _ w h.1).mono ?_
  rintro e w' ⟨rfl, rfl⟩
  rw [Lib.byteCells_length]
  exact ⟨rfl, rfl⟩
set_option maxHeartbeats 1000000 in
theorem suffix_name (B b i : Nat) (l : List UInt8) (s : ByteArray) (w : World) (h : Bd B b l w) (hl : l.length + s.size ≤ 70368744177664) (hs : s.size ≠ 0) (hi : i < B)
    (c0 : w.cell? ⟨i, 0, none⟩ = some (.string s)) :
    Calls Tryd.prog 97 #[.pointer (some ⟨i, 0, none⟩), .pointer (some ⟨b, 0, none⟩)] w (Wrote B b (l ++ s.data.toList) w) := by
  obtain ⟨k1, k2⟩ := size_ne hs
  have hw := Lib.hid (wStr B b l s w h hl)
  go_enter Tryd.func97, Tryd.ntmps97
  go_wp2_with fail
  with_reducible refine (hw.out).mono ?_
  rintro e1 w1 ⟨rfl, h1, hb1⟩
  go_wp2_with fail
  go_end0
  exact ⟨rfl, h1, hb1⟩
set_option maxHeartbeats 1000000 in
/-- behind the blank, or without it -/
theorem idx_tail (B b i : Nat) (l : List UInt8) (s : ByteArray) (w : World) (h : Bd B b l w) (hl : l.length + 1 + s.size ≤ 70368744177664) (hs : s.size ≠ 0) (hi : i < B)
    (c0 : w.cell? ⟨i, 0, none⟩ = some (.string s)) :
    Hid (Calls Tryd.prog 70 #[.pointer (some ⟨b, 0, none⟩), .int .u8 46] w fun e w' => e = .returned .nilIface ∧ Bd B b (l ++ [46]) w' ∧ Below B w w' ∧ Hid (Calls Tryd.prog 97 #[.pointer (some ⟨i, 0, none⟩), .pointer (some ⟨b, 0, none⟩)] w' (Wrote B b (l ++ [46] ++ s.data.toList) w'))) := by
  refine (wByte B b l 46 46 w (by decide) h (by omega)).mono ?_
  rintro e w1 ⟨rfl, h1, hb1⟩
  exact ⟨rfl, h1, hb1, suffix_name B b i _ s w1 h1 (by rw [List.length_append]; exact hl) hs hi ((hb1.cell (p := ⟨i, 0, none⟩) hi).trans c0)⟩
theorem fuse_last {l : List UInt8} {S : ByteArray} (hS : S.data.toList = l) (h : 0 < S.size) : fuse l = (S[S.size - 1] == 46 || (decide (48 ≤ S[S.size - 1]) && decide (S[S.size - 1] ≤ 57))) := by
  subst hS
  have hg : S.data.toList.getLast? = some S[S.size - 1] := by
    have hlt : S.size - 1 < S.data.toList.length := by rw [size_list]; omega
    rw [List.getLast?_eq_getElem?, size_list, List.getElem?_eq_getElem hlt]; rfl
  unfold fuse
  rw [hg]
set_option maxHeartbeats 4000000 in
theorem idx_any (B b i : Nat) (l : List UInt8) (s : ByteArray) (w : World) (h : Bd B b l w) (hl : l.length + 2 + s.size ≤ 70368744177664) (hs : s.size ≠ 0) (hi : i < B)
    (c0 : w.cell? ⟨i, 0, none⟩ = some (.string s)) :
    Calls Tryd.prog 84 #[.pointer (some ⟨i, 0, none⟩), .pointer (some ⟨b, 0, none⟩)] w (Wrote B b (l ++ gap l ++ [46] ++ s.data.toList) w) := by
  obtain ⟨S, hS⟩ : ∃ S : ByteArray, Hid (S.data.toList = l) := ⟨⟨l.toArray⟩, Lib.hid rfl⟩
  have hSS : S = ⟨l.toArray⟩ := WideShapes.bytes_inj (by rw [hS.out])
  have hSl : l.length = S.size := by rw [← hS.out]; exact size_list S
  have hln := Lib.hid (bLen B b l w h)
  have hst := Lib.hid (bStr B b l w h)
  rw [hSl] at hln
  rw [← hSS] at hst
  rw [hSl] at hl
  have HL := Lib.hid hSl
  clear hSS hSl
  by_cases h0 : 0 < S.size
  · have hfu := fuse_last hS.out h0
    have i1 : (0 : Int) ≤ (S.size : Int) - 1 := by omega
    have i2 : (S.size : Int) - 1 < (S.size : Int) := by omega
    obtain ⟨x, hx⟩ : ∃ x : UInt8, Hid (S[S.size - 1] = x) := ⟨_, Lib.hid rfl⟩
    rw [hx.out] at hfu
    have hx8 : x.toNat < 256 := x.toNat_lt
    by_cases hf : fuse l = true
    · have hg : gap l = [32] := by unfold gap; rw [if_pos hf]
      rw [hg]
      rw [hf] at hfu
      have hor : x.toNat = 46 ∨ (x.toNat ≠ 46 ∧ 48 ≤ x.toNat ∧ x.toNat ≤ 57) := by
        by_cases h46 : x = 46
        · left; rw [h46]; rfl
        · have h1 : x.toNat ≠ 46 := fun e => h46 (UInt8.toNat_inj.1 e)
          have h2 : (x == 46) = false := by rw [beq_eq_false_iff_ne]; exact h46
          rw [h2, Bool.false_or] at hfu
          have h3 := hfu.symm
          rw [Bool.and_eq_true, decide_eq_true_eq, decide_eq_true_eq, UInt8.le_iff_toNat_le, UInt8.le_iff_toNat_le] at h3
          exact Or.inr ⟨h1, h3⟩
      clear hfu hf hg
      rcases hor with h46 | ⟨h1, h2, h3⟩
      · have hc : ((x.toNat : Int) == 46) = true := by rw [beq_iff_eq]; omega
        have HX : Hid (((S[S.size - 1].toNat : Int) == 46) = true) := by rw [hx.out]; exact hc
        clear hc h46
        have hc := HX.out
        go_enter Tryd.func84, Tryd.ntmps84
        go_wp2_with fail
        with_reducible refine (hln.out).mono ?_
        rintro e1 w1 ⟨rfl, rfl⟩
        go_wp2_with fail
        with_reducible refine (hst.out).mono ?_
        rintro e2 w2 ⟨rfl, h2, hb2⟩
        have hsp := Lib.hid (wByte B b l 32 32 w2 (by decide) h2 (by have := HL.out; omega))
        go_wp2_with fail
        with_reducible refine (hsp.out).mono ?_
        rintro e3 w3 ⟨rfl, h3, hb3⟩
        have d0 : w3.cell? ⟨i, 0, none⟩ = some (.string s) := (((hb2.trans hb3).cell (p := ⟨i, 0, none⟩) hi)).trans c0
        have htl := idx_tail B b i _ s w3 h3 (by have := HL.out; simp; omega) hs hi d0
        clear c0 d0
        go_wp2_with fail
        with_reducible refine (htl.out).mono ?_
        rintro e4 w4 ⟨rfl, h4, hb4, hsu⟩
        go_wp2_with fail
        with_reducible refine (hsu.out).mono ?_
        rintro e5 w5 ⟨rfl, h5, hb5⟩
        go_wp2_with fail
        go_end0
        exact ⟨rfl, h5, ((hb2.trans hb3).trans hb4).trans hb5⟩
      · have HX : Hid (((S[S.size - 1].toNat : Int) == 46) = false ∧ decide (48 ≤ (S[S.size - 1].toNat : Int)) = true ∧ decide ((S[S.size - 1].toNat : Int) ≤ 57) = true) := by
          rw [hx.out]
          exact ⟨by rw [beq_eq_false_iff_ne]; omega, decide_eq_true (by omega), decide_eq_true (by omega)⟩
        clear h1 h2 h3
        obtain ⟨hc, hc2, hc3⟩ := HX.out
        go_enter Tryd.func84, Tryd.ntmps84
        go_wp2_with fail
        with_reducible refine (hln.out).mono ?_
        rintro e1 w1 ⟨rfl, rfl⟩
        go_wp2_with fail
        with_reducible refine (hst.out).mono ?_
        rintro e2 w2 ⟨rfl, h2, hb2⟩
        have hsp := Lib.hid (wByte B b l 32 32 w2 (by decide) h2 (by have := HL.out; omega))
        go_wp2_with fail
        with_reducible refine (hsp.out).mono ?_
        rintro e3 w3 ⟨rfl, h3, hb3⟩
        have d0 : w3.cell? ⟨i, 0, none⟩ = some (.string s) := (((hb2.trans hb3).cell (p := ⟨i, 0, none⟩) hi)).trans c0
        have htl := idx_tail B b i _ s w3 h3 (by have := HL.out; simp; omega) hs hi d0
        clear c0 d0
        go_wp2_with fail
        with_reducible refine (htl.out).mono ?_
        rintro e4 w4 ⟨rfl, h4, hb4, hsu⟩
        go_wp2_with fail
        with_reducible refine (hsu.out).mono ?_
        rintro e5 w5 ⟨rfl, h5, hb5⟩
        go_wp2_with fail
        go_end0
        exact ⟨rfl, h5, ((hb2.trans hb3).trans hb4).trans hb5⟩
    · have hg : gap l = [] := by unfold gap; rw [if_neg hf]
      rw [hg, List.append_nil]
      rw [Bool.not_eq_true] at hf
      rw [hf] at hfu
      have hor : x.toNat ≠ 46 ∧ ¬ (48 ≤ x.toNat ∧ x.toNat ≤ 57) := by
        have h3 := hfu.symm
        rw [Bool.or_eq_false_iff, beq_eq_false_iff_ne, Bool.and_eq_false_iff, decide_eq_false_iff_not, decide_eq_false_iff_not, UInt8.le_iff_toNat_le, UInt8.le_iff_toNat_le] at h3
        refine ⟨fun e => h3.1 (UInt8.toNat_inj.1 e), fun ⟨a1, a2⟩ => ?_⟩
        rcases h3.2 with h4 | h4
        · exact h4 a1
        · exact h4 a2
      obtain ⟨h1, h23⟩ := hor
      clear hfu hf hg
      by_cases h2 : 48 ≤ x.toNat
      · have HX : Hid (((S[S.size - 1].toNat : Int) == 46) = false ∧ decide (48 ≤ (S[S.size - 1].toNat : Int)) = true ∧ decide ((S[S.size - 1].toNat : Int) ≤ 57) = false) := by
          rw [hx.out]
          exact ⟨by rw [beq_eq_false_iff_ne]; omega, decide_eq_true (by omega), decide_eq_false (by omega)⟩
        clear h1 h2 h23
        obtain ⟨hc, hc2, hc3⟩ := HX.out
        go_enter Tryd.func84, Tryd.ntmps84
        go_wp2_with fail
        with_reducible refine (hln.out).mono ?_
        rintro e1 w1 ⟨rfl, rfl⟩
        go_wp2_with fail
        with_reducible refine (hst.out).mono ?_
        rintro e2 w2 ⟨rfl, h2, hb2⟩
        have d0 : w2.cell? ⟨i, 0, none⟩ = some (.string s) := (hb2.cell (p := ⟨i, 0, none⟩) hi).trans c0
        have htl := idx_tail B b i _ s w2 h2 (by have := HL.out; omega) hs hi d0
        clear c0 d0
        go_wp2_with fail
        with_reducible refine (htl.out).mono ?_
        rintro e4 w4 ⟨rfl, h4, hb4, hsu⟩
        go_wp2_with fail
        with_reducible refine (hsu.out).mono ?_
        rintro e5 w5 ⟨rfl, h5, hb5⟩
        go_wp2_with fail
        go_end0
        exact ⟨rfl, h5, (hb2.trans hb4).trans hb5⟩
      · have HX : Hid (((S[S.size - 1].toNat : Int) == 46) = false ∧ decide (48 ≤ (S[S.size - 1].toNat : Int)) = false) := by
          rw [hx.out]
          exact ⟨by rw [beq_eq_false_iff_ne]; omega, decide_eq_false (by omega)⟩
        clear h1 h2 h23
        obtain ⟨hc, hc2⟩ := HX.out
        go_enter Tryd.func84, Tryd.ntmps84
        go_wp2_with fail
        with_reducible refine (hln.out).mono ?_
        rintro e1 w1 ⟨rfl, rfl⟩
        go_wp2_with fail
        with_reducible refine (hst.out).mono ?_
        rintro e2 w2 ⟨rfl, h2, hb2⟩
        have d0 : w2.cell? ⟨i, 0, none⟩ = some (.string s) := (hb2.cell (p := ⟨i, 0, none⟩) hi).trans c0
        have htl := idx_tail B b i _ s w2 h2 (by have := HL.out; omega) hs hi d0
        clear c0 d0
        go_wp2_with fail
        with_reducible refine (htl.out).mono ?_
        rintro e4 w4 ⟨rfl, h4, hb4, hsu⟩
        go_wp2_with fail
        with_reducible refine (hsu.out).mono ?_
        rintro e5 w5 ⟨rfl, h5, hb5⟩
        go_wp2_with fail
        go_end0
        exact ⟨rfl, h5, (hb2.trans hb4).trans hb5⟩
  · have hl0 : l = [] := List.eq_nil_of_length_eq_zero (by have := HL.out; omega)
    subst hl0
    show Calls _ _ _ _ (Wrote B b ([] ++ [] ++ [46] ++ s.data.toList) w)
    have htl := idx_tail B b i [] s w h (by simp; omega) hs hi c0
    clear c0
    go_enter Tryd.func84, Tryd.ntmps84
    go_wp2_with fail
    with_reducible refine (hln.out).mono ?_
    rintro e1 w1 ⟨rfl, rfl⟩
    go_wp2_with fail
    with_reducible refine (htl.out).mono ?_
    rintro e4 w4 ⟨rfl, h4, hb4, hsu⟩
    go_wp2_with fail
    with_reducible refine (hsu.out).mono ?_
    rintro e5 w5 ⟨rfl, h5, hb5⟩
    go_wp2_with fail
    go_end0
    exact ⟨rfl, h5, hb4.trans hb5⟩

/-- the operators' spellings -/
def opS : Nat → ByteArray
  | 1 => ⟨#[124]⟩
  | 2 => ⟨#[44]⟩
  | 3 => ⟨#[43]⟩
  | 4 => ⟨#[45]⟩
  | 5 => ⟨#[42]⟩
  | 6 => ⟨#[47]⟩
  | 7 => ⟨#[37]⟩
  | 8 => ⟨#[61, 61]⟩
  | 9 => ⟨#[33, 61]⟩
  | 10 => ⟨#[62]⟩
  | 11 => ⟨#[60]⟩
  | 12 => ⟨#[62, 61]⟩
  | 13 => ⟨#[60, 61]⟩
  | 14 => ⟨#[97, 110, 100]⟩
  | 15 => ⟨#[111, 114]⟩
  | 16 => ⟨#[47, 47]⟩
  | 17 => ⟨#[61]⟩
  | 18 => ⟨#[124, 61]⟩
  | 19 => ⟨#[43, 61]⟩
  | 20 => ⟨#[45, 61]⟩
  | 21 => ⟨#[42, 61]⟩
  | 22 => ⟨#[47, 61]⟩
  | 23 => ⟨#[37, 61]⟩
  | 24 => ⟨#[47, 47, 61]⟩
  | _ => ⟨#[]⟩
theorem op_1 (w : World) : Calls Tryd.prog 79 #[.int .i64 1] w fun e w' => e = .returned (.string (opS 1)) ∧ w = w' := by
  go_enter Tryd.func79, Tryd.ntmps79
  go_wp2
  go_ret
  exact ⟨rfl, rfl⟩
theorem op_2 (w : World) : Calls Tryd.prog 79 #[.int .i64 2] w fun e w' => e = .returned (.string (opS 2)) ∧ w = w' := by
  go_enter Tryd.func79, Tryd.ntmps79
  go_wp2
  go_ret
  exact ⟨rfl, rfl⟩
theorem op_3 (w : World) : Calls Tryd.prog 79 #[.int .i64 3] w fun e w' => e = .returned (.string (opS 3)) ∧ w = w' := by
  go_enter Tryd.func79, Tryd.ntmps79
  go_wp2
  go_ret
  exact ⟨rfl, rfl⟩
theorem op_4 (w : World) : Calls Tryd.prog 79 #[.int .i64 4] w fun e w' => e = .returned (.string (opS 4)) ∧ w = w' := by
  go_enter Tryd.func79, Tryd.ntmps79
  go_wp2
  go_ret
  exact ⟨rfl, rfl⟩
theorem op_5 (w : World) : Calls Tryd.prog 79 #[.int .i64 5] w fun e w' => e = .returned (.string (opS 5)) ∧ w = w' := by
  go_enter Tryd.func79, Tryd.ntmps79
  go_wp2
  go_ret
  exact ⟨rfl, rfl⟩
theorem op_6 (w : World) : Calls Tryd.prog 79 #[.int .i64 6] w fun e w' => e = .returned (.string (opS 6)) ∧ w = w' := by
  go_enter Tryd.func79, Tryd.ntmps79
  go_wp2
  go_ret
  exact ⟨rfl, rfl⟩
theorem op_7 (w : World) : Calls Tryd.prog 79 #[.int .i64 7] w fun e w' => e = .returned (.string (opS 7)) ∧ w = w' := by
  go_enter Tryd.func79, Tryd.ntmps79
  go_wp2
  go_ret
  exact ⟨rfl, rfl⟩
theorem op_8 (w : World) : Calls Tryd.prog 79 #[.int .i64 8] w fun e w' => e = .returned (.string (opS 8)) ∧ w = w' := by
  go_enter Tryd.func79, Tryd.ntmps79
  go_wp2
  go_ret
  exact ⟨rfl, rfl⟩
theorem op_9 (w : World) : Calls Tryd.prog 79 #[.int .i64 9] w fun e w' => e = .returned (.string (opS 9)) ∧ w = w' := by
  go_enter Tryd.func79, Tryd.ntmps79
  go_wp2
  go_ret
  exact ⟨rfl, rfl⟩
theorem op_10 (w : World) : Calls Tryd.prog 79 #[.int .i64 10] w fun e w' => e = .returned (.string (opS 10)) ∧ w = w' := by
  go_enter Tryd.func79, Tryd.ntmps79
  go_wp2
  go_ret
  exact ⟨rfl, rfl⟩
theorem op_11 (w : World) : Calls Tryd.prog 79 #[.int .i64 11] w fun e w' => e = .returned (.string (opS 11)) ∧ w = w' := by
  go_enter Tryd.func79, Tryd.ntmps79
  go_wp2
  go_ret
  exact ⟨rfl, rfl⟩
theorem op_12 (w : World) : Calls Tryd.prog 79 #[.int .i64 12] w fun e w' => e = .returned (.string (opS 12)) ∧ w = w' := by
  go_enter Tryd.func79, Tryd.ntmps79
  go_wp2
  go_ret
  exact ⟨rfl, rfl⟩
theorem op_13 (w : World) : Calls Tryd.prog 79 #[.int .i64 13] w fun e w' => e = .returned (.string (opS 13)) ∧ w = w' := by
  go_enter Tryd.func79, Tryd.ntmps79
  go_wp2
  go_ret
  exact ⟨rfl, rfl⟩
theorem op_14 (w : World) : Calls Tryd.prog 79 #[.int .i64 14] w fun e w' => e = .returned (.string (opS 14)) ∧ w = w' := by
  go_enter Tryd.func79, Tryd.ntmps79
  go_wp2
  go_ret
  exact ⟨rfl, rfl⟩
theorem op_15 (w : World) : Calls Tryd.prog 79 #[.int .i64 15] w fun e w' => e = .returned (.string (opS 15)) ∧ w = w' := by
  go_enter Tryd.func79, Tryd.ntmps79
  go_wp2
  go_ret
  exact ⟨rfl, rfl⟩
theorem op_16 (w : World) : Calls Tryd.prog 79 #[.int .i64 16] w fun e w' => e = .returned (.string (opS 16)) ∧ w = w' := by
  go_enter Tryd.func79, Tryd.ntmps79
  go_wp2
  go_ret
  exact ⟨rfl, rfl⟩
theorem op_17 (w : World) : Calls Tryd.prog 79 #[.int .i64 17] w fun e w' => e = .returned (.string (opS 17)) ∧ w = w' := by
  go_enter Tryd.func79, Tryd.ntmps79
  go_wp2
  go_ret
  exact ⟨rfl, rfl⟩
theorem op_18 (w : World) : Calls Tryd.prog 79 #[.int .i64 18] w fun e w' => e = .returned (.string (opS 18)) ∧ w = w' := by
  go_enter Tryd.func79, Tryd.ntmps79
  go_wp2
  go_ret
  exact ⟨rfl, rfl⟩
theorem op_19 (w : World) : Calls Tryd.prog 79 #[.int .i64 19] w fun e w' => e = .returned (.string (opS 19)) ∧ w = w' := by
  go_enter Tryd.func79, Tryd.ntmps79
  go_wp2
  go_ret
  exact ⟨rfl, rfl⟩
theorem op_20 (w : World) : Calls Tryd.prog 79 #[.int .i64 20] w fun e w' => e = .returned (.string (opS 20)) ∧ w = w' := by
  go_enter Tryd.func79, Tryd.ntmps79
  go_wp2
  go_ret
  exact ⟨rfl, rfl⟩
theorem op_21 (w : World) : Calls Tryd.prog 79 #[.int .i64 21] w fun e w' => e = .returned (.string (opS 21)) ∧ w = w' := by
  go_enter Tryd.func79, Tryd.ntmps79
  go_wp2
  go_ret
  exact ⟨rfl, rfl⟩
theorem op_22 (w : World) : Calls Tryd.prog 79 #[.int .i64 22] w fun e w' => e = .returned (.string (opS 22)) ∧ w = w' := by
  go_enter Tryd.func79, Tryd.ntmps79
  go_wp2
  go_ret
  exact ⟨rfl, rfl⟩
theorem op_23 (w : World) : Calls Tryd.prog 79 #[.int .i64 23] w fun e w' => e = .returned (.string (opS 23)) ∧ w = w' := by
  go_enter Tryd.func79, Tryd.ntmps79
  go_wp2
  go_ret
  exact ⟨rfl, rfl⟩
theorem op_24 (w : World) : Calls Tryd.prog 79 #[.int .i64 24] w fun e w' => e = .returned (.string (opS 24)) ∧ w = w' := by
  go_enter Tryd.func79, Tryd.ntmps79
  go_wp2
  go_ret
  exact ⟨rfl, rfl⟩
theorem op_any (op : Nat) (w : World) (h1 : 1 ≤ op) (h2 : op ≤ 24) : Calls Tryd.prog 79 #[.int .i64 (op : Int)] w fun e w' => e = .returned (.string (opS op)) ∧ w = w' := by
  match op, h1, h2 with
  | 1, _, _ => exact op_1 w
  | 2, _, _ => exact op_2 w
  | 3, _, _ => exact op_3 w
  | 4, _, _ => exact op_4 w
  | 5, _, _ => exact op_5 w
  | 6, _, _ => exact op_6 w
  | 7, _, _ => exact op_7 w
  | 8, _, _ => exact op_8 w
  | 9, _, _ => exact op_9 w
  | 10, _, _ => exact op_10 w
  | 11, _, _ => exact op_11 w
  | 12, _, _ => exact op_12 w
  | 13, _, _ => exact op_13 w
  | 14, _, _ => exact op_14 w
  | 15, _, _ => exact op_15 w
  | 16, _, _ => exact op_16 w
  | 17, _, _ => exact op_17 w
  | 18, _, _ => exact op_18 w
  | 19, _, _ => exact op_19 w
  | 20, _, _ => exact op_20 w
  | 21, _, _ => exact op_21 w
  | 22, _, _ => exact op_22 w
  | 23, _, _ => exact op_23 w
  | 24, _, _ => exact op_24 w
  | n + 25, _, h => exact absurd h (by omega)
theorem opS_len (op : Nat) : (opS op).size ≤ 3 := by
  unfold opS
  split <;> decide
theorem term_any (B b t : Nat) (x : Leaf) (l : List UInt8) (w : World) (h : Bd B b l w) (hx : TermIs w B t x) (hl : l.length + x.wt ≤ 70368744177664) :
    Calls Tryd.prog 77 #[.pointer (some ⟨t, 0, none⟩), .pointer (some ⟨b, 0, none⟩)] w (Wrote B b (outL x l) w) := by
  by_cases hp : x.plain = true
  · exact term_plain B b t x l w h hx hp hl
  · cases x with
    | idx s =>
      obtain ⟨h0, h1, i, h2, h3, h4⟩ := hx
      have hid := Lib.hid (idx_any B b i l s w h (by simp only [Leaf.wt] at hl; omega) h0 h2 (h4.cell 0))
      have c0 : w.cell? ⟨t, 0, none⟩ = some (.int .i64 6) := h3.cell 0
      have c1 : w.cell? ⟨t, 1, none⟩ = some (.pointer (some ⟨i, 0, none⟩)) := h3.cell 1
      have c16 : w.cell? ⟨t, 16, none⟩ = some (.slice none 0 0) := h3.cell 16
      clear h3 h4 hp hl h
      show Calls _ _ _ _ (Wrote B b (l ++ gap l ++ [46] ++ s.data.toList) w)
      go_enter Tryd.func77, Tryd.ntmps77
      go_wp2_with fail
      with_reducible refine (hid.out).mono ?_
      rintro e w1 ⟨rfl, h1', hb1⟩
      have d16 : w1.cell? ⟨t, 16, none⟩ = some (.slice none 0 0) := (hb1.cell (p := ⟨t, 16, none⟩) h1).trans c16
      clear c16 c0 c1
      go_wp2_with fail
      refine wp_loop_rounds 1 ?_
      rw [rounds_succ]
      go_wp2
      go_end0
      exact ⟨rfl, h1', hb1⟩
    | _ => exact absurd rfl hp
theorem query_leaf (B b q : Nat) (x : Leaf) (l : List UInt8) (w : World) (h : Bd B b l w) (hx : QIs w B q x) (hl : l.length + x.wt ≤ 70368744177664) :
    Calls Tryd.prog 66 #[.pointer (some ⟨q, 0, none⟩), .pointer (some ⟨b, 0, none⟩)] w (Wrote B b (outL x l) w) := by
  obtain ⟨_, t, h2, h3⟩ := hx
  exact query_term B b q t _ w h2 (Lib.hid (term_any B b t x l w h h3 hl))
end Go.Proofs.YtooalmhelfaodaaDoor
