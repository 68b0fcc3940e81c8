/- n001_65: the walk of the law on arrays of strings. -/
import Derived.Test.YtbjjcampiknnpaaDoorLawR
import Derived.BigQuiet
import Derived.Deep.QuietTactic
namespace Go.Proofs.YtbjjcampiknnpaaDoor
open Go.RowKit
set_option maxRecDepth 100000
set_option linter.unusedVariables false
set_option linter.unusedSimpArgs false
theorem own_strs {w : World} {base n : Nat} {e : TypeId} {v : Value} {xs ys : List ByteArray} (h : w.ownsRow base e 1 v n ([] ++ xs.map Value.string ++ ys.map Value.string)) : ∃ A c, v = .slice A (xs ++ ys).length c ∧ RdAt w w.heap.size A ((xs ++ ys).map Value.string) := by
  rw [List.nil_append, ← List.map_append] at h
  obtain ⟨A, c, h1, h2⟩ := own_read h
  rw [List.length_map] at h1
  exact ⟨A, c, h1, h2⟩
theorem AT.last' {S : ByteArray} {xs : List ByteArray} {m : Nat} (h : AT S xs) (hm : S.size = m + 1) (hl : m < S.size) : S[m].toNat = 93 := by
  have e : m = S.size - 1 := by omega
  subst e
  exact h.last hl
theorem AT.cat' {S1 S2 S3 : ByteArray} {xs ys : List ByteArray} {m1 : Nat} (hm : S1.size = m1 + 1) (h1 : AT S1 xs) (h2 : AT S2 ys) (h3 : AT S3 (xs ++ ys)) (sep : ByteArray) (hs : sep = if xs = [] ∨ ys = [] then ⟨#[]⟩ else ⟨#[44, 32]⟩) :
    (S3.toList == (S1.extract 0 m1 ++ sep ++ S2.extract 1 S2.size).toList) = true := by
  have e : m1 = S1.size - 1 := by omega
  subst e
  exact h1.cat h2 h3 sep hs
theorem ret_bool' {a b : Bool} (h : a = b) : Ending.returned (.bool a) = .returned (.bool b) := by rw [h]
theorem belowN {B : Nat} {a w : World} (h : Below B a w) (n : Nat) : Below B a (w.drewN n) := ⟨h.os, h.tape, h.output, h.size, h.block⟩
def WroteA (xs : List ByteArray) (w : World) (r : Ending) (w' : World) : Prop := ∃ S, Hid (AT S xs) ∧ r = .returned (.string S) ∧ Hid (Below w.heap.size w w')
theorem arrStr' (a : Nat) (A : Option Addr) (cap : Nat) (xs : List ByteArray) (w : World) (hB : 2 ≤ w.heap.size) (hT : Lib.Utf8Tabs 0 1 w) (hA : Blk w a 75 #[.slice A xs.length cap]) (hE : ElsAt w w.heap.size A xs) (hz : ∀ s ∈ xs, s.size ≤ 1048576) (hn : xs.length ≤ 2097152) :
    Calls Tryd.prog 27 #[.pointer (some ⟨a, 0, none⟩)] w (WroteA xs w) :=
  (arrStr a A cap xs w hB hT hA hE hz hn).mono fun r w' h => ⟨_, Lib.hid rfl, h.1, Lib.hid h.2⟩
set_option maxHeartbeats 8000000 in
theorem law_arr (A0 A1 : Option Addr) (c0 c1 : Nat) (xs ys : List ByteArray) (w : World) (h0 : RdIn w A0 c0 (xs.map Value.string)) (h1 : RdIn w A1 c1 (ys.map Value.string)) (hT : Lib.Utf8Tabs 0 1 w) :
    Calls Tryd.prog 9 #[.slice A0 xs.length c0, .slice A1 ys.length c1] w fun e w' => e = .returned (.bool true) ∧ Below w.heap.size w w' := by
  have hz := Lib.hid (zzb65 w.heap.size A0 A1 c0 c1 xs ys w h0.2.1 h1.2.1 (Nat.le_refl _))
  have H0 := Lib.hid h0
  have H1 := Lib.hid h1
  have HT := Lib.hid hT
  have HB2 := Lib.hid (tabs_two hT)
  clear h0 h1 hT
  obtain ⟨i0, hi, hz0, hz1, hz2⟩ := info_parts infoStr
  have HI := Lib.hid hi
  have HZ0 := Lib.hid hz0
  have HZ1 := Lib.hid hz1
  have HZ2 := Lib.hid hz2
  by_cases hx : xs.length ≤ 4096
  · by_cases hy : ys.length ≤ 4096
    · obtain ⟨V0, W0, hmk, h0, hb0⟩ : ∃ V0 W0, (Instr.makeSlice 40 (.int .i64 0) (.int .i64 ((xs.length : Int) + (ys.length : Int)))).run Tryd.prog w = .ok V0 W0 ∧ w.heap.size ≤ W0.heap.size ∧ (W0.ownsRow w.heap.size 9 1 V0 0 [] ∧ Below w.heap.size w W0) := by
        have h := run_make_rowN (P := Tryd.prog) 40 9 i0 _ Tryd.underlying40 hi hz0 .i64 .i64 0 (xs.length + ys.length) (Nat.zero_le _) (by rw [hz2]; omega) (by omega) w
        rw [hz1, Nat.mul_one, Int.natCast_add] at h
        exact ⟨_, _, h, by simp, ⟨rfl, .inr ⟨w.heap.size, xs.length + ys.length, _, rfl, Nat.le_refl _, Blk.new _ _ _, Nat.zero_le _, by unfold maxLen; omega, by rw [size_madeCells, Nat.mul_one], rfl⟩⟩, (Below.refl _ _).alloc (Nat.le_refl _) _⟩
      have HO := Lib.hid hb0.1
      have HB0 := Lib.hid hb0.2
      clear hi hz0 hz1 hz2 h0 hb0
      go_enter Tryd.func9, Tryd.ntmps9
      go_wp2_with fail
      with_reducible refine (hz.out).mono ?_
      rintro e1 w1 ⟨b, rfl, rfl, hzb⟩
      cases b with
      | false =>
        go_wp2_with fail
        go_ret
        exact ⟨rfl, Below.refl _ _⟩
      | true =>
        obtain ⟨zx, zy⟩ := hzb rfl
        have ZX := Lib.hid zx
        have ZY := Lib.hid zy
        have s0 := Lib.hid (strsB w.heap.size A0 c0 xs w H0.out.2.1 zx (Nat.le_refl _) (by omega))
        have s1 := Lib.hid (strsB w.heap.size A1 c1 ys w H1.out.2.1 zy (Nat.le_refl _) (by omega))
        clear hzb zx zy hz
        go_wp2_with fail
        with_reducible refine (s0.out).mono ?_
        rintro e2 w2 ⟨n0, rfl, hn0, rfl⟩
        go_wp2_with fail
        with_reducible refine (s1.out).mono ?_
        rintro e3 w3 ⟨n1, rfl, hn1, rfl⟩
        clear s0 s1
        by_cases hn : n0 + n1 ≤ 1048576
        · have hnn : ¬ ((1048576 : Int) < (n0 : Int) + n1) := by omega
          go_wp2_with (at_builtin; first
            | (refine wpList_append_rd rfl (.tmp 34) (.tmp 35) 40 rfl w.heap.size 9 i0 (.string ⟨#[]⟩) 1 16 Tryd.underlying40 HI.out HZ0.out HZ1.out rfl HZ2.out rfl V0 0 [] rfl HO.out A0 c0 (xs.map Value.string) (by simp [Act.eval]) (H0.out.below HB0.out) (one_str _) (by simp; unfold maxLen; omega) (by simp; omega) HB0.out.size ?_; intro v2 w2 hown2 hgr2; have HO2 := Lib.hid hown2; have HBB2 := Lib.hid (HB0.out.grown hgr2 HB0.out.size (fun k hk => (HO.out.lt k hk).1)); clear hown2 hgr2)
            | (refine wpList_append_rd rfl (.tmp 37) (.tmp 38) 40 rfl w.heap.size 9 i0 (.string ⟨#[]⟩) 1 16 Tryd.underlying40 HI.out HZ0.out HZ1.out rfl HZ2.out rfl v2 _ _ rfl HO2.out A1 c1 (ys.map Value.string) (by simp [Act.eval]) (H1.out.below HBB2.out) (one_str _) (by simp; unfold maxLen; omega) (by simp; omega) HBB2.out.size ?_; intro v3 w3 hown3 hgr3; have HBB3 := Lib.hid (HBB2.out.grown hgr3 HBB2.out.size (fun k hk => (HO2.out.lt k hk).1)); obtain ⟨A2, c2, rfl, hrd3⟩ := own_strs hown3; have HR3 := Lib.hid hrd3; clear hown3 hgr3 hrd3))
          have q1 := Lib.hid (strArr A0 c0 xs w3 (H0.out.below HBB3.out).2.1 (by omega))
          with_reducible refine (q1.out).mono ?_
          rintro f1 w4 ⟨a1, B1, d1, rfl, hA1, hE1, hb1⟩
          have hx1 := Lib.hid hb1
          have HC1 := Lib.hid (HBB3.out.trans (hb1.mono HBB3.out.size))
          have r1 := Lib.hid (arrStr' a1 B1 d1 xs w4 (Nat.le_trans HB2.out HC1.out.size) (tabs_below HB2.out HC1.out HT.out) hA1 hE1 ZX.out (by omega))
          clear hA1 hE1 hb1 q1
          go_wp2_with fail
          with_reducible refine (r1.out).mono ?_
          rintro g1 w5 ⟨S1, hS1, rfl, hd1⟩
          have hy1 := Lib.hid (hx1.out.trans (hd1.out.mono hx1.out.size))
          have HD1 := Lib.hid (HC1.out.trans (hd1.out.mono HC1.out.size))
          clear r1 hd1
          go_wp2_with fail
          have q2 := Lib.hid (strArr A1 c1 ys w5 (H1.out.below HD1.out).2.1 (by omega))
          with_reducible refine (q2.out).mono ?_
          rintro f2 w6 ⟨a2, B2, d2, rfl, hA2, hE2, hb2⟩
          have hx2 := Lib.hid (hy1.out.trans (hb2.mono hy1.out.size))
          have HC2 := Lib.hid (HD1.out.trans (hb2.mono HD1.out.size))
          have r2 := Lib.hid (arrStr' a2 B2 d2 ys w6 (Nat.le_trans HB2.out HC2.out.size) (tabs_below HB2.out HC2.out HT.out) hA2 hE2 ZY.out (by omega))
          clear hA2 hE2 hb2 q2
          go_wp2_with fail
          with_reducible refine (r2.out).mono ?_
          rintro g2 w7 ⟨S2, hS2, rfl, hd2⟩
          have h37 := Lib.hid (hx2.out.trans (hd2.out.mono hx2.out.size))
          have HD2 := Lib.hid (HC2.out.trans (hd2.out.mono HC2.out.size))
          clear r2 hd2
          go_wp2_with fail
          have q3 := Lib.hid (strArr A2 c2 (xs ++ ys) w7 ((HR3.out.below (h37.out)).mono h37.out.size) (by simp only [List.length_append]; omega))
          rw [List.length_append] at q3
          with_reducible refine (q3.out).mono ?_
          rintro f3 w8 ⟨a3, B3, d3, rfl, hA3, hE3, hb3⟩
          have HC3 := Lib.hid (HD2.out.trans (hb3.mono HD2.out.size))
          have r3 := Lib.hid (arrStr' a3 B3 d3 (xs ++ ys) w8 (Nat.le_trans HB2.out HC3.out.size) (tabs_below HB2.out HC3.out HT.out) hA3 hE3 (fun s hs => (List.mem_append.1 hs).elim (ZX.out s) (ZY.out s)) (by simp only [List.length_append]; omega))
          clear hA3 hE3 hb3 q3
          go_wp2_with fail
          with_reducible refine (r3.out).mono ?_
          rintro g3 w9 ⟨S3, hS3, rfl, hd3⟩
          have HD3 := Lib.hid (HC3.out.trans (hd3.out.mono HC3.out.size))
          clear r3 hd3
          have z1 := hS1.out.size
          have z2 := hS2.out.size
          have y1 := joinQ_len xs ZX.out
          have y2 := joinQ_len ys ZY.out
          have lz1 : (2 : Int) ≤ S1.size := by omega
          have lz2 : (2 : Int) ≤ S2.size := by omega
          have t1 : 0 < S1.size := by omega
          have t2 : 0 < S2.size := by omega
          have u1 := hS1.out.first t1
          have u2 := hS2.out.first t2
          have l1 : S1.size - 1 < S1.size := by omega
          have l2 : S2.size - 1 < S2.size := by omega
          have i3 : (1 : Int) ≤ S2.size := by omega
          have i6 : (0 : Int) ≤ (S1.size : Int) - 1 := by omega
          have i7 : ((S1.size : Int) - 1) ≤ (S1.size : Int) := by omega
          have i6' : (0 : Int) ≤ (S2.size : Int) - 1 := by omega
          have i8 : ((S1.size : Int) - 1) < (S1.size : Int) := by omega
          have i8' : ((S2.size : Int) - 1) < (S2.size : Int) := by omega
          have n1' : ((S1.size : Int) - 1).toNat = S1.size - 1 := by omega
          have n2' : ((S2.size : Int) - 1).toNat = S2.size - 1 := by omega
          have v1 := hS1.out.last l1
          have v2' := hS2.out.last l2
          have p1 : (0 : Int) < S1.size := by omega
          have p2 : (0 : Int) < S2.size := by omega
          have HCAT := Lib.hid (AT.cat hS1.out hS2.out hS3.out)
          have b1 : S1.size ≤ 9000000000000 := by omega
          have b2 : S2.size ≤ 9000000000000 := by omega
          clear z1 z2 y1 y2
          go_wp2_with fail
          all_goals
            go_quiet (fail)
            go_wp2_with fail
            go_ret
            refine ⟨ret_bool' (HCAT.out _ ?_), belowN HD3.out _⟩
            simp only [← List.length_eq_zero_iff]
            first
              | (rw [if_neg (by omega)])
              | (rw [if_pos (by omega)])
              | simp_all
        · have hnn : ((1048576 : Int) < (n0 : Int) + n1) := by omega
          go_wp2_with fail
          go_ret
          exact ⟨rfl, Below.refl _ _⟩
    · have hy' : (4096 : Int) < ys.length := by omega
      go_enter Tryd.func9, Tryd.ntmps9
      go_wp2_with fail
      with_reducible refine (hz.out).mono ?_
      rintro e1 w1 ⟨b, rfl, rfl, hzb⟩
      clear hzb
      cases b with
      | false =>
        go_wp2_with fail
        go_ret
        exact ⟨rfl, Below.refl _ _⟩
      | true =>
        go_wp2_with fail
        go_ret
        exact ⟨rfl, Below.refl _ _⟩
  · have hx' : (4096 : Int) < xs.length := by omega
    go_enter Tryd.func9, Tryd.ntmps9
    go_wp2_with fail
    with_reducible refine (hz.out).mono ?_
    rintro e1 w1 ⟨b, rfl, rfl, hzb⟩
    clear hzb
    cases b with
    | false =>
      go_wp2_with fail
      go_ret
      exact ⟨rfl, Below.refl _ _⟩
    | true =>
      go_wp2_with fail
      go_ret
      exact ⟨rfl, Below.refl _ _⟩
end Go.Proofs.YtbjjcampiknnpaaDoor
