/- The walk of FnWithFunctionTwoDefinitionsTable: true at every two names and every four ints. -/
import Derived.Test.YtbkakiipaehleaaFmtGd
namespace Go.Proofs.YtbkakiipaehleaaFmt
open Go.RowKit Go.MapKept Go.ChangeMaps
set_option maxRecDepth 100000
set_option linter.unusedVariables false
set_option linter.unusedSimpArgs false
theorem eq_str {a b : ByteArray} (h : a = b) : (a.toList == b.toList) = true := by rw [h]; simp
theorem ne_str {a b : ByteArray} (h : a ≠ b) : (a.toList == b.toList) = false := by
  rw [beq_eq_false_iff_ne, ByteArray.toList_eq, ByteArray.toList_eq]
  exact fun e => h (Go.WideShapes.bytes_inj e)
theorem again_ret {C a a1 : Nat} {cc : Array Value} {s : ByteArray} {w : World} (e : Ending) (w' : World) (h : ∃ x, FnV x ∧ Applied C cc #[⟨.string s, .agg #[.int .i64 ((a ||| a1 : Nat) : Int), .bool false, x], 0⟩] 1 w e w') : e = .returned (.tuple #[]) := by
  obtain ⟨x, _, h⟩ := h
  exact h.1
theorem or_lt {a b : Nat} (ha : a < 2147483648) (hb : b < 2147483648) : a ||| b < 2147483648 := Nat.or_lt_two_pow (n := 31) ha hb
set_option maxHeartbeats 8000000 in
theorem law_table (s z : ByteArray) (a b c d : Int) (w : World) (hs : s.size ≤ 9223372036854775807) (hz : z.size ≤ 9223372036854775807) :
    Calls Tryf.prog 4 #[.string s, .string z, .int .i64 a, .int .i64 b, .int .i64 c, .int .i64 d] w fun e w' => e = .returned (.bool true) ∧ Below w.heap.size w w' := by
  have hzz := Lib.hid (zz14 s z a b c d w hs hz)
  have hv := Lib.hid (valid_any a b w)
  have hv2 := Lib.hid (valid_any c d w)
  by_cases h1 : s.size + z.size ≤ 1048576
  · have i1 : ¬ ((1048576 : Int) < (s.size : Int) + z.size) := by omega
    by_cases h2 : 0 ≤ a ∧ a ≤ b ∧ b ≤ 30
    · by_cases h3 : 0 ≤ c ∧ c ≤ d ∧ d ≤ 30
      · obtain ⟨lo, rfl⟩ : ∃ lo : Nat, a = lo := ⟨a.toNat, by omega⟩
        obtain ⟨hi, rfl⟩ : ∃ hi : Nat, b = hi := ⟨b.toNat, by omega⟩
        obtain ⟨lo2, rfl⟩ : ∃ lo : Nat, c = lo := ⟨c.toNat, by omega⟩
        obtain ⟨hi2, rfl⟩ : ∃ hi : Nat, d = hi := ⟨d.toNat, by omega⟩
        have l1 : lo ≤ hi := by omega
        have l2 : hi ≤ 30 := by omega
        have l3 : lo2 ≤ hi2 := by omega
        have l4 : hi2 ≤ 30 := by omega
        rw [decide_eq_true h1] at hzz
        rw [decide_eq_true h2] at hv
        rw [decide_eq_true h3] at hv2
        have hn := Lib.hid (newK w)
        have M1 := Lib.hid (ar_lt lo hi l2)
        have M2 := Lib.hid (ar_lt lo2 hi2 l4)
        have hm := Lib.hid fun W => mask_any (ar lo hi) lo hi lo hi W M1.out (ar_ok lo hi l1)
        have hm2 := Lib.hid fun W => mask_any (ar lo2 hi2) lo2 hi2 lo2 hi2 W M2.out (ar_ok lo2 hi2 l3)
        have hm3 := Lib.hid fun W => mask_any (ar lo2 hi2 ||| ar lo hi) lo hi lo2 hi2 W (or_lt M2.out M1.out) (ar_or lo hi lo2 hi2 l1 l3)
        clear h2 h3
        go_enter Tryf.func4, Tryf.ntmps4
        go_wp2_with fail
        with_reducible refine (hzz.out).mono ?_
        rintro e0 w0 ⟨rfl, rfl⟩
        go_wp2_with fail
        with_reducible refine (hv.out).mono ?_
        rintro e0 w0 ⟨rfl, rfl⟩
        go_wp2_with fail
        with_reducible refine (hv2.out).mono ?_
        rintro e0 w0 ⟨rfl, rfl⟩
        go_wp2_with fail
        with_reducible refine (hn.out).mono ?_
        rintro e1 w1 ⟨cc, rfl, hC, _, _, _, hc3, hb1, _⟩
        have hw := Lib.hid (with10 s lo hi w1 l1 l2)
        have HC := Lib.hid hC
        have HC3 := Lib.hid hc3
        clear hzz hv hv2 hn hC hc3
        go_wp2_with fail
        with_reducible refine (hw.out).mono ?_
        rintro e2 w2 ⟨p, q, r, t, rfl, ho, hb2⟩
        have HB2 := Lib.hid (hb1.trans (hb2.mono hb1.size))
        have hap := Lib.hid (apply9_30 w.heap.size p q r t w2 _ applied_ret (apply_first w.heap.size (ar lo hi) p q r t cc s w2 (HC.out.below hb2 HC.out.lt) HC3.out ho))
        clear hw hb2 ho hb1
        go_wp2_with fail
        with_reducible refine (hap.out).mono ?_
        rintro e3 w3 ⟨rfl, B, hK, hCB, hb3⟩
        have HB3 := Lib.hid (HB2.out.trans hb3)
        have hw := Lib.hid (with10 z lo2 hi2 w3 l3 l4)
        have HK := Lib.hid hK
        clear hap hb3 hK
        go_wp2_with fail
        with_reducible refine (hw.out).mono ?_
        rintro e4 w4 ⟨p, q, r, t, rfl, ho, hb4⟩
        have HB4 := Lib.hid (HB3.out.trans (hb4.mono HB3.out.size))
        have hK4 := HK.out.below hb4
        by_cases hsz : s = z
        · have hbe := eq_str hsz
          subst hsz
          have hap := Lib.hid (apply9_30 w.heap.size p q r t w4 _ again_ret (apply_again w.heap.size B (ar lo2 hi2) (ar lo hi) p q r t _ s w4 hK4 hCB ho M2.out M1.out))
          clear hw hb4 ho hK4
          go_wp2_with fail
          with_reducible refine (hap.out).mono ?_
          rintro e5 w5 ⟨x, hx, rfl, B', hK, hCB', hb5⟩
          have HB5 := Lib.hid (HB4.out.trans hb5)
          have hcu := Lib.hid (custom_hit w.heap.size B' 0 (ar lo2 hi2 ||| ar lo hi) 1 _ _ s x w5 hK hx (by simp [Instr.findNow, same_yes]))
          have HK5 := Lib.hid hK
          clear hap hb5 hK hx
          go_wp2_with fail
          with_reducible refine (hcu.out).mono ?_
          rintro e6 w6 ⟨rfl, hb6⟩
          have HB6 := Lib.hid (HB5.out.trans (hb6.mono HB5.out.size))
          have hct := Lib.hid (count_any w.heap.size B' _ _ 1 w6 (HK5.out.below hb6))
          clear hcu hb6
          go_wp2_with fail
          with_reducible refine (hct.out).mono ?_
          rintro e7 w7 ⟨rfl, rfl⟩
          go_wp2_with fail
          with_reducible refine (hm3.out _).mono ?_
          rintro e8 w8 ⟨rfl, rfl⟩
          go_wp2_with fail
          go_ret
          exact ⟨rfl, HB6.out⟩
        · have hbe := ne_str hsz
          have hap := Lib.hid (apply9_30 w.heap.size p q r t w4 _ applied_ret (apply_new w.heap.size B (ar lo2 hi2) (ar lo hi) p q r t _ z s w4 hK4 hCB ho (Ne.symm hsz)))
          have HNE := Lib.hid hsz
          clear hw hb4 ho hK4 hsz
          go_wp2_with fail
          with_reducible refine (hap.out).mono ?_
          rintro e5 w5 ⟨rfl, B', hK, hCB', hb5⟩
          have HB5 := Lib.hid (HB4.out.trans hb5)
          have HK5 := Lib.hid hK
          have hct := Lib.hid (count_any w.heap.size B' _ _ 2 w5 hK)
          have hcu := Lib.hid (custom_hit w.heap.size B' 0 (ar lo hi) 2 _ _ s .nilFunc w5 hK (Or.inl rfl) (by simp [Instr.findNow, same_yes]))
          clear hap hb5 hK
          go_wp2_with fail
          with_reducible refine (hct.out).mono ?_
          rintro e6 w6 ⟨rfl, rfl⟩
          go_wp2_with fail
          with_reducible refine (hcu.out).mono ?_
          rintro e7 w7 ⟨rfl, hb7⟩
          have HB7 := Lib.hid (HB5.out.trans (hb7.mono HB5.out.size))
          have hcu2 := Lib.hid (custom_hit w.heap.size B' 1 (ar lo2 hi2) 2 _ _ z .nilFunc w7 (HK5.out.below hb7) (Or.inl rfl) (by simp [Instr.findNow, same_yes, same_no (Ne.symm HNE.out)]))
          clear hcu hct hb7
          go_wp2_with fail
          with_reducible refine (hcu2.out).mono ?_
          rintro e8 w8 ⟨rfl, hb8⟩
          have HB8 := Lib.hid (HB7.out.trans (hb8.mono HB7.out.size))
          clear hcu2 hb8
          go_wp2_with fail
          with_reducible refine (hm.out _).mono ?_
          rintro e9 w9 ⟨rfl, rfl⟩
          go_wp2_with fail
          with_reducible refine (hm2.out _).mono ?_
          rintro e9 w9 ⟨rfl, rfl⟩
          go_wp2_with fail
          go_ret
          exact ⟨rfl, HB8.out⟩
      · rw [decide_eq_true h1] at hzz
        rw [decide_eq_true h2] at hv
        rw [decide_eq_false h3] at hv2
        clear h2 h3
        go_enter Tryf.func4, Tryf.ntmps4
        go_wp2_with fail
        with_reducible refine (hzz.out).mono ?_
        rintro e0 w0 ⟨rfl, rfl⟩
        go_wp2_with fail
        with_reducible refine (hv.out).mono ?_
        rintro e0 w0 ⟨rfl, rfl⟩
        go_wp2_with fail
        with_reducible refine (hv2.out).mono ?_
        rintro e0 w0 ⟨rfl, rfl⟩
        go_wp2_with fail
        go_ret
        exact ⟨rfl, Below.refl _ _⟩
    · rw [decide_eq_true h1] at hzz
      rw [decide_eq_false h2] at hv
      clear h2
      go_enter Tryf.func4, Tryf.ntmps4
      go_wp2_with fail
      with_reducible refine (hzz.out).mono ?_
      rintro e0 w0 ⟨rfl, rfl⟩
      go_wp2_with fail
      with_reducible refine (hv.out).mono ?_
      rintro e0 w0 ⟨rfl, rfl⟩
      go_wp2_with fail
      go_ret
      exact ⟨rfl, Below.refl _ _⟩
  · rw [decide_eq_false h1] at hzz
    clear h1
    go_enter Tryf.func4, Tryf.ntmps4
    go_wp2_with fail
    with_reducible refine (hzz.out).mono ?_
    rintro e0 w0 ⟨rfl, rfl⟩
    go_wp2_with fail
    go_ret
    exact ⟨rfl, Below.refl _ _⟩
end Go.Proofs.YtbkakiipaehleaaFmt
