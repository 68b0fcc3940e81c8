/- The walks of FnWithFunctionArgcountIsArityInterval and FnWithFunctionTwoDefinitionsTable: true at every input. -/
import Derived.Test.YtbkakiipaehleaaFmtGc
namespace Go.Proofs.YtbkakiipaehleaaFmt
open Go.RowKit Go.MapKept Go.ChangeMaps
set_option maxRecDepth 100000
set_option linter.unusedVariables false
set_option linter.unusedSimpArgs false
theorem apply9_30 (C p q r t : Nat) (w : World) (Q : Ending → World → Prop) (hQ : ∀ e w', Q e w' → e = .returned (.tuple #[])) (h : Calls Tryf.prog 30 #[.pointer (some ⟨C, 0, none⟩), .pointer (some ⟨p, 0, none⟩), .pointer (some ⟨q, 0, none⟩), .pointer (some ⟨r, 0, none⟩), .pointer (some ⟨t, 0, none⟩)] w Q) :
    Calls Tryf.prog 9 #[.pointer (some ⟨C, 0, none⟩), .func (.func 30) #[] #[.pointer (some ⟨p, 0, none⟩), .pointer (some ⟨q, 0, none⟩), .pointer (some ⟨r, 0, none⟩), .pointer (some ⟨t, 0, none⟩)]] w Q := by
  have H := Lib.hid h
  have HQ := Lib.hid hQ
  clear h hQ
  go_enter Tryf.func9, Tryf.ntmps9
  go_wp2_with fail
  with_reducible refine (H.out).mono ?_
  intro e w1 h1
  have HR := Lib.hid h1
  obtain rfl := HQ.out e w1 h1
  clear h1
  go_wp2_with fail
  go_end0
  exact HR.out
theorem apply9_26 (C p : Nat) (w : World) (Q : Ending → World → Prop) (hQ : ∀ e w', Q e w' → e = .returned (.tuple #[])) (h : Calls Tryf.prog 26 #[.pointer (some ⟨C, 0, none⟩), .pointer (some ⟨p, 0, none⟩)] w Q) :
    Calls Tryf.prog 9 #[.pointer (some ⟨C, 0, none⟩), .func (.func 26) #[] #[.pointer (some ⟨p, 0, none⟩)]] w Q := by
  have H := Lib.hid h
  have HQ := Lib.hid hQ
  clear h hQ
  go_enter Tryf.func9, Tryf.ntmps9
  go_wp2_with fail
  with_reducible refine (H.out).mono ?_
  intro e w1 h1
  have HR := Lib.hid h1
  obtain rfl := HQ.out e w1 h1
  clear h1
  go_wp2_with fail
  go_end0
  exact HR.out
theorem apply9_27 (C p : Nat) (w : World) (Q : Ending → World → Prop) (hQ : ∀ e w', Q e w' → e = .returned (.tuple #[])) (h : Calls Tryf.prog 27 #[.pointer (some ⟨C, 0, none⟩), .pointer (some ⟨p, 0, none⟩)] w Q) :
    Calls Tryf.prog 9 #[.pointer (some ⟨C, 0, none⟩), .func (.func 27) #[] #[.pointer (some ⟨p, 0, none⟩)]] w Q := by
  have H := Lib.hid h
  have HQ := Lib.hid hQ
  clear h hQ
  go_enter Tryf.func9, Tryf.ntmps9
  go_wp2_with fail
  with_reducible refine (H.out).mono ?_
  intro e w1 h1
  have HR := Lib.hid h1
  obtain rfl := HQ.out e w1 h1
  clear h1
  go_wp2_with fail
  go_end0
  exact HR.out
theorem apply9_28 (C p : Nat) (w : World) (Q : Ending → World → Prop) (hQ : ∀ e w', Q e w' → e = .returned (.tuple #[])) (h : Calls Tryf.prog 28 #[.pointer (some ⟨C, 0, none⟩), .pointer (some ⟨p, 0, none⟩)] w Q) :
    Calls Tryf.prog 9 #[.pointer (some ⟨C, 0, none⟩), .func (.func 28) #[] #[.pointer (some ⟨p, 0, none⟩)]] w Q := by
  have H := Lib.hid h
  have HQ := Lib.hid hQ
  clear h hQ
  go_enter Tryf.func9, Tryf.ntmps9
  go_wp2_with fail
  with_reducible refine (H.out).mono ?_
  intro e w1 h1
  have HR := Lib.hid h1
  obtain rfl := HQ.out e w1 h1
  clear h1
  go_wp2_with fail
  go_end0
  exact HR.out
theorem zz6 (s : ByteArray) (a b : Int) (w : World) (hs : s.size ≤ 9223372036854775807) : Calls Tryf.prog 6 #[.string s, .int .i64 a, .int .i64 b] w fun e w' => e = .returned (.bool (decide (s.size ≤ 1048576))) ∧ w = w' := by
  by_cases h : s.size ≤ 1048576
  · go_enter Tryf.func6, Tryf.ntmps6
    go_wp2_with fail
    go_ret
    exact ⟨by simp [h], rfl⟩
  · go_enter Tryf.func6, Tryf.ntmps6
    go_wp2_with fail
    go_ret
    exact ⟨by simp; omega, rfl⟩
theorem zz14 (s t : ByteArray) (a b c d : Int) (w : World) (hs : s.size ≤ 9223372036854775807) (ht : t.size ≤ 9223372036854775807) : Calls Tryf.prog 14 #[.string s, .string t, .int .i64 a, .int .i64 b, .int .i64 c, .int .i64 d] w fun e w' => e = .returned (.bool (decide (s.size + t.size ≤ 1048576))) ∧ w = w' := by
  by_cases h1 : s.size ≤ 1048576
  · by_cases h2 : t.size ≤ 1048576
    · by_cases h3 : s.size + t.size ≤ 1048576
      · go_enter Tryf.func14, Tryf.ntmps14
        go_wp2_with fail
        go_ret
        exact ⟨by simp [h3], rfl⟩
      · go_enter Tryf.func14, Tryf.ntmps14
        go_wp2_with fail
        go_ret
        exact ⟨by simp; omega, rfl⟩
    · go_enter Tryf.func14, Tryf.ntmps14
      go_wp2_with fail
      go_ret
      exact ⟨by simp; omega, rfl⟩
  · go_enter Tryf.func14, Tryf.ntmps14
    go_wp2_with fail
    go_ret
    exact ⟨by simp; omega, rfl⟩
theorem KAt.below {w w' : World} {C B clock : Nat} {cc : Array Value} {es : Array MapEntry} (h : KAt w C cc B es clock) (hb : Below w.heap.size w w') : KAt w' C cc B es clock :=
  ⟨h.c.below hb h.c.lt, h.h3, (hb.block B (Array.getElem?_eq_some_iff.1 h.b).1).trans h.b⟩
theorem applied_ret {C : Nat} {cc : Array Value} {es : Array MapEntry} {clock : Nat} {w : World} (e : Ending) (w' : World) (h : Applied C cc es clock w e w') : e = .returned (.tuple #[]) := h.1
theorem ar_ok (lo hi : Nat) (h : lo ≤ hi) : ∀ k, k ≤ 30 → (ar lo hi).testBit k = (decide (lo ≤ k ∧ k ≤ hi) || decide (lo ≤ k ∧ k ≤ hi)) := fun k _ => by rw [ar_bit lo hi k h, Bool.or_self]
theorem ar_or (a b c d : Nat) (h : a ≤ b) (h2 : c ≤ d) : ∀ k, k ≤ 30 → (ar c d ||| ar a b).testBit k = (decide (a ≤ k ∧ k ≤ b) || decide (c ≤ k ∧ k ≤ d)) := fun k _ => by rw [Nat.testBit_or, ar_bit a b k h, ar_bit c d k h2, Bool.or_comm]
set_option maxHeartbeats 4000000 in
theorem law_interval (s : ByteArray) (a b : Int) (w : World) (hs : s.size ≤ 9223372036854775807) :
    Calls Tryf.prog 3 #[.string s, .int .i64 a, .int .i64 b] w fun e w' => e = .returned (.bool true) ∧ Below w.heap.size w w' := by
  have hz := Lib.hid (zz6 s a b w hs)
  have hv := Lib.hid (valid_any a b w)
  by_cases h1 : s.size ≤ 1048576
  · by_cases h2 : 0 ≤ a ∧ a ≤ b ∧ b ≤ 30
    · obtain ⟨lo, rfl⟩ : ∃ lo : Nat, a = lo := ⟨a.toNat, by omega⟩
      obtain ⟨hi, rfl⟩ : ∃ hi : Nat, b = hi := ⟨b.toNat, by omega⟩
      have l1 : lo ≤ hi := by omega
      have l2 : hi ≤ 30 := by omega
      rw [decide_eq_true h1] at hz
      rw [decide_eq_true h2] at hv
      have hn := Lib.hid (newK w)
      have hm := Lib.hid fun W => mask_any (ar lo hi) lo hi lo hi W (ar_lt lo hi l2) (ar_ok lo hi l1)
      clear h2
      go_enter Tryf.func3, Tryf.ntmps3
      go_wp2_with fail
      with_reducible refine (hz.out).mono ?_
      rintro e0 w0 ⟨rfl, rfl⟩
      go_wp2_with fail
      with_reducible refine (hv.out).mono ?_
      rintro e0 w0 ⟨rfl, rfl⟩
      go_wp2_with fail
      with_reducible refine (hn.out).mono ?_
      rintro e1 w1 ⟨cc, rfl, hC, _, _, _, hc3, hb1, _⟩
      have hw := Lib.hid (with10 s lo hi w1 l1 l2)
      have HC := Lib.hid hC
      have HC3 := Lib.hid hc3
      clear hz hv hn hC hc3
      go_wp2_with fail
      with_reducible refine (hw.out).mono ?_
      rintro e2 w2 ⟨p, q, r, t, rfl, ho, hb2⟩
      have HB2 := Lib.hid (hb1.trans (hb2.mono hb1.size))
      have hap := Lib.hid (apply9_30 w.heap.size p q r t w2 _ applied_ret (apply_first w.heap.size (ar lo hi) p q r t cc s w2 (HC.out.below hb2 HC.out.lt) HC3.out ho))
      clear hw hb2 ho hb1
      go_wp2_with fail
      with_reducible refine (hap.out).mono ?_
      rintro e3 w3 ⟨rfl, B, hK, hCB, hb3⟩
      have HB3 := Lib.hid (HB2.out.trans hb3)
      have hcu := Lib.hid (custom_hit w.heap.size B 0 (ar lo hi) 1 _ _ s .nilFunc w3 hK (Or.inl rfl) (by simp [Instr.findNow, same_yes]))
      have HK := Lib.hid hK
      clear hap hb3 hK
      go_wp2_with fail
      with_reducible refine (hcu.out).mono ?_
      rintro e4 w4 ⟨rfl, hb4⟩
      have HB4 := Lib.hid (HB3.out.trans (hb4.mono HB3.out.size))
      have hct := Lib.hid (count_any w.heap.size B _ _ 1 w4 (HK.out.below hb4))
      clear hcu hb4
      go_wp2_with fail
      with_reducible refine (hct.out).mono ?_
      rintro e5 w5 ⟨rfl, rfl⟩
      go_wp2_with fail
      with_reducible refine (hm.out _).mono ?_
      rintro e6 w6 ⟨rfl, rfl⟩
      go_wp2_with fail
      go_ret
      exact ⟨rfl, HB4.out⟩
    · rw [decide_eq_true h1] at hz
      rw [decide_eq_false h2] at hv
      clear h2
      go_enter Tryf.func3, Tryf.ntmps3
      go_wp2_with fail
      with_reducible refine (hz.out).mono ?_
      rintro e0 w0 ⟨rfl, rfl⟩
      go_wp2_with fail
      with_reducible refine (hv.out).mono ?_
      rintro e0 w0 ⟨rfl, rfl⟩
      go_wp2_with fail
      go_ret
      exact ⟨rfl, Below.refl _ _⟩
  · rw [decide_eq_false h1] at hz
    clear h1
    go_enter Tryf.func3, Tryf.ntmps3
    go_wp2_with fail
    with_reducible refine (hz.out).mono ?_
    rintro e0 w0 ⟨rfl, rfl⟩
    go_wp2_with fail
    go_ret
    exact ⟨rfl, Below.refl _ _⟩
end Go.Proofs.YtbkakiipaehleaaFmt
