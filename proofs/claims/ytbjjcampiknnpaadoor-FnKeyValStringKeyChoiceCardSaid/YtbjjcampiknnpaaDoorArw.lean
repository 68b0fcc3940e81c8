/- (*ConstArray).writeTo and String of an array of strings. -/
import Derived.Test.YtbjjcampiknnpaaDoorArr
namespace Go.Proofs.YtbjjcampiknnpaaDoor
open Go.RowKit
set_option maxRecDepth 100000
set_option linter.unusedVariables false
set_option linter.unusedSimpArgs false
set_option maxHeartbeats 8000000 in
theorem arrW (B b a : Nat) (l : List UInt8) (A : Option Addr) (cap : Nat) (xs : List ByteArray) (w : World) (h : Bd B b l w) (hB : 2 ≤ B) (hT : Lib.Utf8Tabs 0 1 w) (ha : a < B) (hA : Blk w a 75 #[.slice A xs.length cap]) (hE : ElsAt w B A xs) (hz : ∀ s ∈ xs, s.size ≤ 1048576) (hn : xs.length ≤ 2097152) (hl : l.length ≤ 4096) :
    Calls Tryd.prog 39 #[.pointer (some ⟨a, 0, none⟩), .pointer (some ⟨b, 0, none⟩)] w (Wrote B b (l ++ arrT xs) w) := by
  have hj := Lib.hid (wByte B b l 91 91 w (by decide) h (by omega))
  have HA := Lib.hid hA
  have HE := Lib.hid hE
  have HT := Lib.hid hT
  have HZ := Lib.hid hz
  have hb := h.2
  clear hA hE hT h hz
  go_enter Tryd.func39, Tryd.ntmps39
  go_wp2_with fail
  with_reducible refine (hj.out).mono ?_
  rintro e1 w1 ⟨rfl, h1, hb1⟩
  have d0 : w1.cell? ⟨a, 0, none⟩ = some (.slice A xs.length cap) := (hb1.cell (p := ⟨a, 0, none⟩) ha).trans (HA.out.cell 0)
  have HW := Lib.hid h1
  clear h1 hj
  go_wp2_with fail
  go_loopw [13] (fun iv wr => ∃ j : Nat, iv = .int .i64 j ∧ j ≤ xs.length ∧ Hid (Bd B b (l ++ [91] ++ joinQ (xs.take j)) wr) ∧ Below B w wr) (fun iv _ => xs.length - (intOf iv).toNat)
  case atStart => exact ⟨0, rfl, Nat.zero_le _, Lib.hid (HW.out.of_eq (by simp [joinQ])), hb1⟩
  case round =>
    obtain ⟨j, rfl, hj, hW, hbw⟩ := hrel
    clear HW
    by_cases hlt : j < xs.length
    · obtain ⟨g, t, rfl, hg, c0, ht, hE⟩ := (HE.out.below hbw) j _ (List.getElem?_eq_getElem hlt)
      have hlx := HZ.out _ (List.getElem_mem hlt)
      have HG := Lib.hid (List.getElem?_eq_getElem hlt)
      obtain ⟨x, hxx⟩ : ∃ x, Hid (xs[j] = x) := ⟨_, Lib.hid rfl⟩
      rw [hxx.out] at hE hlx HG
      have hrl := joinQ_len (xs.take j) (fun y hy => HZ.out y (List.mem_of_mem_take hy))
      rw [List.length_take] at hrl
      have hrl2 : (joinQ (xs.take j)).length ≤ 13194240000000 := by
        have : min j xs.length ≤ 2097152 := by omega
        omega
      have hgl : g < wr.heap.size := Nat.lt_of_lt_of_le hg hW.out.2
      have j0 : (0 : Int) ≤ j := by omega
      have j1 : (j : Int) < xs.length := by omega
      have HE' := Lib.hid hE
      have HRX := Lib.hid (joinQ_take HG.out)
      clear hE hxx hrl HG
      by_cases hjz : j = 0
      · have hel := Lib.hid (termG B b t _ x wr hW.out hB (tabs_below hB hbw HT.out) (by simp only [List.length_append, List.length_cons, List.length_nil]; omega) HE'.out)
        have jn : ¬ ((0 : Int) < j) := by omega
        have HJ := Lib.hid hjz
        clear hjz
        go_wp2_with fail
        with_reducible refine (hel.out).mono ?_
        rintro e6 w6 ⟨rfl, h6, hb6⟩
        have H6 := Lib.hid (h6.of_eq (l' := l ++ [91] ++ joinQ (xs.take (j + 1))) (by rw [HRX.out, if_pos HJ.out, HJ.out]; simp [joinQ]))
        clear h6 hel
        go_wp2_with fail
        go_roundw
        case rel => exact ⟨j + 1, by go_num, by omega, H6, hbw.trans hb6⟩
        case measure => simp [intOf]; omega
      · have hsp := Lib.hid (wStr B b _ ⟨#[44, 32]⟩ wr hW.out (by simp only [List.length_append, List.length_cons, List.length_nil]; show _ + 2 ≤ _; omega))
        have jn : ((0 : Int) < j) := by omega
        go_wp2_with fail
        with_reducible refine (hsp.out).mono ?_
        rintro e5 w5 ⟨rfl, h5, hb5⟩
        have hel := Lib.hid (termG B b t _ x w5 h5 hB (tabs_below hB (hbw.trans hb5) HT.out) (by simp only [List.length_append, List.length_cons, List.length_nil]; show _ + _ + _ + 2 + _ + _ ≤ _; omega) (HE'.out.below hb5 ht))
        clear h5 hsp
        go_wp2_with fail
        with_reducible refine (hel.out).mono ?_
        rintro e6 w6 ⟨rfl, h6, hb6⟩
        have H6 := Lib.hid (h6.of_eq (l' := l ++ [91] ++ joinQ (xs.take (j + 1))) (by rw [HRX.out, if_neg hjz]; simp))
        clear h6 hel
        go_wp2_with fail
        go_roundw
        case rel => exact ⟨j + 1, by go_num, by omega, H6, (hbw.trans hb5).trans hb6⟩
        case measure => simp [intOf]; omega
    · obtain rfl : j = xs.length := by omega
      rw [List.take_length] at hW
      have hrl := joinQ_len xs HZ.out
      have hq := Lib.hid (wByte B b _ 93 93 wr (by decide) hW.out (by simp only [List.length_append, List.length_cons, List.length_nil]; omega))
      clear hW
      go_wp2_with fail
      with_reducible refine (hq.out).mono ?_
      rintro e7 w7 ⟨rfl, h7, hb7⟩
      go_wp2_with fail
      go_end0
      exact ⟨rfl, h7.of_eq (by simp [arrT]), hbw.trans hb7⟩
set_option maxHeartbeats 1000000 in
theorem arrStr (a : Nat) (A : Option Addr) (cap : Nat) (xs : List ByteArray) (w : World) (hB : 2 ≤ w.heap.size) (hT : Lib.Utf8Tabs 0 1 w) (hA : Blk w a 75 #[.slice A xs.length cap]) (hE : ElsAt w w.heap.size A xs) (hz : ∀ s ∈ xs, s.size ≤ 1048576) (hn : xs.length ≤ 2097152) :
    Calls Tryd.prog 27 #[.pointer (some ⟨a, 0, none⟩)] w fun r w' => r = .returned (.string ⟨(arrT xs).toArray⟩) ∧ Below w.heap.size w w' := by
  have hb0 : Below w.heap.size w (w.alloc (.cells #[.pointer none, .slice none 0 0] 48)) := (Below.refl _ _).alloc (Nat.le_refl _) _
  have hK := Lib.hid (arrW w.heap.size w.heap.size a [] A cap xs _ (Bd.fresh w) hB (tabs_below hB hb0 hT) hA.lt (hA.below hb0 hA.lt) (hE.below hb0) hz hn (by simp))
  clear hA hE hT hz
  go_enter Tryd.func27, Tryd.ntmps27
  go_wp2_with fail
  with_reducible refine (hK.out).mono ?_
  rintro e1 w1 ⟨rfl, h1, hb1⟩
  go_wp2_with fail
  with_reducible refine (bStr _ _ _ _ h1).mono ?_
  rintro e2 w2 ⟨rfl, h2, hb2⟩
  go_wp2_with fail
  go_ret
  exact ⟨rfl, (hb0.trans hb1).trans hb2⟩
end Go.Proofs.YtbjjcampiknnpaaDoor
