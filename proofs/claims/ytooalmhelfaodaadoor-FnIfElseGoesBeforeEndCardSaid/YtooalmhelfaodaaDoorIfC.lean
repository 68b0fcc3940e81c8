/- n001_56: the bounds ahead of the laws; the bytes of a description; whether it lies outside. -/
import Derived.Test.YtooalmhelfaodaaDoorIfB
namespace Go.Proofs.YtooalmhelfaodaaDoor
open Go.RowKit
set_option maxRecDepth 100000
set_option linter.unusedVariables false
set_option linter.unusedSimpArgs false
set_option maxHeartbeats 8000000 in
theorem zzbElse (kc kt ke : Int) (sc st se : ByteArray) (A : Option Addr) (c : Nat) (es : List Br) (he : Bool) (w : World) (hx : BrsAt w w.heap.size A es) :
    Calls Tryd.prog 43 #[.agg #[.int .i64 kc, .string sc, .int .i64 kt, .string st, .slice A es.length c, .bool he, .int .i64 ke, .string se]] w fun e w' => ∃ b : Bool, e = .returned (.bool b) ∧ Below w.heap.size w w' ∧ (b = true → sc.size ≤ 1048576 ∧ st.size ≤ 1048576 ∧ se.size ≤ 1048576 ∧ es.length ≤ 1048576 ∧ (∀ x ∈ es, x.le)) := by
  have HX := Lib.hid hx
  clear hx
  have hb0 : Below w.heap.size w (w.alloc (.cells #[.int .i64 kc, .string sc, .int .i64 kt, .string st, .slice A es.length c, .bool he, .int .i64 ke, .string se] 48)) := (Below.refl _ _).alloc (Nat.le_refl _) _
  have HB0 := Lib.hid hb0
  clear hb0
  by_cases g1 : sc.size ≤ 1048576
  · skip
    by_cases g2 : st.size ≤ 1048576
    · skip
      by_cases g3 : sc.size + st.size ≤ 1048576
      · skip
        by_cases g4 : es.length ≤ 1048576
        · skip
          by_cases g5 : sc.size + st.size + es.length ≤ 1048576
          · skip
            go_enter Tryd.func43, Tryd.ntmps43
            go_wp2_with fail
            go_loopg [3, 4] es.length (fun gk nv iv wr => ∃ (j n : Nat), gk = es.length - j ∧ j ≤ es.length ∧ nv = .int .i64 n ∧ iv = .int .i64 j ∧ w.alloc (.cells #[.int .i64 kc, .string sc, .int .i64 kt, .string st, .slice A es.length c, .bool he, .int .i64 ke, .string se] 48) = wr ∧ n ≤ 1048576 ∧ Hid (∀ i x, i < j → es[i]? = some x → x.le))
            case atStart => exact ⟨0, sc.size + st.size + es.length, rfl, by omega, by go_num, rfl, rfl, by omega, Lib.hid (fun i x hi => absurd hi (by omega))⟩
            case round =>
              obtain ⟨j, n, rfl, hj, rfl, rfl, hw, hle, HT⟩ := hrel
              subst hw
              by_cases hlt : j < es.length
              · obtain ⟨g, o, rfl, hg, c0, c1, c2, c3⟩ := HX.out j _ (List.getElem?_eq_getElem hlt)
                have HG := Lib.hid (List.getElem?_eq_getElem hlt)
                obtain ⟨x, hxx⟩ : ∃ x, Hid (es[j] = x) := ⟨_, Lib.hid rfl⟩
                rw [hxx.out] at c0 c1 c2 c3 HG
                clear hxx
                have j0 : (0 : Int) ≤ j := by omega
                have j1 : (j : Int) < es.length := by omega
                by_cases q1 : x.s1.size ≤ 1048576
                · by_cases q2 : n + x.s1.size ≤ 1048576
                  · by_cases q3 : x.s2.size ≤ 1048576
                    · by_cases q4 : n + x.s1.size + x.s2.size ≤ 1048576
                      · have HT2 : Hid (∀ i x, i < j + 1 → es[i]? = some x → x.le) := by
                          intro i y hi hy
                          by_cases hij : i = j
                          · subst hij
                            have e := HG.out
                            rw [hy] at e
                            injection e with e
                            subst e
                            exact ⟨q1, q3⟩
                          · exact HT.out i y (by omega) hy
                        go_wp2_with fail
                        go_roundg (es.length - (j + 1))
                        case measure => omega
                        case rel => exact ⟨j + 1, n + x.s1.size + x.s2.size, rfl, by omega, by go_num, by go_num, rfl, q4, HT2⟩
                      · go_wp2_with fail
                        go_ret
                        exact ⟨_, rfl, HB0.out, fun h => by cases h⟩
                    · go_wp2_with fail
                      go_ret
                      exact ⟨_, rfl, HB0.out, fun h => by cases h⟩
                  · go_wp2_with fail
                    go_ret
                    exact ⟨_, rfl, HB0.out, fun h => by cases h⟩
                · go_wp2_with fail
                  go_ret
                  exact ⟨_, rfl, HB0.out, fun h => by cases h⟩
              · have HA : Hid (∀ x ∈ es, x.le) := by
                  intro x hx
                  obtain ⟨i, hi, e⟩ := List.getElem_of_mem hx
                  exact HT.out i x (by omega) (by rw [← e]; exact List.getElem?_eq_getElem hi)
                by_cases q1 : se.size ≤ 1048576
                · by_cases q2 : n + se.size ≤ 1048576
                  · go_wp2_with fail
                    go_ret
                    exact ⟨_, rfl, HB0.out, fun _ => ⟨g1, g2, q1, g4, HA.out⟩⟩
                  · go_wp2_with fail
                    go_ret
                    exact ⟨_, rfl, HB0.out, fun h => by cases h⟩
                · go_wp2_with fail
                  go_ret
                  exact ⟨_, rfl, HB0.out, fun h => by cases h⟩
          · go_enter Tryd.func43, Tryd.ntmps43
            go_wp2_with fail
            go_ret
            exact ⟨_, rfl, HB0.out, fun h => by cases h⟩
        · go_enter Tryd.func43, Tryd.ntmps43
          go_wp2_with fail
          go_ret
          exact ⟨_, rfl, HB0.out, fun h => by cases h⟩
      · go_enter Tryd.func43, Tryd.ntmps43
        go_wp2_with fail
        go_ret
        exact ⟨_, rfl, HB0.out, fun h => by cases h⟩
    · go_enter Tryd.func43, Tryd.ntmps43
      go_wp2_with fail
      go_ret
      exact ⟨_, rfl, HB0.out, fun h => by cases h⟩
  · go_enter Tryd.func43, Tryd.ntmps43
    go_wp2_with fail
    go_ret
    exact ⟨_, rfl, HB0.out, fun h => by cases h⟩
set_option maxHeartbeats 8000000 in
theorem zzbTwice (kc kt ke : Int) (sc st se : ByteArray) (A : Option Addr) (c : Nat) (es : List Br) (he : Bool) (p : ByteArray) (w : World) (hx : BrsAt w w.heap.size A es) :
    Calls Tryd.prog 30 #[.agg #[.int .i64 kc, .string sc, .int .i64 kt, .string st, .slice A es.length c, .bool he, .int .i64 ke, .string se], .string p] w fun e w' => ∃ b : Bool, e = .returned (.bool b) ∧ Below w.heap.size w w' ∧ (b = true → sc.size ≤ 1048576 ∧ st.size ≤ 1048576 ∧ se.size ≤ 1048576 ∧ es.length ≤ 1048576 ∧ (∀ x ∈ es, x.le) ∧ p.size ≤ 1048576) := by
  have HX := Lib.hid hx
  clear hx
  have hb0 : Below w.heap.size w (w.alloc (.cells #[.int .i64 kc, .string sc, .int .i64 kt, .string st, .slice A es.length c, .bool he, .int .i64 ke, .string se] 48)) := (Below.refl _ _).alloc (Nat.le_refl _) _
  have HB0 := Lib.hid hb0
  clear hb0
  by_cases g1 : sc.size ≤ 1048576
  · skip
    by_cases g2 : st.size ≤ 1048576
    · skip
      by_cases g3 : sc.size + st.size ≤ 1048576
      · skip
        by_cases g4 : es.length ≤ 1048576
        · skip
          by_cases g5 : sc.size + st.size + es.length ≤ 1048576
          · skip
            go_enter Tryd.func30, Tryd.ntmps30
            go_wp2_with fail
            go_loopg [5, 6] es.length (fun gk nv iv wr => ∃ (j n : Nat), gk = es.length - j ∧ j ≤ es.length ∧ nv = .int .i64 n ∧ iv = .int .i64 j ∧ w.alloc (.cells #[.int .i64 kc, .string sc, .int .i64 kt, .string st, .slice A es.length c, .bool he, .int .i64 ke, .string se] 48) = wr ∧ n ≤ 1048576 ∧ Hid (∀ i x, i < j → es[i]? = some x → x.le))
            case atStart => exact ⟨0, sc.size + st.size + es.length, rfl, by omega, by go_num, rfl, rfl, by omega, Lib.hid (fun i x hi => absurd hi (by omega))⟩
            case round =>
              obtain ⟨j, n, rfl, hj, rfl, rfl, hw, hle, HT⟩ := hrel
              subst hw
              by_cases hlt : j < es.length
              · obtain ⟨g, o, rfl, hg, c0, c1, c2, c3⟩ := HX.out j _ (List.getElem?_eq_getElem hlt)
                have HG := Lib.hid (List.getElem?_eq_getElem hlt)
                obtain ⟨x, hxx⟩ : ∃ x, Hid (es[j] = x) := ⟨_, Lib.hid rfl⟩
                rw [hxx.out] at c0 c1 c2 c3 HG
                clear hxx
                have j0 : (0 : Int) ≤ j := by omega
                have j1 : (j : Int) < es.length := by omega
                by_cases q1 : x.s1.size ≤ 1048576
                · by_cases q2 : n + x.s1.size ≤ 1048576
                  · by_cases q3 : x.s2.size ≤ 1048576
                    · by_cases q4 : n + x.s1.size + x.s2.size ≤ 1048576
                      · have HT2 : Hid (∀ i x, i < j + 1 → es[i]? = some x → x.le) := by
                          intro i y hi hy
                          by_cases hij : i = j
                          · subst hij
                            have e := HG.out
                            rw [hy] at e
                            injection e with e
                            subst e
                            exact ⟨q1, q3⟩
                          · exact HT.out i y (by omega) hy
                        go_wp2_with fail
                        go_roundg (es.length - (j + 1))
                        case measure => omega
                        case rel => exact ⟨j + 1, n + x.s1.size + x.s2.size, rfl, by omega, by go_num, by go_num, rfl, q4, HT2⟩
                      · go_wp2_with fail
                        go_ret
                        exact ⟨_, rfl, HB0.out, fun h => by cases h⟩
                    · go_wp2_with fail
                      go_ret
                      exact ⟨_, rfl, HB0.out, fun h => by cases h⟩
                  · go_wp2_with fail
                    go_ret
                    exact ⟨_, rfl, HB0.out, fun h => by cases h⟩
                · go_wp2_with fail
                  go_ret
                  exact ⟨_, rfl, HB0.out, fun h => by cases h⟩
              · have HA : Hid (∀ x ∈ es, x.le) := by
                  intro x hx
                  obtain ⟨i, hi, e⟩ := List.getElem_of_mem hx
                  exact HT.out i x (by omega) (by rw [← e]; exact List.getElem?_eq_getElem hi)
                by_cases q1 : se.size ≤ 1048576
                · by_cases q2 : n + se.size ≤ 1048576
                  · by_cases q3 : p.size ≤ 1048576
                    · by_cases q4 : n + se.size + p.size ≤ 1048576
                      · go_wp2_with fail
                        go_ret
                        exact ⟨_, rfl, HB0.out, fun _ => ⟨g1, g2, q1, g4, HA.out, q3⟩⟩
                      · go_wp2_with fail
                        go_ret
                        exact ⟨_, rfl, HB0.out, fun h => by cases h⟩
                    · go_wp2_with fail
                      go_ret
                      exact ⟨_, rfl, HB0.out, fun h => by cases h⟩
                  · go_wp2_with fail
                    go_ret
                    exact ⟨_, rfl, HB0.out, fun h => by cases h⟩
                · go_wp2_with fail
                  go_ret
                  exact ⟨_, rfl, HB0.out, fun h => by cases h⟩
          · go_enter Tryd.func30, Tryd.ntmps30
            go_wp2_with fail
            go_ret
            exact ⟨_, rfl, HB0.out, fun h => by cases h⟩
        · go_enter Tryd.func30, Tryd.ntmps30
          go_wp2_with fail
          go_ret
          exact ⟨_, rfl, HB0.out, fun h => by cases h⟩
      · go_enter Tryd.func30, Tryd.ntmps30
        go_wp2_with fail
        go_ret
        exact ⟨_, rfl, HB0.out, fun h => by cases h⟩
    · go_enter Tryd.func30, Tryd.ntmps30
      go_wp2_with fail
      go_ret
      exact ⟨_, rfl, HB0.out, fun h => by cases h⟩
  · go_enter Tryd.func30, Tryd.ntmps30
    go_wp2_with fail
    go_ret
    exact ⟨_, rfl, HB0.out, fun h => by cases h⟩
theorem below_drewN' {B : Nat} {a w : World} (h : Below B a w) (n : Nat) : Below B a (w.drewN n) := ⟨h.os, h.tape, h.output, h.size, h.block⟩
set_option maxHeartbeats 4000000 in
theorem ifBytes56 (kc kt ke : Int) (sc st se : ByteArray) (A : Option Addr) (c : Nat) (es : List Br) (he : Bool) (w : World) (hx : BrsAt w w.heap.size A es) (h1 : sc.size ≤ 1048576) (h2 : st.size ≤ 1048576) (h3 : se.size ≤ 1048576) (hle : ∀ x ∈ es, x.le) (hn : es.length ≤ 65536) :
    Calls Tryd.prog 31 #[.agg #[.int .i64 kc, .string sc, .int .i64 kt, .string st, .slice A es.length c, .bool he, .int .i64 ke, .string se]] w fun e w' => ∃ m : Int, e = .returned (.int .i64 m) ∧ 0 ≤ m ∧ m ≤ 200000000000 ∧ Below w.heap.size w w' := by
  have HX := Lib.hid hx
  have HL := Lib.hid hle
  have hbn := Blk.new w 48 #[.int .i64 kc, .string sc, .int .i64 kt, .string st, .slice A es.length c, .bool he, .int .i64 ke, .string se]
  have HBN := Lib.hid hbn
  clear hx hle hbn
  go_enter Tryd.func31, Tryd.ntmps31
  go_wp2_with fail
  go_loopw [3, 4] (fun nv iv wr => ∃ (j : Nat) (m : Int), iv = .int .i64 j ∧ nv = .int .i64 m ∧ j ≤ es.length ∧ 0 ≤ m ∧ m ≤ 10000000 + 2097152 * (j : Int) ∧ Below w.heap.size w wr ∧ Blk wr w.heap.size 48 #[.int .i64 kc, .string sc, .int .i64 kt, .string st, .slice A es.length c, .bool he, .int .i64 ke, .string se]) (fun _ iv _ => es.length - (intOf iv).toNat)
  case atStart => exact ⟨0, _, rfl, rfl, Nat.zero_le _, by omega, by omega, (Below.refl _ _).alloc (Nat.le_refl _) _, HBN.out⟩
  case round =>
    obtain ⟨j, m, rfl, rfl, hj, hm0, hm1, hbw, hB⟩ := hrel
    have d4 : wr.cell? ⟨w.heap.size, 4, none⟩ = some (.slice A es.length c) := hB.cell 4
    have HB := Lib.hid hB
    clear hB
    by_cases hlt : j < es.length
    · obtain ⟨g, o, rfl, hg, c0, c1, c2, c3⟩ := (HX.out.below hbw) j _ (List.getElem?_eq_getElem hlt)
      have hlx := HL.out _ (List.getElem_mem hlt)
      obtain ⟨x, hxx⟩ : ∃ x, Hid (es[j] = x) := ⟨_, Lib.hid rfl⟩
      rw [hxx.out] at c0 c1 c2 c3 hlx
      obtain ⟨l1, l2⟩ := hlx
      clear hxx
      have j0 : (0 : Int) ≤ j := by omega
      have j1 : (j : Int) < es.length := by omega
      go_wp2_with fail
      go_quiet (fail)
      go_wp2_with fail
      go_roundw
      case rel => exact ⟨j + 1, _, by go_num, rfl, by omega, by omega, by push_cast; omega, below_drewN' hbw _, HB.out.drewN _⟩
      case measure => simp [intOf]; omega
    · go_wp2_with fail
      go_ret
      exact ⟨_, rfl, hm0, by omega, hbw⟩
set_option maxHeartbeats 8000000 in
theorem ifOut56 (kc kt ke : Int) (sc st se : ByteArray) (A : Option Addr) (c : Nat) (es : List Br) (he : Bool) (ne : Bool) (w : World) (hx : BrsAt w w.heap.size A es) (h1 : sc.size ≤ 1048576) (h2 : st.size ≤ 1048576) (h3 : se.size ≤ 1048576) (hle : ∀ x ∈ es, x.le) (hn : es.length ≤ 65536) :
    Calls Tryd.prog 32 #[.agg #[.int .i64 kc, .string sc, .int .i64 kt, .string st, .slice A es.length c, .bool he, .int .i64 ke, .string se], .bool ne] w (SomeBB w) := by
  have HX := Lib.hid hx
  have HL := Lib.hid hle
  have hbn := Blk.new w 48 #[.int .i64 kc, .string sc, .int .i64 kt, .string st, .slice A es.length c, .bool he, .int .i64 ke, .string se]
  have HBN := Lib.hid hbn
  have hb0 : Below w.heap.size w (w.alloc (.cells #[.int .i64 kc, .string sc, .int .i64 kt, .string st, .slice A es.length c, .bool he, .int .i64 ke, .string se] 48)) := (Below.refl _ _).alloc (Nat.le_refl _) _
  have HB0 := Lib.hid hb0
  have a1 := Lib.hid fun W => atomOut kc sc W h1
  have a2 := Lib.hid fun W => atomOut kt st W h2
  have a3 := Lib.hid fun W => atomOut ke se W h3
  clear hx hle hbn hb0
  go_enter Tryd.func32, Tryd.ntmps32
  go_wp2_with fail
  with_reducible refine (a1.out _).mono ?_
  rintro e1 w1 ⟨b1, rfl, hb1⟩
  have HB1 := Lib.hid (HBN.out.below hb1 (by simp))
  have bb1 := HB0.out.trans (hb1.mono (by simp))
  have d2 : w1.cell? ⟨w.heap.size, 2, none⟩ = some (.int .i64 kt) := HB1.out.cell 2
  have d3 : w1.cell? ⟨w.heap.size, 3, none⟩ = some (.string st) := HB1.out.cell 3
  clear hb1
  cases b1 with
  | true =>
    go_wp2_with fail
    go_ret
    exact ⟨_, rfl, bb1⟩
  | false =>
    go_wp2_with fail
    with_reducible refine (a2.out _).mono ?_
    rintro e2 w2 ⟨b2, rfl, hb2⟩
    have HB2 := Lib.hid (HB1.out.below hb2 HB1.out.lt)
    have bb2 := bb1.trans (hb2.mono bb1.size)
    clear hb2 d2 d3 bb1
    cases b2 with
    | true =>
      go_wp2_with fail
      go_ret
      exact ⟨_, rfl, bb2⟩
    | false =>
      have hcont : ∀ w3 : World, Hid (Blk w3 w.heap.size 48 #[.int .i64 kc, .string sc, .int .i64 kt, .string st, .slice A es.length c, .bool he, .int .i64 ke, .string se]) → Below w.heap.size w w3 → True := fun _ _ _ => trivial
      clear hcont
      have d6 : w2.cell? ⟨w.heap.size, 6, none⟩ = some (.int .i64 ke) := HB2.out.cell 6
      have d7 : w2.cell? ⟨w.heap.size, 7, none⟩ = some (.string se) := HB2.out.cell 7
      cases ne
      · go_wp2_with fail
        go_loopg [5] es.length (fun gk iv wr => ∃ (j : Nat), gk = es.length - j ∧ iv = .int .i64 j ∧ j ≤ es.length ∧ Below w.heap.size w wr ∧ Blk wr w.heap.size 48 #[.int .i64 kc, .string sc, .int .i64 kt, .string st, .slice A es.length c, .bool he, .int .i64 ke, .string se])
        case atStart => exact ⟨0, rfl, rfl, Nat.zero_le _, bb2, HB2.out⟩
        case round =>
          obtain ⟨j, rfl, rfl, hj, hbw, hB⟩ := hrel
          have d4 : wr.cell? ⟨w.heap.size, 4, none⟩ = some (.slice A es.length c) := hB.cell 4
          have HB := Lib.hid hB
          clear hB
          by_cases hlt : j < es.length
          · obtain ⟨g, o, rfl, hg, c0, c1, c2, c3⟩ := (HX.out.below hbw) j _ (List.getElem?_eq_getElem hlt)
            have hlx := HL.out _ (List.getElem_mem hlt)
            obtain ⟨x, hxx⟩ : ∃ x, Hid (es[j] = x) := ⟨_, Lib.hid rfl⟩
            rw [hxx.out] at c0 c1 c2 c3 hlx
            have e1' := Lib.hid fun W => atomOut x.k1 x.s1 W hlx.1
            have e2' := Lib.hid fun W => atomOut x.k2 x.s2 W hlx.2
            clear hxx hlx
            have j0 : (0 : Int) ≤ j := by omega
            have j1 : (j : Int) < es.length := by omega
            go_wp2_with fail
            with_reducible refine (e1'.out _).mono ?_
            rintro e5 w5 ⟨b5, rfl, hb5⟩
            have HB5 := Lib.hid (HB.out.below hb5 HB.out.lt)
            have bb5 := hbw.trans (hb5.mono hbw.size)
            have hgw : g < wr.heap.size := Nat.lt_of_lt_of_le hg hbw.size
            have f4 : w5.cell? ⟨w.heap.size, 4, none⟩ = some (.slice (some ⟨g, o, none⟩) es.length c) := HB5.out.cell 4
            have f2 := (hb5.cell (p := ⟨g, o + j * 4 + 2, none⟩) hgw).trans c2
            have f3 := (hb5.cell (p := ⟨g, o + j * 4 + 3, none⟩) hgw).trans c3
            clear hb5 d4 c0 c1 c2 c3
            cases b5 with
            | true =>
              go_wp2_with fail
              go_ret
              exact ⟨_, rfl, bb5⟩
            | false =>
              go_wp2_with fail
              with_reducible refine (e2'.out _).mono ?_
              rintro e6 w6 ⟨b6, rfl, hb6⟩
              have HB6 := Lib.hid (HB5.out.below hb6 HB5.out.lt)
              have bb6 := bb5.trans (hb6.mono bb5.size)
              clear hb6 f4 f2 f3
              cases b6 with
              | true =>
                go_wp2_with fail
                go_ret
                exact ⟨_, rfl, bb6⟩
              | false =>
                go_wp2_with fail
                go_roundg (es.length - (j + 1))
                case measure => omega
                case rel => exact ⟨j + 1, rfl, by go_num, by omega, bb6, HB6.out⟩
          · go_wp2_with fail
            go_ret
            exact ⟨_, rfl, hbw⟩
      · go_wp2_with fail
        with_reducible refine (a3.out _).mono ?_
        rintro e3 w3 ⟨b3, rfl, hb3⟩
        have HB3 := Lib.hid (HB2.out.below hb3 HB2.out.lt)
        have bb3 := bb2.trans (hb3.mono bb2.size)
        clear hb3 d6 d7 bb2
        cases b3 with
        | true =>
          go_wp2_with fail
          go_ret
          exact ⟨_, rfl, bb3⟩
        | false =>
          go_wp2_with fail
          go_loopg [5] es.length (fun gk iv wr => ∃ (j : Nat), gk = es.length - j ∧ iv = .int .i64 j ∧ j ≤ es.length ∧ Below w.heap.size w wr ∧ Blk wr w.heap.size 48 #[.int .i64 kc, .string sc, .int .i64 kt, .string st, .slice A es.length c, .bool he, .int .i64 ke, .string se])
          case atStart => exact ⟨0, rfl, rfl, Nat.zero_le _, bb3, HB3.out⟩
          case round =>
            obtain ⟨j, rfl, rfl, hj, hbw, hB⟩ := hrel
            have d4 : wr.cell? ⟨w.heap.size, 4, none⟩ = some (.slice A es.length c) := hB.cell 4
            have HB := Lib.hid hB
            clear hB
            by_cases hlt : j < es.length
            · obtain ⟨g, o, rfl, hg, c0, c1, c2, c3⟩ := (HX.out.below hbw) j _ (List.getElem?_eq_getElem hlt)
              have hlx := HL.out _ (List.getElem_mem hlt)
              obtain ⟨x, hxx⟩ : ∃ x, Hid (es[j] = x) := ⟨_, Lib.hid rfl⟩
              rw [hxx.out] at c0 c1 c2 c3 hlx
              have e1' := Lib.hid fun W => atomOut x.k1 x.s1 W hlx.1
              have e2' := Lib.hid fun W => atomOut x.k2 x.s2 W hlx.2
              clear hxx hlx
              have j0 : (0 : Int) ≤ j := by omega
              have j1 : (j : Int) < es.length := by omega
              go_wp2_with fail
              with_reducible refine (e1'.out _).mono ?_
              rintro e5 w5 ⟨b5, rfl, hb5⟩
              have HB5 := Lib.hid (HB.out.below hb5 HB.out.lt)
              have bb5 := hbw.trans (hb5.mono hbw.size)
              have hgw : g < wr.heap.size := Nat.lt_of_lt_of_le hg hbw.size
              have f4 : w5.cell? ⟨w.heap.size, 4, none⟩ = some (.slice (some ⟨g, o, none⟩) es.length c) := HB5.out.cell 4
              have f2 := (hb5.cell (p := ⟨g, o + j * 4 + 2, none⟩) hgw).trans c2
              have f3 := (hb5.cell (p := ⟨g, o + j * 4 + 3, none⟩) hgw).trans c3
              clear hb5 d4 c0 c1 c2 c3
              cases b5 with
              | true =>
                go_wp2_with fail
                go_ret
                exact ⟨_, rfl, bb5⟩
              | false =>
                go_wp2_with fail
                with_reducible refine (e2'.out _).mono ?_
                rintro e6 w6 ⟨b6, rfl, hb6⟩
                have HB6 := Lib.hid (HB5.out.below hb6 HB5.out.lt)
                have bb6 := bb5.trans (hb6.mono bb5.size)
                clear hb6 f4 f2 f3
                cases b6 with
                | true =>
                  go_wp2_with fail
                  go_ret
                  exact ⟨_, rfl, bb6⟩
                | false =>
                  go_wp2_with fail
                  go_roundg (es.length - (j + 1))
                  case measure => omega
                  case rel => exact ⟨j + 1, rfl, by go_num, by omega, bb6, HB6.out⟩
            · go_wp2_with fail
              go_ret
              exact ⟨_, rfl, hbw⟩
end Go.Proofs.YtooalmhelfaodaaDoor
