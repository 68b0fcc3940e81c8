/- The walk of FnIfWriteToTwiceIsStringTwice: true at every description and every prefix. -/
import Derived.Test.YtooalmhelfaodaaDoorLawN
namespace Go.Proofs.YtooalmhelfaodaaDoor
open Go.RowKit
set_option maxRecDepth 100000
set_option linter.unusedVariables false
set_option linter.unusedSimpArgs false
theorem twice_a {p S : ByteArray} {l : List UInt8} (h : S.data.toList = l) : (⟨(p.data.toList ++ l).toArray⟩ : ByteArray) = p ++ S := by
  apply WideShapes.bytes_inj
  rw [ByteArray.data_append, Array.toList_append, h]
theorem twice_size (p S : ByteArray) : (p ++ S).size = p.size + S.size := ByteArray.size_append
set_option maxHeartbeats 8000000 in
theorem law_twice (kc kt ke : Int) (sc st se : ByteArray) (A : Option Addr) (c : Nat) (es : List Br) (he : Bool) (p : ByteArray) (w : World) (hx : BrsAt w w.heap.size A es) (hA : A = none → c = 0 ∧ es = []) (hpz : p.size ≤ 9223372036854775807) :
    Calls Tryd.prog 8 #[.agg #[.int .i64 kc, .string sc, .int .i64 kt, .string st, .slice A es.length c, .bool he, .int .i64 ke, .string se], .string p] w fun e w' => e = .returned (.bool true) ∧ Below w.heap.size w w' := by
  have hb0 : Below w.heap.size w (w.alloc (.cells #[.int .i64 kc, .string sc, .int .i64 kt, .string st, .slice A es.length c, .bool he, .int .i64 ke, .string se] 48)) := (Below.refl _ _).alloc (Nat.le_refl _) _
  have hbn := Blk.new w 48 #[.int .i64 kc, .string sc, .int .i64 kt, .string st, .slice A es.length c, .bool he, .int .i64 ke, .string se]
  have HX0 := Lib.hid (hx.up hb0)
  have HA := Lib.hid hA
  have hz := Lib.hid (zzbTwice kc kt ke sc st se A c es he p _ HX0.out)
  have HB0 := Lib.hid hb0
  have HBN := Lib.hid hbn
  have hws : w.heap.size < (w.alloc (.cells #[.int .i64 kc, .string sc, .int .i64 kt, .string st, .slice A es.length c, .bool he, .int .i64 ke, .string se] 48)).heap.size := by simp
  have HWS := Lib.hid hws
  clear hx hA hb0 hbn hws
  go_enter Tryd.func8, Tryd.ntmps8
  go_wp2_with fail
  with_reducible refine (hz.out).mono ?_
  rintro e1 w1 ⟨b, rfl, hb1, hq⟩
  have bb1 := HB0.out.trans (hb1.mono (Nat.le_of_lt HWS.out))
  have HB1 := Lib.hid (HBN.out.below hb1 HWS.out)
  have HX1 := Lib.hid (HX0.out.up hb1)
  clear hb1 HB0 HX0 HBN hz
  cases b with
  | false =>
    go_wp2_with fail
    go_ret
    exact ⟨rfl, bb1⟩
  | true =>
    obtain ⟨z1, z2, z3, z4, z5, z6⟩ := hq rfl
    have HL := Lib.hid z5
    clear z5 hq
    have d0 : w1.cell? ⟨w.heap.size, 0, none⟩ = some (.int .i64 kc) := HB1.out.cell 0
    have d1 : w1.cell? ⟨w.heap.size, 1, none⟩ = some (.string sc) := HB1.out.cell 1
    have d2 : w1.cell? ⟨w.heap.size, 2, none⟩ = some (.int .i64 kt) := HB1.out.cell 2
    have d3 : w1.cell? ⟨w.heap.size, 3, none⟩ = some (.string st) := HB1.out.cell 3
    have d4 : w1.cell? ⟨w.heap.size, 4, none⟩ = some (.slice A es.length c) := HB1.out.cell 4
    have d5 : w1.cell? ⟨w.heap.size, 5, none⟩ = some (.bool he) := HB1.out.cell 5
    have d6 : w1.cell? ⟨w.heap.size, 6, none⟩ = some (.int .i64 ke) := HB1.out.cell 6
    have d7 : w1.cell? ⟨w.heap.size, 7, none⟩ = some (.string se) := HB1.out.cell 7
    by_cases np : p.size ≤ 65536
    · skip
      by_cases hn : es.length ≤ 65536
      · skip
        have hby := Lib.hid (ifBytes56 kc kt ke sc st se A c es he w1 HX1.out z1 z2 z3 HL.out hn)
        go_wp2_with fail
        with_reducible refine (hby.out).mono ?_
        rintro e2 w2 ⟨m, rfl, m0, m1, hb2⟩
        have bb2 := bb1.trans (hb2.mono bb1.size)
        have HB2 := Lib.hid (HB1.out.below hb2 HB1.out.lt)
        have HX2 := Lib.hid (HX1.out.up hb2)
        clear hb2 HB1 HX1 hby bb1
        clear d0 d1 d2 d3 d4 d5 d6 d7
        have d0 : w2.cell? ⟨w.heap.size, 0, none⟩ = some (.int .i64 kc) := HB2.out.cell 0
        have d1 : w2.cell? ⟨w.heap.size, 1, none⟩ = some (.string sc) := HB2.out.cell 1
        have d2 : w2.cell? ⟨w.heap.size, 2, none⟩ = some (.int .i64 kt) := HB2.out.cell 2
        have d3 : w2.cell? ⟨w.heap.size, 3, none⟩ = some (.string st) := HB2.out.cell 3
        have d4 : w2.cell? ⟨w.heap.size, 4, none⟩ = some (.slice A es.length c) := HB2.out.cell 4
        have d5 : w2.cell? ⟨w.heap.size, 5, none⟩ = some (.bool he) := HB2.out.cell 5
        have d6 : w2.cell? ⟨w.heap.size, 6, none⟩ = some (.int .i64 ke) := HB2.out.cell 6
        have d7 : w2.cell? ⟨w.heap.size, 7, none⟩ = some (.string se) := HB2.out.cell 7
        by_cases hm : m + (p.size : Int) ≤ 1048576
        · have hou := Lib.hid (ifOut56 kc kt ke sc st se A c es he he w2 HX2.out z1 z2 z3 HL.out hn)
          go_wp2_with fail
          with_reducible refine (hou.out).mono ?_
          rintro e3 w3 ⟨b3, rfl, hb3⟩
          have bb3 := bb2.trans (hb3.mono bb2.size)
          have HB3 := Lib.hid (HB2.out.below hb3 HB2.out.lt)
          have HX3 := Lib.hid (HX2.out.up hb3)
          clear hb3 HB2 HX2 hou bb2 m0 m1 hm
          clear d0 d1 d2 d3 d4 d5 d6 d7
          have d0 : w3.cell? ⟨w.heap.size, 0, none⟩ = some (.int .i64 kc) := HB3.out.cell 0
          have d1 : w3.cell? ⟨w.heap.size, 1, none⟩ = some (.string sc) := HB3.out.cell 1
          have d2 : w3.cell? ⟨w.heap.size, 2, none⟩ = some (.int .i64 kt) := HB3.out.cell 2
          have d3 : w3.cell? ⟨w.heap.size, 3, none⟩ = some (.string st) := HB3.out.cell 3
          have d4 : w3.cell? ⟨w.heap.size, 4, none⟩ = some (.slice A es.length c) := HB3.out.cell 4
          have d5 : w3.cell? ⟨w.heap.size, 5, none⟩ = some (.bool he) := HB3.out.cell 5
          have d6 : w3.cell? ⟨w.heap.size, 6, none⟩ = some (.int .i64 ke) := HB3.out.cell 6
          have d7 : w3.cell? ⟨w.heap.size, 7, none⟩ = some (.string se) := HB3.out.cell 7
          cases b3 with
          | true =>
            go_wp2_with fail
            go_ret
            exact ⟨rfl, bb3⟩
          | false =>
            have hcl := Lib.hid (cloneB_any A c es w3 HA.out HX3.out (by omega))
            go_wp2_with fail
            with_reducible refine (hcl.out).mono ?_
            rintro e4 w4 ⟨A2, c2, rfl, hX4, hb4, hge⟩
            have bb4 := bb3.trans (hb4.mono bb3.size)
            have h4 := HB3.out.below hb4 HB3.out.lt
            have hlt3 := HB3.out.lt
            have HX5 := Lib.hid (show BrsAt (w4.setCell ⟨w.heap.size, 4, none⟩ (.slice A2 es.length c2)) (w4.setCell ⟨w.heap.size, 4, none⟩ (.slice A2 es.length c2)).heap.size A2 es from by
              have hs : (w4.setCell ⟨w.heap.size, 4, none⟩ (.slice A2 es.length c2)).heap.size = w4.heap.size := by simp [World.setCell]
              rw [hs]
              exact hX4.set_ (fun g o hg => Nat.lt_of_lt_of_le hlt3 (hge g o hg)) 4 _)
            have HB5 := Lib.hid (show Blk (w4.setCell ⟨w.heap.size, 4, none⟩ (.slice A2 es.length c2)) w.heap.size 48 #[.int .i64 kc, .string sc, .int .i64 kt, .string st, .slice A2 es.length c2, .bool he, .int .i64 ke, .string se] from h4.set_ 4 _)
            have bb5 : Below w.heap.size w (w4.setCell ⟨w.heap.size, 4, none⟩ (.slice A2 es.length c2)) := bb4.setCell (Nat.le_refl _) _
            have f4 := h4.frozen 4
            clear d0 d1 d2 d3 d4 d5 d6 d7
            have d0 : w4.cell? ⟨w.heap.size, 0, none⟩ = some (.int .i64 kc) := h4.cell 0
            have d1 : w4.cell? ⟨w.heap.size, 1, none⟩ = some (.string sc) := h4.cell 1
            have d2 : w4.cell? ⟨w.heap.size, 2, none⟩ = some (.int .i64 kt) := h4.cell 2
            have d3 : w4.cell? ⟨w.heap.size, 3, none⟩ = some (.string st) := h4.cell 3
            have d4 : w4.cell? ⟨w.heap.size, 4, none⟩ = some (.slice A es.length c) := h4.cell 4
            have d5 : w4.cell? ⟨w.heap.size, 5, none⟩ = some (.bool he) := h4.cell 5
            have d6 : w4.cell? ⟨w.heap.size, 6, none⟩ = some (.int .i64 ke) := h4.cell 6
            have d7 : w4.cell? ⟨w.heap.size, 7, none⟩ = some (.string se) := h4.cell 7
            have hbi := Lib.hid (buildIf56 kc kt ke sc st se A2 c2 es he he (w4.setCell ⟨w.heap.size, 4, none⟩ (.slice A2 es.length c2)) HX5.out z1 z2 z3 HL.out hn)
            clear h4 hX4 hge hb4 HB3 HX3 hcl hlt3 bb3 bb4
            go_wp2_with fail
            with_reducible refine (hbi.out).mono ?_
            rintro e6 w6 ⟨i1, rfl, hI1, hb6⟩
            have bb6 := bb5.trans (hb6.mono bb5.size)
            have HB6 := Lib.hid (HB5.out.below hb6 HB5.out.lt)
            have HX6 := Lib.hid (HX5.out.up hb6)
            clear HB5 HX5 hbi hb6 bb5 f4
            clear d0 d1 d2 d3 d4 d5 d6 d7
            have hln := ifT_len (atomQ kc sc) (atomQ kt st) es (if he then some (atomQ ke se) else none) HL.out (atom_wt' z1) (atom_wt' z2) (else_wt z3 he) hn
            have HEW := Lib.hid (else_wt (ke := ke) z3 he)
            generalize (if he = true then some (atomQ ke se) else none) = EL at *
            have hst := Lib.hid fun W (hI : IfIs W W.heap.size i1 (atomQ kc sc) (atomQ kt st) es EL) => ifStr i1 (atomQ kc sc) (atomQ kt st) es EL W hI HL.out (atom_wt' z1) (atom_wt' z2) HEW.out hn
            have haf := Lib.hid fun s W (hI : IfIs W W.heap.size i1 (atomQ kc sc) (atomQ kt st) es EL) (hs : s.size ≤ 1000000000000) => ifAfter i1 (atomQ kc sc) (atomQ kt st) es EL s W hI HL.out (atom_wt' z1) (atom_wt' z2) HEW.out hn hs
            obtain ⟨S, hS, hs1⟩ : ∃ S : ByteArray, Hid (S.data.toList = ifT (atomQ kc sc) (atomQ kt st) es EL) ∧ Hid (∀ W, IfIs W W.heap.size i1 (atomQ kc sc) (atomQ kt st) es EL → Calls Tryd.prog 35 #[.pointer (some ⟨i1, 0, none⟩)] W fun r w' => r = .returned (.string S) ∧ Below W.heap.size W w') := ⟨_, Lib.hid rfl, hst⟩
            have zS : S.size ≤ 200000000000 := by rw [← size_list, hS.out]; exact hln
            have haf2 : Hid (∀ s W, IfIs W W.heap.size i1 (atomQ kc sc) (atomQ kt st) es EL → s.size ≤ 1000000000000 → Calls Tryd.prog 36 #[.pointer (some ⟨i1, 0, none⟩), .string s] W fun r w' => r = .returned (.string (s ++ S)) ∧ Below W.heap.size W w') := by
              intro s W hI hs
              have h := haf.out s W hI hs
              rw [twice_a hS.out] at h
              exact h
            clear hst hln haf HB6 HX6
            have H6 := Lib.hid hI1
            clear hI1
            go_wp2_with fail
            with_reducible refine (hs1.out _ H6.out).mono ?_
            rintro e7 w7 ⟨rfl, hb7⟩
            have bb7 := bb6.trans (hb7.mono bb6.size)
            have H7 := Lib.hid ((H6.out.below hb7).mono hb7.size)
            clear H6 hb7 bb6
            go_wp2_with fail
            with_reducible refine (haf2.out _ _ H7.out (by omega)).mono ?_
            rintro e8 w8 ⟨rfl, hb8⟩
            have bb8 := bb7.trans (hb8.mono bb7.size)
            have H8 := Lib.hid ((H7.out.below hb8).mono hb8.size)
            clear H7 hb8 bb7
            go_wp2_with fail
            with_reducible refine (haf2.out _ _ H8.out (by rw [twice_size]; omega)).mono ?_
            rintro e9 w9 ⟨rfl, hb9⟩
            have bb9 := bb8.trans (hb9.mono bb8.size)
            have H9 := Lib.hid ((H8.out.below hb9).mono hb9.size)
            have y1 := twice_size p S
            clear H8 hb9 bb8
            go_wp2_with fail
            with_reducible refine (hs1.out _ H9.out).mono ?_
            rintro e10 w10 ⟨rfl, hb10⟩
            have bb10 := bb9.trans (hb10.mono bb9.size)
            go_wp2_with fail
            go_ret
            exact ⟨by simp, bb10⟩
        · go_wp2_with fail
          go_ret
          exact ⟨rfl, bb2⟩
      · go_wp2_with fail
        go_ret
        exact ⟨rfl, bb1⟩
    · go_wp2_with fail
      go_ret
      exact ⟨rfl, bb1⟩
end Go.Proofs.YtooalmhelfaodaaDoor
