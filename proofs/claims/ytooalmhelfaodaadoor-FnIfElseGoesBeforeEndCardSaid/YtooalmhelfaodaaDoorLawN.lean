/- The walk of FnIfElseGoesBeforeEnd: true at every description. -/
import Derived.Test.YtooalmhelfaodaaDoorIfF
namespace Go.Proofs.YtooalmhelfaodaaDoor
open Go.RowKit
set_option maxRecDepth 100000
set_option linter.unusedVariables false
set_option linter.unusedSimpArgs false
theorem BrsAt.set_ {w : World} {B G : Nat} {A : Option Addr} {es : List Br} (h : BrsAt w B A es) (hG : ∀ g o, A = some ⟨g, o, none⟩ → G < g) (i : Nat) (u : Value) : BrsAt (w.setCell ⟨G, i, none⟩ u) B A es := fun k x hx => by
  obtain ⟨g, o, h1, h2, h3, h4, h5, h6⟩ := h k x hx
  have hne : g ≠ G := by have := hG g o h1; omega
  have e : ∀ j, (w.setCell ⟨G, i, none⟩ u).cell? ⟨g, j, none⟩ = w.cell? ⟨g, j, none⟩ := fun j => World.cell?_of_block (w := w) (Below.heap_setCell _ _ _ _ hne)
  exact ⟨g, o, h1, h2, (e _).trans h3, (e _).trans h4, (e _).trans h5, (e _).trans h6⟩
theorem else_wt {ke : Int} {se : ByteArray} (hs : se.size ≤ 1048576) (b : Bool) : ∀ e, (if b then some (atomQ ke se) else none) = some e → e.wt ≤ 1048700 := by
  intro e he
  have h1 := atomQ_wt ke se
  cases b
  · simp at he
  · simp at he; subst he; omega
theorem atom_wt' {k : Int} {s : ByteArray} (hs : s.size ≤ 1048576) : (atomQ k s).wt ≤ 1048700 := by have := atomQ_wt k s; omega
theorem ifT_none (c t : Qu) (es : List Br) : ifT c t es none = (headI c t ++ rowT es) ++ [32, 101, 110, 100] := by simp [ifT, elseT]
theorem end_eq {S : ByteArray} {P : List UInt8} (h : S.data.toList = P ++ [32, 101, 110, 100]) : S.extract (S.size - 4) S.size = ⟨#[32, 101, 110, 100]⟩ ∧ (S.extract 0 (S.size - 4)).data.toList = P ∧ 4 ≤ S.size := by
  have hs : S.size = P.length + 4 := by rw [← size_list, h]; simp
  refine ⟨?_, ?_, by omega⟩
  · apply WideShapes.bytes_inj
    rw [Lib.extract_data, h, hs]
    simp
  · rw [Lib.extract_data, h, hs]
    simp
theorem else_eq {S2 P S3 : ByteArray} {c t e : Qu} {es : List Br} (h2 : S2.data.toList = ifT c t es (some e)) (hp : P.data.toList = headI c t ++ rowT es) (h3 : S3.data.toList = outQ e []) :
    (S2.toList == (P ++ (⟨#[32, 101, 108, 115, 101, 32]⟩ : ByteArray) ++ S3 ++ (⟨#[32, 101, 110, 100]⟩ : ByteArray)).toList) = true := by
  rw [beq_iff_eq, Lib.toList_data, Lib.toList_data, h2]
  simp [ByteArray.data_append, hp, h3, ifT, elseT]
theorem ret_boolN {a : Bool} (h : a = true) : Ending.returned (.bool a) = .returned (.bool true) := by rw [h]
set_option maxHeartbeats 8000000 in
theorem law_else (kc kt ke : Int) (sc st se : ByteArray) (A : Option Addr) (c : Nat) (es : List Br) (he : Bool) (w : World) (hx : BrsAt w w.heap.size A es) (hA : A = none → c = 0 ∧ es = []) :
    Calls Tryd.prog 10 #[.agg #[.int .i64 kc, .string sc, .int .i64 kt, .string st, .slice A es.length c, .bool he, .int .i64 ke, .string se]] w fun e w' => e = .returned (.bool true) ∧ Below w.heap.size w w' := by
  have hb0 : Below w.heap.size w (w.alloc (.cells #[.int .i64 kc, .string sc, .int .i64 kt, .string st, .slice A es.length c, .bool he, .int .i64 ke, .string se] 48)) := (Below.refl _ _).alloc (Nat.le_refl _) _
  have hbn := Blk.new w 48 #[.int .i64 kc, .string sc, .int .i64 kt, .string st, .slice A es.length c, .bool he, .int .i64 ke, .string se]
  have HX0 := Lib.hid (hx.up hb0)
  have HA := Lib.hid hA
  have hz := Lib.hid (zzbElse kc kt ke sc st se A c es he _ HX0.out)
  have HB0 := Lib.hid hb0
  have HBN := Lib.hid hbn
  have hws : w.heap.size < (w.alloc (.cells #[.int .i64 kc, .string sc, .int .i64 kt, .string st, .slice A es.length c, .bool he, .int .i64 ke, .string se] 48)).heap.size := by simp
  have HWS := Lib.hid hws
  clear hx hA hb0 hbn hws
  go_enter Tryd.func10, Tryd.ntmps10
  go_wp2_with fail
  with_reducible refine (hz.out).mono ?_
  rintro e1 w1 ⟨b, rfl, hb1, hq⟩
  have bb1 := HB0.out.trans (hb1.mono (Nat.le_of_lt HWS.out))
  have HB1 := Lib.hid (HBN.out.below hb1 HWS.out)
  have HX1 := Lib.hid (HX0.out.up hb1)
  clear hb1 HB0 HX0 HBN hz
  cases b with
  | false =>
    go_wp2_with fail
    go_ret
    exact ⟨rfl, bb1⟩
  | true =>
    obtain ⟨z1, z2, z3, z4, z5⟩ := hq rfl
    have HL := Lib.hid z5
    clear z5 hq
    have d0 : w1.cell? ⟨w.heap.size, 0, none⟩ = some (.int .i64 kc) := HB1.out.cell 0
    have d1 : w1.cell? ⟨w.heap.size, 1, none⟩ = some (.string sc) := HB1.out.cell 1
    have d2 : w1.cell? ⟨w.heap.size, 2, none⟩ = some (.int .i64 kt) := HB1.out.cell 2
    have d3 : w1.cell? ⟨w.heap.size, 3, none⟩ = some (.string st) := HB1.out.cell 3
    have d4 : w1.cell? ⟨w.heap.size, 4, none⟩ = some (.slice A es.length c) := HB1.out.cell 4
    have d5 : w1.cell? ⟨w.heap.size, 5, none⟩ = some (.bool he) := HB1.out.cell 5
    have d6 : w1.cell? ⟨w.heap.size, 6, none⟩ = some (.int .i64 ke) := HB1.out.cell 6
    have d7 : w1.cell? ⟨w.heap.size, 7, none⟩ = some (.string se) := HB1.out.cell 7
    by_cases hn : es.length ≤ 65536
    · skip
      have hby := Lib.hid (ifBytes56 kc kt ke sc st se A c es he w1 HX1.out z1 z2 z3 HL.out hn)
      go_wp2_with fail
      with_reducible refine (hby.out).mono ?_
      rintro e2 w2 ⟨m, rfl, m0, m1, hb2⟩
      have bb2 := bb1.trans (hb2.mono bb1.size)
      have HB2 := Lib.hid (HB1.out.below hb2 HB1.out.lt)
      have HX2 := Lib.hid (HX1.out.up hb2)
      clear hb2 HB1 HX1 hby bb1
      clear d0 d1 d2 d3 d4 d5 d6 d7
      have d0 : w2.cell? ⟨w.heap.size, 0, none⟩ = some (.int .i64 kc) := HB2.out.cell 0
      have d1 : w2.cell? ⟨w.heap.size, 1, none⟩ = some (.string sc) := HB2.out.cell 1
      have d2 : w2.cell? ⟨w.heap.size, 2, none⟩ = some (.int .i64 kt) := HB2.out.cell 2
      have d3 : w2.cell? ⟨w.heap.size, 3, none⟩ = some (.string st) := HB2.out.cell 3
      have d4 : w2.cell? ⟨w.heap.size, 4, none⟩ = some (.slice A es.length c) := HB2.out.cell 4
      have d5 : w2.cell? ⟨w.heap.size, 5, none⟩ = some (.bool he) := HB2.out.cell 5
      have d6 : w2.cell? ⟨w.heap.size, 6, none⟩ = some (.int .i64 ke) := HB2.out.cell 6
      have d7 : w2.cell? ⟨w.heap.size, 7, none⟩ = some (.string se) := HB2.out.cell 7
      by_cases hm : m ≤ 1048576
      · have hou := Lib.hid (ifOut56 kc kt ke sc st se A c es he true w2 HX2.out z1 z2 z3 HL.out hn)
        go_wp2_with fail
        with_reducible refine (hou.out).mono ?_
        rintro e3 w3 ⟨b3, rfl, hb3⟩
        have bb3 := bb2.trans (hb3.mono bb2.size)
        have HB3 := Lib.hid (HB2.out.below hb3 HB2.out.lt)
        have HX3 := Lib.hid (HX2.out.up hb3)
        clear hb3 HB2 HX2 hou bb2 m0 m1 hm
        clear d0 d1 d2 d3 d4 d5 d6 d7
        have d0 : w3.cell? ⟨w.heap.size, 0, none⟩ = some (.int .i64 kc) := HB3.out.cell 0
        have d1 : w3.cell? ⟨w.heap.size, 1, none⟩ = some (.string sc) := HB3.out.cell 1
        have d2 : w3.cell? ⟨w.heap.size, 2, none⟩ = some (.int .i64 kt) := HB3.out.cell 2
        have d3 : w3.cell? ⟨w.heap.size, 3, none⟩ = some (.string st) := HB3.out.cell 3
        have d4 : w3.cell? ⟨w.heap.size, 4, none⟩ = some (.slice A es.length c) := HB3.out.cell 4
        have d5 : w3.cell? ⟨w.heap.size, 5, none⟩ = some (.bool he) := HB3.out.cell 5
        have d6 : w3.cell? ⟨w.heap.size, 6, none⟩ = some (.int .i64 ke) := HB3.out.cell 6
        have d7 : w3.cell? ⟨w.heap.size, 7, none⟩ = some (.string se) := HB3.out.cell 7
        cases b3 with
        | true =>
          go_wp2_with fail
          go_ret
          exact ⟨rfl, bb3⟩
        | false =>
          have hcl := Lib.hid (cloneB_any A c es w3 HA.out HX3.out (by omega))
          go_wp2_with fail
          with_reducible refine (hcl.out).mono ?_
          rintro e4 w4 ⟨A2, c2, rfl, hX4, hb4, hge⟩
          have bb4 := bb3.trans (hb4.mono bb3.size)
          have h4 := HB3.out.below hb4 HB3.out.lt
          have hlt3 := HB3.out.lt
          have HX5 := Lib.hid (show BrsAt (w4.setCell ⟨w.heap.size, 4, none⟩ (.slice A2 es.length c2)) (w4.setCell ⟨w.heap.size, 4, none⟩ (.slice A2 es.length c2)).heap.size A2 es from by
            have hs : (w4.setCell ⟨w.heap.size, 4, none⟩ (.slice A2 es.length c2)).heap.size = w4.heap.size := by simp [World.setCell]
            rw [hs]
            exact hX4.set_ (fun g o hg => Nat.lt_of_lt_of_le hlt3 (hge g o hg)) 4 _)
          have HB5 := Lib.hid (show Blk (w4.setCell ⟨w.heap.size, 4, none⟩ (.slice A2 es.length c2)) w.heap.size 48 #[.int .i64 kc, .string sc, .int .i64 kt, .string st, .slice A2 es.length c2, .bool he, .int .i64 ke, .string se] from h4.set_ 4 _)
          have bb5 : Below w.heap.size w (w4.setCell ⟨w.heap.size, 4, none⟩ (.slice A2 es.length c2)) := bb4.setCell (Nat.le_refl _) _
          have f4 := h4.frozen 4
          clear d0 d1 d2 d3 d4 d5 d6 d7
          have d0 : w4.cell? ⟨w.heap.size, 0, none⟩ = some (.int .i64 kc) := h4.cell 0
          have d1 : w4.cell? ⟨w.heap.size, 1, none⟩ = some (.string sc) := h4.cell 1
          have d2 : w4.cell? ⟨w.heap.size, 2, none⟩ = some (.int .i64 kt) := h4.cell 2
          have d3 : w4.cell? ⟨w.heap.size, 3, none⟩ = some (.string st) := h4.cell 3
          have d4 : w4.cell? ⟨w.heap.size, 4, none⟩ = some (.slice A es.length c) := h4.cell 4
          have d5 : w4.cell? ⟨w.heap.size, 5, none⟩ = some (.bool he) := h4.cell 5
          have d6 : w4.cell? ⟨w.heap.size, 6, none⟩ = some (.int .i64 ke) := h4.cell 6
          have d7 : w4.cell? ⟨w.heap.size, 7, none⟩ = some (.string se) := h4.cell 7
          have hbi := Lib.hid (buildIf56 kc kt ke sc st se A2 c2 es he false (w4.setCell ⟨w.heap.size, 4, none⟩ (.slice A2 es.length c2)) HX5.out z1 z2 z3 HL.out hn)
          clear h4 hX4 hge hb4 HB3 HX3 hcl hlt3 bb3 bb4
          go_wp2_with fail
          with_reducible refine (hbi.out).mono ?_
          rintro e6 w6 ⟨i1, rfl, hI1, hb6⟩
          have bb6 := bb5.trans (hb6.mono bb5.size)
          have HB6 := Lib.hid (HB5.out.below hb6 HB5.out.lt)
          have HX6 := Lib.hid (HX5.out.up hb6)
          clear HB5 HX5 hbi hb6 bb5 f4
          clear d0 d1 d2 d3 d4 d5 d6 d7
          have hst := Lib.hid (ifStr i1 (atomQ kc sc) (atomQ kt st) es none w6 hI1 HL.out (atom_wt' z1) (atom_wt' z2) (fun e h => by cases h) hn)
          have hln := ifT_len (atomQ kc sc) (atomQ kt st) es none HL.out (atom_wt' z1) (atom_wt' z2) (fun e h => by cases h) hn
          obtain ⟨S1, hS1, hs1⟩ : ∃ S : ByteArray, Hid (S.data.toList = ifT (atomQ kc sc) (atomQ kt st) es none) ∧ Hid (Calls Tryd.prog 35 #[.pointer (some ⟨i1, 0, none⟩)] w6 fun r w' => r = .returned (.string S) ∧ Below w6.heap.size w6 w') := ⟨_, Lib.hid rfl, hst⟩
          have zS1 : S1.size ≤ 200000000000 := by rw [← size_list, hS1.out]; exact hln
          clear hst hI1 hln
          go_wp2_with fail
          with_reducible refine (hs1.out).mono ?_
          rintro e7 w7 ⟨rfl, hb7⟩
          have bb7 := bb6.trans (hb7.mono bb6.size)
          have HB7 := Lib.hid (HB6.out.below hb7 HB6.out.lt)
          have HX7 := Lib.hid (HX6.out.up hb7)
          have hbi := Lib.hid (buildIf56 kc kt ke sc st se A2 c2 es he true w7 HX7.out z1 z2 z3 HL.out hn)
          clear HB6 HX6 hb7 bb6 hs1
          have d0 : w7.cell? ⟨w.heap.size, 0, none⟩ = some (.int .i64 kc) := HB7.out.cell 0
          have d1 : w7.cell? ⟨w.heap.size, 1, none⟩ = some (.string sc) := HB7.out.cell 1
          have d2 : w7.cell? ⟨w.heap.size, 2, none⟩ = some (.int .i64 kt) := HB7.out.cell 2
          have d3 : w7.cell? ⟨w.heap.size, 3, none⟩ = some (.string st) := HB7.out.cell 3
          have d4 : w7.cell? ⟨w.heap.size, 4, none⟩ = some (.slice A2 es.length c2) := HB7.out.cell 4
          have d5 : w7.cell? ⟨w.heap.size, 5, none⟩ = some (.bool he) := HB7.out.cell 5
          have d6 : w7.cell? ⟨w.heap.size, 6, none⟩ = some (.int .i64 ke) := HB7.out.cell 6
          have d7 : w7.cell? ⟨w.heap.size, 7, none⟩ = some (.string se) := HB7.out.cell 7
          go_wp2_with fail
          with_reducible refine (hbi.out).mono ?_
          rintro e8 w8 ⟨i2, rfl, hI2, hb8⟩
          have bb8 := bb7.trans (hb8.mono bb7.size)
          have HB8 := Lib.hid (HB7.out.below hb8 HB7.out.lt)
          have hst := Lib.hid (ifStr i2 (atomQ kc sc) (atomQ kt st) es (some (atomQ ke se)) w8 hI2 HL.out (atom_wt' z1) (atom_wt' z2) (fun e h => by injection h with h; subst h; exact atom_wt' z3) hn)
          have hln := ifT_len (atomQ kc sc) (atomQ kt st) es (some (atomQ ke se)) HL.out (atom_wt' z1) (atom_wt' z2) (fun e h => by injection h with h; subst h; exact atom_wt' z3) hn
          obtain ⟨S2, hS2, hs2⟩ : ∃ S : ByteArray, Hid (S.data.toList = ifT (atomQ kc sc) (atomQ kt st) es (some (atomQ ke se))) ∧ Hid (Calls Tryd.prog 35 #[.pointer (some ⟨i2, 0, none⟩)] w8 fun r w' => r = .returned (.string S) ∧ Below w8.heap.size w8 w') := ⟨_, Lib.hid rfl, hst⟩
          have zS2 : S2.size ≤ 200000000000 := by rw [← size_list, hS2.out]; exact hln
          clear hst hI2 hln HB7 HX7 hb8 bb7 hbi
          clear d0 d1 d2 d3 d4 d5 d6 d7
          go_wp2_with fail
          with_reducible refine (hs2.out).mono ?_
          rintro e9 w9 ⟨rfl, hb9⟩
          have bb9 := bb8.trans (hb9.mono bb8.size)
          have HB9 := Lib.hid (HB8.out.below hb9 HB8.out.lt)
          have hat := Lib.hid (atom_any ke se w9 z3)
          clear HB8 hb9 bb8 hs2
          have d6 : w9.cell? ⟨w.heap.size, 6, none⟩ = some (.int .i64 ke) := HB9.out.cell 6
          have d7 : w9.cell? ⟨w.heap.size, 7, none⟩ = some (.string se) := HB9.out.cell 7
          go_wp2_with fail
          with_reducible refine (hat.out).mono ?_
          rintro e10 w10 ⟨q, rfl, hQ, hb10⟩
          have bb10 := bb9.trans (hb10.mono bb9.size)
          have hqs := Lib.hid (strQ q (atomQ ke se) w10 hQ (by have := atomQ_wt ke se; omega))
          obtain ⟨S3, hS3, hs3⟩ : ∃ S : ByteArray, Hid (S.data.toList = outQ (atomQ ke se) []) ∧ Hid (Calls Tryd.prog 45 #[.pointer (some ⟨q, 0, none⟩)] w10 fun r w' => r = .returned (.string S) ∧ Below w10.heap.size w10 w') := ⟨_, Lib.hid rfl, hqs⟩
          have zS3 : S3.size ≤ 200000000000 := by
            have h1 := outQ0_len (atomQ ke se)
            have h2 := atomQ_wt ke se
            rw [← size_list, hS3.out]; omega
          clear hqs hQ hb10 bb9 hat d6 d7
          go_wp2_with fail
          with_reducible refine (hs3.out).mono ?_
          rintro e11 w11 ⟨rfl, hb11⟩
          have bb11 := bb10.trans (hb11.mono bb10.size)
          obtain ⟨x1, x2, x3⟩ := end_eq (S := S1) (hS1.out.trans (ifT_none _ _ _))
          obtain ⟨P, hP⟩ : ∃ P : ByteArray, Hid (S1.extract 0 (S1.size - 4) = P) := ⟨_, Lib.hid rfl⟩
          have HP : Hid (P.data.toList = headI (atomQ kc sc) (atomQ kt st) ++ rowT es) := by rw [← hP.out]; exact x2
          have zP : P.size ≤ 200000000000 := by
            have e : P.size = S1.size - 4 := by
              have h1 := congrArg List.length hS1.out
              have h2 := congrArg List.length HP.out
              rw [ifT_none] at h1
              simp only [size_list, List.length_append, List.length_cons, List.length_nil] at h1 h2
              omega
            omega
          have hP' := hP.out
          have i1 : (0 : Int) ≤ (S1.size : Int) - 4 := by omega
          have i2 : (S1.size : Int) - 4 ≤ (S1.size : Int) := by omega
          clear x2
          go_wp2_with fail
          go_ret
          exact ⟨ret_boolN (else_eq hS2.out HP.out hS3.out), bb11⟩
      · go_wp2_with fail
        go_ret
        exact ⟨rfl, bb2⟩
    · go_wp2_with fail
      go_ret
      exact ⟨rfl, bb1⟩
end Go.Proofs.YtooalmhelfaodaaDoor
