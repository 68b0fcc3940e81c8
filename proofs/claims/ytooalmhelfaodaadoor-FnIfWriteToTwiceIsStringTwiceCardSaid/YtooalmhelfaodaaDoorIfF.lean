/- What (*If).writeTo, (*IfElif).writeTo and String write. -/
import Derived.Test.YtooalmhelfaodaaDoorIfE
namespace Go.Proofs.YtooalmhelfaodaaDoor
open Go.RowKit
set_option maxRecDepth 100000
set_option linter.unusedVariables false
set_option linter.unusedSimpArgs false
theorem gpQ_blank (t : Qu) (m : List UInt8) : gpQ t (m ++ [32]) = [] := by
  induction t with
  | nothing => rfl
  | leaf x => cases x <;> simp [gpQ, gpL, gap_blank]
  | bin a op pat b ih => exact ih
theorem outQ_sp (t : Qu) (m : List UInt8) : outQ t (m ++ [32]) = m ++ [32] ++ outQ t [] := by
  rw [outQ_pre, gpQ_blank]; simp
theorem Bd.of_eq {B b : Nat} {l l' : List UInt8} {w : World} (h : Bd B b l w) (e : l' = l) : Bd B b l' w := by rw [e]; exact h
theorem outQ0_len (t : Qu) : (outQ t []).length ≤ t.wt := by have := outQ_len t []; simpa using this
/-- a query behind a blank -/
theorem query_sp (B b q : Nat) (t : Qu) (l m : List UInt8) (w : World) (h : Bd B b l w) (e : l = m ++ [32]) (hq : QuIs w B q t) (hl : l.length + t.wt + 12 ≤ 70368744177664) :
    Calls Tryd.prog 66 #[.pointer (some ⟨q, 0, none⟩), .pointer (some ⟨b, 0, none⟩)] w (Wrote B b (l ++ outQ t []) w) := by
  have hh := query_any B b t q l w h hq hl
  rw [e, outQ_sp, ← e] at hh
  exact hh
def thenT : List UInt8 := [32, 116, 104, 101, 110, 32]
def elT (x : Qu × Qu) : List UInt8 := [101, 108, 105, 102, 32] ++ outQ x.1 [] ++ thenT ++ outQ x.2 []
theorem elT_len (x : Qu × Qu) : (elT x).length ≤ x.1.wt + x.2.wt + 11 := by
  have h1 := outQ0_len x.1
  have h2 := outQ0_len x.2
  simp only [elT, thenT, List.length_append, List.length_cons, List.length_nil]
  omega
set_option maxHeartbeats 2000000 in
theorem elif_any (B b e : Nat) (x : Qu × Qu) (l : List UInt8) (w : World) (h : Bd B b l w) (hx : ElIs w B e x) (hl : l.length + x.1.wt + x.2.wt + 40 ≤ 70368744177664) :
    Calls Tryd.prog 74 #[.pointer (some ⟨e, 0, none⟩), .pointer (some ⟨b, 0, none⟩)] w (Wrote B b (l ++ elT x) w) := by
  obtain ⟨he, qa, qb, hB, ha, hb⟩ := hx
  have HB := Lib.hid hB
  have HA := Lib.hid ha
  have HC := Lib.hid hb
  have l1 := outQ0_len x.1
  have hj := Lib.hid (wStr B b l ⟨#[101, 108, 105, 102, 32]⟩ w h (by show _ + 5 ≤ _; omega))
  clear hB ha hb h
  go_enter Tryd.func74, Tryd.ntmps74
  go_wp2_with fail
  with_reducible refine (hj.out).mono ?_
  rintro e1 w1 ⟨rfl, h1, hb1⟩
  have d0 : w1.cell? ⟨e, 0, none⟩ = some (.pointer (some ⟨qa, 0, none⟩)) := (hb1.cell (p := ⟨e, 0, none⟩) he).trans (HB.out.cell 0)
  have hq := Lib.hid (query_sp B b qa x.1 _ (l ++ [101, 108, 105, 102]) w1 h1 (by simp) (HA.out.below hb1) (by rw [List.length_append]; show _ + 5 + _ + 12 ≤ _; omega))
  clear h1 hj
  go_wp2_with fail
  with_reducible refine (hq.out).mono ?_
  rintro e2 w2 ⟨rfl, h2, hb2'⟩
  have hb2 := hb1.trans hb2'
  have ht := Lib.hid (wStr B b _ ⟨#[32, 116, 104, 101, 110, 32]⟩ w2 h2 (by simp only [List.length_append]; show _ + 5 + _ + 6 ≤ _; omega))
  clear h2 hq d0
  go_wp2_with fail
  with_reducible refine (ht.out).mono ?_
  rintro e3 w3 ⟨rfl, h3, hb3'⟩
  have hb3 := hb2.trans hb3'
  have d1 : w3.cell? ⟨e, 1, none⟩ = some (.pointer (some ⟨qb, 0, none⟩)) := (hb3.cell (p := ⟨e, 1, none⟩) he).trans (HB.out.cell 1)
  have hq := Lib.hid (query_sp B b qb x.2 _ (l ++ [101, 108, 105, 102, 32] ++ outQ x.1 [] ++ [32, 116, 104, 101, 110]) w3 h3 (by simp) (HC.out.below hb3) (by simp only [List.length_append]; show _ + 5 + _ + 6 + _ + 12 ≤ _; omega))
  clear h3 ht
  go_wp2_with fail
  with_reducible refine (hq.out).mono ?_
  rintro e4 w4 ⟨rfl, h4, hb4⟩
  go_wp2_with fail
  go_end0
  exact ⟨rfl, h4.of_eq (by simp [elT, thenT]), hb3.trans hb4⟩
def rowT (es : List Br) : List UInt8 := es.flatMap fun x => [32] ++ elT (brQ x)
theorem rowT_next {es : List Br} {j : Nat} {x : Br} (h : es[j]? = some x) : rowT (es.take (j + 1)) = rowT (es.take j) ++ ([32] ++ elT (brQ x)) := by
  unfold rowT
  rw [List.take_add_one, h]
  simp
theorem brQ_wt {x : Br} (h : x.le) : (brQ x).1.wt ≤ 1048608 ∧ (brQ x).2.wt ≤ 1048608 := by
  have h1 := atomQ_wt x.k1 x.s1
  have h2 := atomQ_wt x.k2 x.s2
  exact ⟨by have := h.1; show (atomQ x.k1 x.s1).wt ≤ _; omega, by have := h.2; show (atomQ x.k2 x.s2).wt ≤ _; omega⟩
theorem rowT_len (es : List Br) (h : ∀ x ∈ es, x.le) : (rowT es).length ≤ 2097300 * es.length := by
  induction es with
  | nil => simp [rowT]
  | cons x r ih =>
    have h1 := ih (fun y hy => h y (List.mem_cons_of_mem _ hy))
    have h2 := elT_len (brQ x)
    have h3 := brQ_wt (h x (List.mem_cons_self))
    have e : rowT (x :: r) = ([32] ++ elT (brQ x)) ++ rowT r := by simp [rowT]
    rw [e]
    simp only [List.length_append, List.length_cons, List.length_nil]
    omega
def elseT : Option Qu → List UInt8
  | none => []
  | some e => [32, 101, 108, 115, 101, 32] ++ outQ e []
def headI (c t : Qu) : List UInt8 := [105, 102, 32] ++ outQ c [] ++ thenT ++ outQ t []
def ifT (c t : Qu) (es : List Br) (el : Option Qu) : List UInt8 := headI c t ++ rowT es ++ elseT el ++ [32, 101, 110, 100]
set_option maxHeartbeats 4000000 in
theorem if_any (B b i : Nat) (c t : Qu) (es : List Br) (el : Option Qu) (l : List UInt8) (w : World) (h : Bd B b l w) (hI : IfIs w B i c t es el) (hle : ∀ x ∈ es, x.le) (hc : c.wt ≤ 1048700) (ht : t.wt ≤ 1048700) (hel : ∀ e, el = some e → e.wt ≤ 1048700) (hn : es.length ≤ 65536) (hl : l.length ≤ 1000000000000) :
    Calls Tryd.prog 62 #[.pointer (some ⟨i, 0, none⟩), .pointer (some ⟨b, 0, none⟩)] w (Wrote B b (l ++ ifT c t es el) w) := by
  obtain ⟨hi, qc, qt, A, n, cap, v, hB, rfl, hQc, hQt, hR, hO⟩ := hI
  have HB := Lib.hid hB
  have HC := Lib.hid hQc
  have HT := Lib.hid hQt
  have HR := Lib.hid hR
  have HO := Lib.hid hO
  have HL := Lib.hid hle
  have HE := Lib.hid hel
  have l1 := outQ0_len c
  have l2 := outQ0_len t
  have hj := Lib.hid (wStr B b l ⟨#[105, 102, 32]⟩ w h (by show _ + 3 ≤ _; omega))
  clear hB hQc hQt hR hO h hle hel
  go_enter Tryd.func62, Tryd.ntmps62
  go_wp2_with fail
  with_reducible refine (hj.out).mono ?_
  rintro e1 w1 ⟨rfl, h1, hb1⟩
  have d0 : w1.cell? ⟨i, 0, none⟩ = some (.pointer (some ⟨qc, 0, none⟩)) := (hb1.cell (p := ⟨i, 0, none⟩) hi).trans (HB.out.cell 0)
  have hq := Lib.hid (query_sp B b qc c _ (l ++ [105, 102]) w1 h1 (by simp) (HC.out.below hb1) (by rw [List.length_append]; show _ + 3 + _ + 12 ≤ _; omega))
  clear h1 hj
  go_wp2_with fail
  with_reducible refine (hq.out).mono ?_
  rintro e2 w2 ⟨rfl, h2, hb2'⟩
  have hb2 := hb1.trans hb2'
  have hth := Lib.hid (wStr B b _ ⟨#[32, 116, 104, 101, 110, 32]⟩ w2 h2 (by simp only [List.length_append]; show _ + 3 + _ + 6 ≤ _; omega))
  clear h2 hq d0
  go_wp2_with fail
  with_reducible refine (hth.out).mono ?_
  rintro e3 w3 ⟨rfl, h3, hb3'⟩
  have hb3 := hb2.trans hb3'
  have d1 : w3.cell? ⟨i, 1, none⟩ = some (.pointer (some ⟨qt, 0, none⟩)) := (hb3.cell (p := ⟨i, 1, none⟩) hi).trans (HB.out.cell 1)
  have hq := Lib.hid (query_sp B b qt t _ (l ++ [105, 102, 32] ++ outQ c [] ++ [32, 116, 104, 101, 110]) w3 h3 (by simp) (HT.out.below hb3) (by simp only [List.length_append]; show _ + 3 + _ + 6 + _ + 12 ≤ _; omega))
  clear h3 hth
  go_wp2_with fail
  with_reducible refine (hq.out).mono ?_
  rintro e4 w4 ⟨rfl, h4, hb4'⟩
  have hb4 := hb3.trans hb4'
  have d2 : w4.cell? ⟨i, 2, none⟩ = some (.slice A es.length cap) := (hb4.cell (p := ⟨i, 2, none⟩) hi).trans (HB.out.cell 2)
  have HW := Lib.hid (h4.of_eq (l' := l ++ headI c t) (by simp [headI, thenT]))
  have hhl : (headI c t).length ≤ 2097500 := by
    simp only [headI, thenT, List.length_append, List.length_cons, List.length_nil]; omega
  clear h4 hq d1 l1 l2
  go_wp2_with fail
  go_loopw [27] (fun iv wr => ∃ j : Nat, iv = .int .i64 j ∧ j ≤ es.length ∧ Hid (Bd B b (l ++ headI c t ++ rowT (es.take j)) wr) ∧ Below B w wr) (fun iv _ => es.length - (intOf iv).toNat)
  case atStart => exact ⟨0, rfl, Nat.zero_le _, Lib.hid (HW.out.of_eq (by simp [rowT])), hb4⟩
  case round =>
    obtain ⟨j, rfl, hj, hW, hbw⟩ := hrel
    clear HW
    by_cases hlt : j < es.length
    · obtain ⟨g, e, rfl, hg, c0, hE⟩ := (HR.out.below hbw) j _ (List.getElem?_eq_getElem hlt)
      have hlx := HL.out _ (List.getElem_mem hlt)
      have HG := Lib.hid (List.getElem?_eq_getElem hlt)
      obtain ⟨x, hxx⟩ : ∃ x, Hid (es[j] = x) := ⟨_, Lib.hid rfl⟩
      rw [hxx.out] at hE hlx HG
      obtain ⟨w1', w2'⟩ := brQ_wt hlx
      have hrl := rowT_len (es.take j) (fun y hy => HL.out y (List.mem_of_mem_take hy))
      rw [List.length_take] at hrl
      have hrl2 : (rowT (es.take j)).length ≤ 137500000000 := by
        have : min j es.length ≤ 65536 := by omega
        omega
      have hgl : g < wr.heap.size := Nat.lt_of_lt_of_le hg hW.out.2
      have j0 : (0 : Int) ≤ j := by omega
      have j1 : (j : Int) < es.length := by omega
      have hsp := Lib.hid (wByte B b _ 32 32 wr (by decide) hW.out (by simp only [List.length_append]; omega))
      have HE' := Lib.hid hE
      have HRX := Lib.hid (rowT_next HG.out)
      clear hE hxx hlx hrl HG
      go_wp2_with fail
      with_reducible refine (hsp.out).mono ?_
      rintro e5 w5 ⟨rfl, h5, hb5⟩
      have hel := Lib.hid (elif_any B b e (brQ x) _ w5 h5 (HE'.out.below hb5) (by simp only [List.length_append, List.length_cons, List.length_nil]; omega))
      clear h5 hsp c0
      go_wp2_with fail
      with_reducible refine (hel.out).mono ?_
      rintro e6 w6 ⟨rfl, h6, hb6⟩
      have H6 := Lib.hid (h6.of_eq (l' := l ++ headI c t ++ rowT (es.take (j + 1))) (by rw [HRX.out]; simp))
      clear h6 hel
      go_wp2_with fail
      go_roundw
      case rel => exact ⟨j + 1, by go_num, by omega, H6, (hbw.trans hb5).trans hb6⟩
      case measure => simp [intOf]; omega
    · obtain rfl : j = es.length := by omega
      rw [List.take_length] at hW
      have hrl := rowT_len es HL.out
      have d3 : wr.cell? ⟨i, 3, none⟩ = some v := (hbw.cell (p := ⟨i, 3, none⟩) hi).trans (HB.out.cell 3)
      clear d2
      cases el with
      | none =>
        have hv := HO.out
        unfold OptIs at hv
        subst hv
        have hq := Lib.hid (wStr B b _ ⟨#[32, 101, 110, 100]⟩ wr hW.out (by simp only [List.length_append]; show _ + 4 ≤ _; omega))
        clear hW
        go_wp2_with fail
        with_reducible refine (hq.out).mono ?_
        rintro e7 w7 ⟨rfl, h7, hb7⟩
        go_wp2_with fail
        go_end0
        exact ⟨rfl, h7.of_eq (by simp [ifT, elseT]), hbw.trans hb7⟩
      | some el =>
        obtain ⟨qe, hv, hQe⟩ := HO.out
        subst hv
        have HQ := Lib.hid hQe
        have hew := HE.out _ rfl
        have l3 := outQ0_len el
        have hq := Lib.hid (wStr B b _ ⟨#[32, 101, 108, 115, 101, 32]⟩ wr hW.out (by simp only [List.length_append]; show _ + 6 ≤ _; omega))
        clear hW hQe
        go_wp2_with fail
        with_reducible refine (hq.out).mono ?_
        rintro e7 w7 ⟨rfl, h7, hb7'⟩
        have hb7 := hbw.trans hb7'
        have d3 : w7.cell? ⟨i, 3, none⟩ = some (.pointer (some ⟨qe, 0, none⟩)) := (hb7.cell (p := ⟨i, 3, none⟩) hi).trans (HB.out.cell 3)
        have hqe := Lib.hid (query_sp B b qe el _ (l ++ headI c t ++ rowT es ++ [32, 101, 108, 115, 101]) w7 h7 (by simp) (HQ.out.below hb7) (by simp only [List.length_append]; show _ + _ + _ + 6 + _ + 12 ≤ _; omega))
        clear h7 hq
        go_wp2_with fail
        with_reducible refine (hqe.out).mono ?_
        rintro e8 w8 ⟨rfl, h8, hb8'⟩
        have hb8 := hb7.trans hb8'
        have hq := Lib.hid (wStr B b _ ⟨#[32, 101, 110, 100]⟩ w8 h8 (by simp only [List.length_append]; show _ + _ + _ + 6 + _ + 4 ≤ _; omega))
        clear h8 hqe
        go_wp2_with fail
        with_reducible refine (hq.out).mono ?_
        rintro e9 w9 ⟨rfl, h9, hb9⟩
        go_wp2_with fail
        go_end0
        exact ⟨rfl, h9.of_eq (by simp [ifT, elseT]), hb8.trans hb9⟩
theorem ifT_len (c t : Qu) (es : List Br) (el : Option Qu) (hle : ∀ x ∈ es, x.le) (hc : c.wt ≤ 1048700) (ht : t.wt ≤ 1048700) (hel : ∀ e, el = some e → e.wt ≤ 1048700) (hn : es.length ≤ 65536) : (ifT c t es el).length ≤ 200000000000 := by
  have l1 := outQ0_len c
  have l2 := outQ0_len t
  have l3 := rowT_len es hle
  have l4 : (elseT el).length ≤ 1048800 := by
    cases el with
    | none => simp [elseT]
    | some e => have := outQ0_len e; have := hel e rfl; simp only [elseT, List.length_append, List.length_cons, List.length_nil]; omega
  simp only [ifT, headI, thenT, List.length_append, List.length_cons, List.length_nil]
  omega
set_option maxHeartbeats 1000000 in
theorem ifStr (i : Nat) (c t : Qu) (es : List Br) (el : Option Qu) (w : World) (hI : IfIs w w.heap.size i c t es el) (hle : ∀ x ∈ es, x.le) (hc : c.wt ≤ 1048700) (ht : t.wt ≤ 1048700) (hel : ∀ e, el = some e → e.wt ≤ 1048700) (hn : es.length ≤ 65536) :
    Calls Tryd.prog 35 #[.pointer (some ⟨i, 0, none⟩)] w fun r w' => r = .returned (.string ⟨(ifT c t es el).toArray⟩) ∧ Below w.heap.size w w' := by
  have hb0 : Below w.heap.size w (w.alloc (.cells #[.pointer none, .slice none 0 0] 95)) := (Below.refl _ _).alloc (Nat.le_refl _) _
  have hK := Lib.hid (if_any w.heap.size w.heap.size i c t es el [] _ (Bd.fresh w) (hI.below hb0) hle hc ht hel hn (by simp))
  clear hI hle hel
  go_enter Tryd.func35, Tryd.ntmps35
  go_wp2_with fail
  with_reducible refine (hK.out).mono ?_
  rintro e1 w1 ⟨rfl, h1, hb1⟩
  go_wp2_with fail
  with_reducible refine (bStr _ _ _ _ h1).mono ?_
  rintro e2 w2 ⟨rfl, h2, hb2⟩
  go_wp2_with fail
  go_ret
  exact ⟨rfl, (hb0.trans hb1).trans hb2⟩
set_option maxHeartbeats 1000000 in
theorem ifAfter (i : Nat) (c t : Qu) (es : List Br) (el : Option Qu) (s : ByteArray) (w : World) (hI : IfIs w w.heap.size i c t es el) (hle : ∀ x ∈ es, x.le) (hc : c.wt ≤ 1048700) (ht : t.wt ≤ 1048700) (hel : ∀ e, el = some e → e.wt ≤ 1048700) (hn : es.length ≤ 65536) (hs : s.size ≤ 1000000000000) :
    Calls Tryd.prog 36 #[.pointer (some ⟨i, 0, none⟩), .string s] w fun r w' => r = .returned (.string ⟨(s.data.toList ++ ifT c t es el).toArray⟩) ∧ Below w.heap.size w w' := by
  have hb0 : Below w.heap.size w (w.alloc (.cells #[.pointer none, .slice none 0 0] 95)) := (Below.refl _ _).alloc (Nat.le_refl _) _
  have hS := Lib.hid (wStr w.heap.size w.heap.size [] s _ (Bd.fresh w) (by simp; omega))
  have HI := Lib.hid (hI.below hb0)
  have HL := Lib.hid hle
  have HE := Lib.hid hel
  clear hI hle hel
  go_enter Tryd.func36, Tryd.ntmps36
  go_wp2_with fail
  with_reducible refine (hS.out).mono ?_
  rintro e1 w1 ⟨rfl, h1, hb1⟩
  go_wp2_with fail
  with_reducible refine (if_any _ _ i c t es el _ _ h1 (HI.out.below hb1) HL.out hc ht HE.out hn (by rw [List.nil_append, size_list]; exact hs)).mono ?_
  rintro e2 w2 ⟨rfl, h2, hb2⟩
  go_wp2_with fail
  with_reducible refine (bStr _ _ _ _ h2).mono ?_
  rintro e3 w3 ⟨rfl, h3, hb3⟩
  go_wp2_with fail
  go_ret
  exact ⟨rfl, ((hb0.trans hb1).trans hb2).trans hb3⟩
end Go.Proofs.YtooalmhelfaodaaDoor
