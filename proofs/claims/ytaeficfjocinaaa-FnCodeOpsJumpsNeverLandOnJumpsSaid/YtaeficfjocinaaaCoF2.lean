/- The table of final targets and the table of wanted ops: contracts. -/
import Derived.Test.YtaeficfjocinaaaCoF
namespace Go.Proofs.Ytaeficfjocinaaa
open Go.RowKit
set_option maxRecDepth 100000
set_option linter.unusedVariables false
section
variable {n p : Nat} {o x f : Nat → Int}
theorem P_not {z : Int} (h : isP z = true) : z ≠ 2 ∧ z ≠ 4 ∧ isJ z = false := by
  rw [isP_iff] at h
  exact ⟨by omega, by omega, by rw [isJ_no]; omega⟩
theorem want_a (hp : isP (o p) = true) (h1 : p + 1 < n) (h : o (p + 1) = 2 ∨ o (p + 1) = 4) : want n o x p = 0 := by unfold want; rw [if_pos ⟨hp, h1, h⟩]
theorem want_b (hp : isP (o p) = true) (h : ¬ (p + 1 < n ∧ (o (p + 1) = 2 ∨ o (p + 1) = 4))) : want n o x p = o p := by
  obtain ⟨a, b, c⟩ := P_not hp
  unfold want
  rw [if_neg (fun e => h e.2), if_neg (fun e => a e.1), if_neg (fun e => b e.1), if_neg (fun e => by rw [c] at e; cases e.1)]
theorem want_c (h : o p = 2) (h0 : 0 < p) (hu : isP (o (p - 1)) = true) : want n o x p = 0 := by
  unfold want
  rw [if_neg (fun e => by rw [h] at e; cases e.1), if_pos ⟨h, h0, hu⟩]
theorem want_d (h : o p = 2) (hu : ¬ (0 < p ∧ isP (o (p - 1)) = true)) : want n o x p = 2 := by
  unfold want
  rw [if_neg (fun e => by rw [h] at e; cases e.1), if_neg (fun e => hu e.2), if_neg (fun e => hu e.2), if_neg (fun e => by rw [h] at e; cases e.1), h]
theorem want_e (h : o p = 4) (h0 : 0 < p) (hu : isP (o (p - 1)) = true) : want n o x p = 1 := by
  unfold want
  rw [if_neg (fun e => by rw [h] at e; cases e.1), if_neg (fun e => by rw [h] at e; exact absurd e.1 (by decide)), if_pos ⟨h, h0, hu⟩]
theorem want_f (h : o p = 4) (hu : ¬ (0 < p ∧ isP (o (p - 1)) = true)) : want n o x p = 4 := by
  unfold want
  rw [if_neg (fun e => by rw [h] at e; cases e.1), if_neg (fun e => hu e.2), if_neg (fun e => hu e.2), if_neg (fun e => by rw [h] at e; cases e.1), h]
theorem want_g (hp : isP (o p) = false) (h2 : o p ≠ 2) (h4 : o p ≠ 4) (hj : isJ (o p) = true) (hx : x p = p + 1) : want n o x p = 0 := by
  unfold want
  rw [if_neg (fun e => by rw [hp] at e; cases e.1), if_neg (fun e => h2 e.1), if_neg (fun e => h4 e.1), if_pos ⟨hj, hx⟩]
theorem want_h (hp : isP (o p) = false) (h2 : o p ≠ 2) (h4 : o p ≠ 4) (hx : ¬ (isJ (o p) = true ∧ x p = p + 1)) : want n o x p = o p := by
  unfold want
  rw [if_neg (fun e => by rw [hp] at e; cases e.1), if_neg (fun e => h2 e.1), if_neg (fun e => h4 e.1), if_neg hx]
theorem fin_back {j : Nat} (hj : isJ (o p) = true) (hx : x p = j) (hl : j ≤ p) : finEq o x f p = if o j = 15 then x j else x p := by
  unfold finEq
  rw [if_neg (by rw [hj, hx]; simp; omega), hx, if_pos (by omega), Int.toNat_natCast]
theorem fin_fwd {j : Nat} (hj : isJ (o p) = true) (hx : x p = j) (hl : p < j) (hne : j ≠ p + 1) : finEq o x f p = if o j = 15 ∧ x j ≠ j + 1 then f j else x p := by
  unfold finEq
  rw [if_neg (by rw [hj, hx]; simp; omega), hx, if_neg (by omega), Int.toNat_natCast]
/-- the table under way: places from k on are filled -/
def FinAt (n : Nat) (f : Nat → Int) (arr : Array Value) (k : Nat) : Prop := arr.size = n ∧ ∀ q, k ≤ q → q < n → arr[q]? = some (.int .i64 (f q))
theorem FinAt.set1 {arr : Array Value} {m : Nat} {v : Int} (h : FinAt n f arr (m + 1)) (hm : m < n) (hv : f m = v) : FinAt n f (arr.setIfInBounds m (.int .i64 v)) m := by
  refine ⟨by rw [Array.size_setIfInBounds]; exact h.1, fun q h1 h2 => ?_⟩
  by_cases e : q = m
  · subst e
    rw [Array.getElem?_setIfInBounds_self_of_lt (by rw [h.1]; exact hm), hv]
  · rw [Array.getElem?_setIfInBounds_ne (by omega)]
    exact h.2 q (by omega) h2
theorem FinAt.set2 {arr : Array Value} {m : Nat} {u : Value} {v : Int} (h : FinAt n f arr (m + 1)) (hm : m < n) (hv : f m = v) : FinAt n f ((arr.setIfInBounds m u).setIfInBounds m (.int .i64 v)) m := by
  refine FinAt.set1 ⟨by rw [Array.size_setIfInBounds]; exact h.1, fun q h1 h2 => ?_⟩ hm hv
  rw [Array.getElem?_setIfInBounds_ne (by omega)]
  exact h.2 q (by omega) h2
end
set_option maxHeartbeats 4000000 in
theorem fwd_any (A A' : Option Addr) (n c c' B : Nat) (o x : Nat → Int) (w : World) (ho : FRd w B A n o) (hx : FRd w B A' n x) (hn : n ≤ 1000000) :
    Calls Try.prog 39 #[.slice A n c, .slice A' n c'] w (BoolIf (Guard n o x ∧ Fwd n o x) w) := by
  have hw := Lib.hid (wide_any A A' n c c' B o x w ho hx hn)
  have HO := Lib.hid ho
  have HX := Lib.hid hx
  clear ho hx
  go_enter Try.func39, Try.ntmps39
  go_wp2_with fail
  with_reducible refine (hw.out).mono ?_
  rintro e1 w1 ⟨b, rfl, rfl, hb⟩
  have HB := Lib.hid hb
  clear hb hw
  cases b
  · go_wp2_with fail
    go_ret
    exact ⟨false, rfl, rfl, fun e => by cases e⟩
  · go_wp2_with fail
    go_loopg [5] n (fun gk i wr => ∃ j : Nat, gk = n - j ∧ j ≤ n ∧ i = .int .i64 j ∧ wr = w ∧ ∀ p, p < j → isJ (o p) = true → (p : Int) < x p)
    case atStart => exact ⟨0, rfl, by omega, rfl, rfl, fun p hp => absurd hp (by omega)⟩
    case round =>
      obtain ⟨j, rfl, hj, rfl, rfl, hI⟩ := hrel
      have HI := Lib.hid hI
      clear hI
      by_cases hlt : j < n
      · obtain ⟨g, k, rfl, _, lg, hco⟩ := HO.out (by omega)
        obtain ⟨g', k', rfl, _, lg', hcx⟩ := HX.out (by omega)
        have c1 := hco j hlt
        have c2 := hcx j hlt
        clear hco hcx
        obtain ⟨u, hu⟩ : ∃ u, Hid (o j = u) := ⟨_, Lib.hid rfl⟩
        obtain ⟨v, hv⟩ : ∃ v, Hid (x j = v) := ⟨_, Lib.hid rfl⟩
        rw [hu.out] at c1
        rw [hv.out] at c2
        have j0 : (0 : Int) ≤ j := by omega
        have j1 : (j : Int) < n := by omega
        have go : (isJ u = true → (j : Int) < v) → ∀ p, p < j + 1 → isJ (o p) = true → (p : Int) < x p := by
          intro h p hp hjp
          by_cases e : p = j
          · subst e
            rw [hu.out] at hjp
            rw [hv.out]
            exact h hjp
          · exact HI.out p (by omega) hjp
        have GO := Lib.hid go
        clear go
        cases hJ : isJ u
        case false =>
          have hcj := Lib.hid (isJ_c u false wr hJ)
          have HJ := Lib.hid hJ
          clear hJ
          go_wp2_with fail
          with_reducible refine (hcj.out).mono ?_
          rintro e2 w2 ⟨rfl, rfl⟩
          go_wp2_with fail
          go_roundg (n - (j + 1))
          case measure => omega
          case rel => exact ⟨j + 1, rfl, by omega, by go_num, rfl, GO.out (fun e => by rw [HJ.out] at e; cases e)⟩
        case true =>
          have hcj := Lib.hid (isJ_c u true wr hJ)
          clear hJ
          by_cases h1 : v ≤ j
          · go_wp2_with fail
            with_reducible refine (hcj.out).mono ?_
            rintro e2 w2 ⟨rfl, rfl⟩
            go_wp2_with fail
            go_ret
            exact ⟨false, rfl, rfl, fun e => by cases e⟩
          · go_wp2_with fail
            with_reducible refine (hcj.out).mono ?_
            rintro e2 w2 ⟨rfl, rfl⟩
            go_wp2_with fail
            go_roundg (n - (j + 1))
            case measure => omega
            case rel => exact ⟨j + 1, rfl, by omega, by go_num, rfl, GO.out (fun _ => by omega)⟩
      · go_wp2_with fail
        go_ret
        exact ⟨true, rfl, rfl, fun _ => ⟨HB.out (by first | rfl | trivial), fun p hp => HI.out p (by omega)⟩⟩
def Fins (n : Nat) (f : Nat → Int) (w : World) (e : Ending) (w' : World) : Prop := ∃ arr, e = .returned (.slice (some ⟨w.heap.size, 0, none⟩) n n) ∧ Blk w' w.heap.size 3 arr ∧ FinAt n f arr 0 ∧ Below w.heap.size w w'
set_option maxHeartbeats 8000000 in
theorem fin_any (A A' : Option Addr) (n c c' : Nat) (o x f : Nat → Int) (w : World) (ho : FRd w w.heap.size A n o) (hx : FRd w w.heap.size A' n x) (hG : Guard n o x) (hF : FinOK n o x f) (hn : n ≤ 1000000) :
    Calls Try.prog 30 #[.slice A n c, .slice A' n c'] w (Fins n f w) := by
  have HO := Lib.hid ho
  have HX := Lib.hid hx
  have HG := Lib.hid hG
  have HF := Lib.hid hF
  clear ho hx hG hF
  obtain ⟨i0, hi, hz0, hz1, hz2⟩ := info_parts info_cloneInts
  have hmk : ∀ W : World, (Instr.makeSlice 22 (.int .i64 (n : Int)) (.int .i64 (n : Int))).run Try.prog W = .ok (.slice (some ⟨W.heap.size, 0, none⟩) n n) (W.alloc (.cells (madeCells #[.int .i64 0] n) 3)) := by
    intro W
    have h := run_make_rowN (P := Try.prog) 22 3 i0 _ Try.underlying22 hi hz0 .i64 .i64 n n (Nat.le_refl _) (by rw [hz2]; omega) (by omega) W
    rw [hz1, Nat.mul_one] at h
    exact h
  clear hi hz0 hz1 hz2 i0
  go_enter Try.func30, Try.ntmps30
  go_wp2_with fail
  clear hmk
  go_loopg [7] n (fun gk i wr => ∃ arr, gk ≤ n ∧ i = .int .i64 ((gk : Int) - 1) ∧ Blk wr w.heap.size 3 arr ∧ FinAt n f arr gk ∧ Below w.heap.size w wr)
  case atStart => exact ⟨_, Nat.le_refl _, rfl, Blk.new _ _ _, ⟨size_madeCells _ _, fun q h1 h2 => absurd h2 (by omega)⟩, (Below.refl _ _).alloc (Nat.le_refl _) _⟩
  case round =>
    obtain ⟨arr, hkn, rfl, hB, hFA, hbw⟩ := hrel
    have HFA := Lib.hid hFA
    have HBW := Lib.hid hbw
    by_cases h0 : gk = 0
    · subst h0
      have HBB := Lib.hid hB
      clear hFA hbw hB
      go_wp2_with fail
      go_ret
      exact ⟨arr, rfl, HBB.out, HFA.out, HBW.out⟩
    · obtain ⟨m, rfl⟩ : ∃ m, gk = m + 1 := ⟨gk - 1, by omega⟩
      have hm : m < n := by omega
      have e1 : (((m + 1 : Nat) : Int) - 1) = (m : Int) := by omega
      rw [e1]
      clear e1 h0
      obtain ⟨g, k, rfl, hgB, lg0, hco⟩ := HO.out (by omega)
      obtain ⟨g', k', rfl, hgB', lg0', hcx⟩ := HX.out (by omega)
      have rd : ∀ i, i < n → wr.cell? ⟨g, k + i, none⟩ = some (.int .i64 (o i)) := fun i hi => (hbw.cell (p := ⟨g, k + i, none⟩) hgB).trans (hco i hi)
      have rx : ∀ i, i < n → wr.cell? ⟨g', k' + i, none⟩ = some (.int .i64 (x i)) := fun i hi => (hbw.cell (p := ⟨g', k' + i, none⟩) hgB').trans (hcx i hi)
      have c1 := rd m hm
      have c2 := rx m hm
      have RD := Lib.hid rd
      have RX := Lib.hid rx
      have lg : g < wr.heap.size := Nat.lt_of_lt_of_le hgB hbw.size
      have lg' : g' < wr.heap.size := Nat.lt_of_lt_of_le hgB' hbw.size
      have ng : g ≠ w.heap.size := by omega
      have ng' : g' ≠ w.heap.size := by omega
      obtain ⟨q0, cq⟩ : ∃ u, wr.cell? ⟨w.heap.size, m, none⟩ = some u := ⟨_, (hB.cell m).trans (Array.getElem?_eq_getElem (by rw [hFA.1]; exact hm))⟩
      have fq := hB.frozen m
      have hGl := hB.lt
      have cG : ∀ q, m < q → q < n → wr.cell? ⟨w.heap.size, q, none⟩ = some (.int .i64 (f q)) := fun q h1 h2 => (hB.cell q).trans (HFA.out.2 q h1 h2)
      have HCG := Lib.hid cG
      have HBB := Lib.hid hB
      have m0 : (0 : Int) ≤ m := by omega
      have m1 : (m : Int) < n := by omega
      have hgx := HG.out.2 m hm
      obtain ⟨z, hz⟩ : ∃ z, Hid (o m = z) := ⟨_, Lib.hid rfl⟩
      obtain ⟨xm, hxm⟩ : ∃ xm, Hid (x m = xm) := ⟨_, Lib.hid rfl⟩
      rw [hz.out] at c1 hgx
      rw [hxm.out] at c2 hgx
      have fm := HF.out m hm
      have HFM := Lib.hid fm
      clear hco hcx rd rx hB hFA hbw cG fm
      cases hJ : isJ z
      case false =>
        have hcj := Lib.hid fun W => isJ_c z false W hJ
        have HE := Lib.hid (HFA.out.set1 (v := xm) hm (by rw [HFM.out, fin_no (.inl (by rw [hz.out]; exact hJ)), hxm.out]))
        clear hJ hgx
        go_wp2_with fail
        with_reducible refine (hcj.out _).mono ?_
        rintro e2 w2 ⟨rfl, rfl⟩
        go_wp2_with fail
        go_roundg m
        case measure => omega
        case rel => exact ⟨_, by omega, by go_num, HBB.out.set_ m _, HE.out, HBW.out.setCell (Nat.le_refl _) _⟩
      case true =>
        have hcj := Lib.hid fun W => isJ_c z true W hJ
        have hgx := hgx hJ
        have HJ : Hid (isJ (o m) = true) := by rw [hz.out]; exact hJ
        clear hJ
        by_cases hx1 : xm = m + 1
        · have HE := Lib.hid (HFA.out.set1 (v := xm) hm (by rw [HFM.out, fin_no (.inr (by rw [hxm.out]; exact hx1)), hxm.out]))
          subst hx1
          clear hgx
          go_wp2_with fail
          with_reducible refine (hcj.out _).mono ?_
          rintro e2 w2 ⟨rfl, rfl⟩
          go_wp2_with fail
          go_roundg m
          case measure => omega
          case rel => exact ⟨_, by omega, by go_num, HBB.out.set_ m _, HE.out, HBW.out.setCell (Nat.le_refl _) _⟩
        · have hr := hgx.resolve_left hx1
          obtain ⟨j, rfl⟩ : ∃ j : Nat, xm = j := ⟨xm.toNat, by omega⟩
          have hjn : j < n := by omega
          have d1 := RD.out j hjn
          have d2 := RX.out j hjn
          have j0 : (0 : Int) ≤ j := by omega
          have j1 : (j : Int) < n := by omega
          have jne : ((j : Int) == (m : Int) + 1) = false := by simp; omega
          have hjm : j ≠ m + 1 := by omega
          obtain ⟨y, hy⟩ : ∃ y, Hid (o j = y) := ⟨_, Lib.hid rfl⟩
          obtain ⟨v, hv⟩ : ∃ v, Hid (x j = v) := ⟨_, Lib.hid rfl⟩
          rw [hy.out] at d1
          rw [hv.out] at d2
          clear hgx hr hx1
          by_cases hle : j ≤ m
          · have hfb := fin_back (f := f) HJ.out hxm.out hle
            rw [← HFM.out, hy.out, hv.out, hxm.out] at hfb
            by_cases hy15 : y = 15
            · rw [if_pos hy15] at hfb
              have HE := Lib.hid (HFA.out.set2 (u := .int .i64 j) hm hfb)
              subst hy15
              clear hfb
              go_wp2_with fail
              with_reducible refine (hcj.out _).mono ?_
              rintro e2 w2 ⟨rfl, rfl⟩
              go_wp2_with fail
              go_roundg m
              case measure => omega
              case rel => exact ⟨_, by omega, by go_num, (HBB.out.set_ m _).set_ m _, HE.out, (HBW.out.setCell (p := ⟨w.heap.size, m, none⟩) (Nat.le_refl _) _).setCell (p := ⟨w.heap.size, m, none⟩) (Nat.le_refl _) _⟩
            · rw [if_neg hy15] at hfb
              have HE := Lib.hid (HFA.out.set1 hm hfb)
              have g15 : (y == 15) = false := by simp [hy15]
              clear hfb hy15
              go_wp2_with fail
              with_reducible refine (hcj.out _).mono ?_
              rintro e2 w2 ⟨rfl, rfl⟩
              go_wp2_with fail
              go_roundg m
              case measure => omega
              case rel => exact ⟨_, by omega, by go_num, HBB.out.set_ m _, HE.out, HBW.out.setCell (Nat.le_refl _) _⟩
          · have hfw := fin_fwd (f := f) HJ.out hxm.out (by omega) hjm
            rw [← HFM.out, hy.out, hv.out, hxm.out] at hfw
            have d3 := HCG.out j (by omega) hjn
            have njm : j ≠ m := by omega
            have nmj : m ≠ j := by omega
            by_cases hy15 : y = 15
            · by_cases hv1 : v = j + 1
              · rw [if_neg (fun e => e.2 hv1)] at hfw
                have HE := Lib.hid (HFA.out.set1 hm hfw)
                subst hy15 hv1
                clear hfw
                go_wp2_with fail
                with_reducible refine (hcj.out _).mono ?_
                rintro e2 w2 ⟨rfl, rfl⟩
                go_wp2_with fail
                go_roundg m
                case measure => omega
                case rel => exact ⟨_, by omega, by go_num, HBB.out.set_ m _, HE.out, HBW.out.setCell (Nat.le_refl _) _⟩
              · rw [if_pos ⟨hy15, hv1⟩] at hfw
                have HE := Lib.hid (HFA.out.set2 (u := .int .i64 j) hm hfw)
                have gv : (v != (j : Int) + 1) = true := by simp [hv1]
                obtain ⟨fj, hfj⟩ : ∃ fj, Hid (f j = fj) := ⟨_, Lib.hid rfl⟩
                rw [hfj.out] at d3 HE
                subst hy15
                clear hfw hv1
                go_wp2_with fail
                with_reducible refine (hcj.out _).mono ?_
                rintro e2 w2 ⟨rfl, rfl⟩
                go_wp2_with fail
                go_roundg m
                case measure => omega
                case rel => exact ⟨_, by omega, by go_num, (HBB.out.set_ m _).set_ m _, HE.out, (HBW.out.setCell (p := ⟨w.heap.size, m, none⟩) (Nat.le_refl _) _).setCell (p := ⟨w.heap.size, m, none⟩) (Nat.le_refl _) _⟩
            · rw [if_neg (fun e => hy15 e.1)] at hfw
              have HE := Lib.hid (HFA.out.set1 hm hfw)
              have g15 : (y == 15) = false := by simp [hy15]
              clear hfw hy15
              go_wp2_with fail
              with_reducible refine (hcj.out _).mono ?_
              rintro e2 w2 ⟨rfl, rfl⟩
              go_wp2_with fail
              go_roundg m
              case measure => omega
              case rel => exact ⟨_, by omega, by go_num, HBB.out.set_ m _, HE.out, HBW.out.setCell (Nat.le_refl _) _⟩
end Go.Proofs.Ytaeficfjocinaaa
