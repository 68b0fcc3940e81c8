/- The op wanted at a place: the contract of coWantOp. -/
import Derived.Test.YtaeficfjocinaaaCoF2
namespace Go.Proofs.Ytaeficfjocinaaa
open Go.RowKit
set_option maxRecDepth 100000
set_option linter.unusedVariables false
set_option maxHeartbeats 8000000 in
theorem want_any (A A' : Option Addr) (n c c' B p : Nat) (o x : Nat → Int) (w : World) (ho : FRd w B A n o) (hx : FRd w B A' n x) (hn : n ≤ 1000000) (hp : p < n) :
    Calls Try.prog 31 #[.slice A n c, .slice A' n c', .int .i64 p] w fun e w' => e = .returned (.int .i64 (want n o x p)) ∧ w = w' := by
  obtain ⟨g, k, rfl, _, lg, hco⟩ := ho (by omega)
  obtain ⟨g', k', rfl, _, lg', hcx⟩ := hx (by omega)
  have c1 := hco p hp
  have c2 := hcx p hp
  have RD := Lib.hid hco
  clear hco hcx ho hx
  have p0 : (0 : Int) ≤ p := by omega
  have p1 : (p : Int) < n := by omega
  obtain ⟨z, hz⟩ : ∃ z, Hid (o p = z) := ⟨_, Lib.hid rfl⟩
  obtain ⟨v, hv⟩ : ∃ v, Hid (x p = v) := ⟨_, Lib.hid rfl⟩
  rw [hz.out] at c1
  rw [hv.out] at c2
  cases hP : isP z
  case true =>
    have hcp := Lib.hid (isP_c z true w hP)
    obtain ⟨q2, q4, qj⟩ := P_not hP
    have HPO : Hid (isP (o p) = true) := by rw [hz.out]; exact hP
    have hcj := Lib.hid (isJ_c z false w qj)
    have g2 : (z == 2) = false := by simp [q2]
    have g4 : (z == 4) = false := by simp [q4]
    clear hP q2 q4 qj
    by_cases hl : p + 1 < n
    · have d1 := RD.out (p + 1) hl
      have l1 : (p : Int) + 1 < n := by omega
      obtain ⟨y, hy⟩ : ∃ y, Hid (o (p + 1) = y) := ⟨_, Lib.hid rfl⟩
      rw [hy.out] at d1
      by_cases y2 : y = 2
      · have HW := Lib.hid (want_a (n := n) (x := x) HPO.out hl (.inl (hy.out.trans y2)))
        subst y2
        go_enter Try.func31, Try.ntmps31
        go_wp2_with fail
        with_reducible refine (hcp.out).mono ?_
        rintro e1 w1 ⟨rfl, rfl⟩
        go_wp2_with fail
        go_ret
        exact ⟨ret_int (HW.out.symm), rfl⟩
      · by_cases y4 : y = 4
        · have HW := Lib.hid (want_a (n := n) (x := x) HPO.out hl (.inr (hy.out.trans y4)))
          subst y4
          go_enter Try.func31, Try.ntmps31
          go_wp2_with fail
          with_reducible refine (hcp.out).mono ?_
          rintro e1 w1 ⟨rfl, rfl⟩
          go_wp2_with fail
          go_ret
          exact ⟨ret_int (HW.out.symm), rfl⟩
        · have HW := Lib.hid (want_b (n := n) (x := x) HPO.out (fun e => by rw [hy.out] at e; rcases e.2 with h | h; exact y2 h; exact y4 h))
          have a2 : (y == 2) = false := by simp [y2]
          have a4 : (y == 4) = false := by simp [y4]
          clear y2 y4
          go_enter Try.func31, Try.ntmps31
          go_wp2_with fail
          with_reducible refine (hcp.out).mono ?_
          rintro e1 w1 ⟨rfl, rfl⟩
          go_wp2_with fail
          with_reducible refine (hcj.out).mono ?_
          rintro e1 w1 ⟨rfl, rfl⟩
          go_wp2_with fail
          go_ret
          exact ⟨ret_int (by rw [HW.out, hz.out]), rfl⟩
    · have HW := Lib.hid (want_b (n := n) (x := x) HPO.out (fun e => hl e.1))
      have l1 : ¬ (p : Int) + 1 < n := by omega
      clear hl
      go_enter Try.func31, Try.ntmps31
      go_wp2_with fail
      with_reducible refine (hcp.out).mono ?_
      rintro e1 w1 ⟨rfl, rfl⟩
      go_wp2_with fail
      with_reducible refine (hcj.out).mono ?_
      rintro e1 w1 ⟨rfl, rfl⟩
      go_wp2_with fail
      go_ret
      exact ⟨ret_int (by rw [HW.out, hz.out]), rfl⟩
  case false =>
    have hcp := Lib.hid (isP_c z false w hP)
    have HPN : Hid (isP (o p) = false) := by rw [hz.out]; exact hP
    clear hP
    by_cases z2 : z = 2
    · subst z2
      have hcj := Lib.hid (isJ_c 2 false w rfl)
      rcases Nat.eq_zero_or_pos p with h0 | h0
      · have HW := Lib.hid (want_d (n := n) (x := x) hz.out (fun e => absurd e.1 (by omega)))
        have l0 : ¬ (0 : Int) < p := by omega
        clear h0
        go_enter Try.func31, Try.ntmps31
        go_wp2_with fail
        with_reducible refine (hcp.out).mono ?_
        rintro e1 w1 ⟨rfl, rfl⟩
        go_wp2_with fail
        with_reducible refine (hcj.out).mono ?_
        rintro e1 w1 ⟨rfl, rfl⟩
        go_wp2_with fail
        go_ret
        exact ⟨ret_int (by rw [HW.out]), rfl⟩
      · have d1 := RD.out (p - 1) (by omega)
        have l0 : (0 : Int) < p := by omega
        have HPQ : Hid (((p - 1 : Nat) : Int) = (p : Int) - 1) := Lib.hid (by omega)
        obtain ⟨u, hu⟩ : ∃ u, Hid (o (p - 1) = u) := ⟨_, Lib.hid rfl⟩
        rw [hu.out] at d1
        cases hU : isP u
        case true =>
          have HW := Lib.hid (want_c (n := n) (x := x) hz.out h0 (by rw [hu.out]; exact hU))
          have hcu := Lib.hid (isP_c u true w hU)
          clear hU
          go_enter Try.func31, Try.ntmps31
          go_wp2_with fail
          with_reducible refine (hcp.out).mono ?_
          rintro e1 w1 ⟨rfl, rfl⟩
          go_wp2_with fail
          with_reducible refine (hcu.out).mono ?_
          rintro e1 w1 ⟨rfl, rfl⟩
          go_wp2_with fail
          go_ret
          exact ⟨ret_int (HW.out.symm), rfl⟩
        case false =>
          have HW := Lib.hid (want_d (n := n) (x := x) hz.out (fun e => by rw [hu.out, hU] at e; cases e.2))
          have hcu := Lib.hid (isP_c u false w hU)
          clear hU
          go_enter Try.func31, Try.ntmps31
          go_wp2_with fail
          with_reducible refine (hcp.out).mono ?_
          rintro e1 w1 ⟨rfl, rfl⟩
          go_wp2_with fail
          with_reducible refine (hcu.out).mono ?_
          rintro e1 w1 ⟨rfl, rfl⟩
          go_wp2_with fail
          with_reducible refine (hcj.out).mono ?_
          rintro e1 w1 ⟨rfl, rfl⟩
          go_wp2_with fail
          go_ret
          exact ⟨ret_int (by rw [HW.out]), rfl⟩
    · by_cases z4 : z = 4
      · subst z4
        have hcj := Lib.hid (isJ_c 4 false w rfl)
        rcases Nat.eq_zero_or_pos p with h0 | h0
        · have HW := Lib.hid (want_f (n := n) (x := x) hz.out (fun e => absurd e.1 (by omega)))
          have l0 : ¬ (0 : Int) < p := by omega
          clear h0
          go_enter Try.func31, Try.ntmps31
          go_wp2_with fail
          with_reducible refine (hcp.out).mono ?_
          rintro e1 w1 ⟨rfl, rfl⟩
          go_wp2_with fail
          with_reducible refine (hcj.out).mono ?_
          rintro e1 w1 ⟨rfl, rfl⟩
          go_wp2_with fail
          go_ret
          exact ⟨ret_int (by rw [HW.out]), rfl⟩
        · have d1 := RD.out (p - 1) (by omega)
          have l0 : (0 : Int) < p := by omega
          have HPQ : Hid (((p - 1 : Nat) : Int) = (p : Int) - 1) := Lib.hid (by omega)
          obtain ⟨u, hu⟩ : ∃ u, Hid (o (p - 1) = u) := ⟨_, Lib.hid rfl⟩
          rw [hu.out] at d1
          cases hU : isP u
          case true =>
            have HW := Lib.hid (want_e (n := n) (x := x) hz.out h0 (by rw [hu.out]; exact hU))
            have hcu := Lib.hid (isP_c u true w hU)
            clear hU
            go_enter Try.func31, Try.ntmps31
            go_wp2_with fail
            with_reducible refine (hcp.out).mono ?_
            rintro e1 w1 ⟨rfl, rfl⟩
            go_wp2_with fail
            with_reducible refine (hcu.out).mono ?_
            rintro e1 w1 ⟨rfl, rfl⟩
            go_wp2_with fail
            go_ret
            exact ⟨ret_int (HW.out.symm), rfl⟩
          case false =>
            have HW := Lib.hid (want_f (n := n) (x := x) hz.out (fun e => by rw [hu.out, hU] at e; cases e.2))
            have hcu := Lib.hid (isP_c u false w hU)
            clear hU
            go_enter Try.func31, Try.ntmps31
            go_wp2_with fail
            with_reducible refine (hcp.out).mono ?_
            rintro e1 w1 ⟨rfl, rfl⟩
            go_wp2_with fail
            with_reducible refine (hcu.out).mono ?_
            rintro e1 w1 ⟨rfl, rfl⟩
            go_wp2_with fail
            with_reducible refine (hcj.out).mono ?_
            rintro e1 w1 ⟨rfl, rfl⟩
            go_wp2_with fail
            go_ret
            exact ⟨ret_int (by rw [HW.out]), rfl⟩
      · have g2 : (z == 2) = false := by simp [z2]
        have g4 : (z == 4) = false := by simp [z4]
        cases hJ : isJ z
        case true =>
          have hcj := Lib.hid (isJ_c z true w hJ)
          by_cases hv1 : v = p + 1
          · have HW := Lib.hid (want_g (n := n) (x := x) HPN.out (by rw [hz.out]; exact z2) (by rw [hz.out]; exact z4) (by rw [hz.out]; exact hJ) (by rw [hv.out]; exact hv1))
            subst hv1
            clear z2 z4 hJ
            go_enter Try.func31, Try.ntmps31
            go_wp2_with fail
            with_reducible refine (hcp.out).mono ?_
            rintro e1 w1 ⟨rfl, rfl⟩
            go_wp2_with fail
            with_reducible refine (hcj.out).mono ?_
            rintro e1 w1 ⟨rfl, rfl⟩
            go_wp2_with fail
            go_ret
            exact ⟨ret_int (HW.out.symm), rfl⟩
          · have HW := Lib.hid (want_h (n := n) (x := x) HPN.out (by rw [hz.out]; exact z2) (by rw [hz.out]; exact z4) (fun e => hv1 (by rw [← hv.out]; exact e.2)))
            have gv : (v == (p : Int) + 1) = false := by simp [hv1]
            clear z2 z4 hJ hv1
            go_enter Try.func31, Try.ntmps31
            go_wp2_with fail
            with_reducible refine (hcp.out).mono ?_
            rintro e1 w1 ⟨rfl, rfl⟩
            go_wp2_with fail
            with_reducible refine (hcj.out).mono ?_
            rintro e1 w1 ⟨rfl, rfl⟩
            go_wp2_with fail
            go_ret
            exact ⟨ret_int (by rw [HW.out, hz.out]), rfl⟩
        case false =>
          have hcj := Lib.hid (isJ_c z false w hJ)
          have HW := Lib.hid (want_h (n := n) (x := x) HPN.out (by rw [hz.out]; exact z2) (by rw [hz.out]; exact z4) (fun e => by rw [hz.out, hJ] at e; cases e.1))
          clear z2 z4 hJ
          go_enter Try.func31, Try.ntmps31
          go_wp2_with fail
          with_reducible refine (hcp.out).mono ?_
          rintro e1 w1 ⟨rfl, rfl⟩
          go_wp2_with fail
          with_reducible refine (hcj.out).mono ?_
          rintro e1 w1 ⟨rfl, rfl⟩
          go_wp2_with fail
          go_ret
          exact ⟨ret_int (by rw [HW.out, hz.out]), rfl⟩
end Go.Proofs.Ytaeficfjocinaaa
