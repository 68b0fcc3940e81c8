/- The tests of the laws on tail calls: contracts. -/
import Derived.Test.YtaeficfjocinaaaTrC
namespace Go.Proofs.Ytaeficfjocinaaa
open Go.RowKit
set_option maxRecDepth 100000
set_option linter.unusedVariables false
set_option maxHeartbeats 2000000 in
theorem sameTriple_any (base C : Nat) (cs : List (Option Cd)) (i b : Nat) (op x y z : Int) (w : World) (h : CSx w base C cs) (hx : cs[i]? = some (some ⟨b, tri x y z, op⟩)) (hn : cs.length ≤ 10000000) : Calls Try.prog 19 #[.pointer (some ⟨C, 0, none⟩), .int .i64 i, .int .i64 op, .int .i64 x, .int .i64 y, .int .i64 z] w fun e w' => e = .returned (.bool true) ∧ Below w.heap.size w w' := by
  have h1 := Lib.hid (len_any base C cs w h)
  have h2 := Lib.hid (codeAt_any base C cs i _ w h hx hn)
  have h3 := Lib.hid (op_any base C cs i _ w h hx hn)
  have h4 := Lib.hid (vTriple_any base C cs i b op x y z w h hx hn)
  have hil := lt_of_some hx
  have e1 : (op != op) = false := by simp
  have e2 : (x == x) = true := by simp
  have e3 : (y == y) = true := by simp
  have e4 : (z == z) = true := by simp
  clear h hx
  go_enter Try.func19, Try.ntmps19
  go_wp2_with fail
  with_reducible refine (h1.out).mono ?_
  rintro e w1 ⟨rfl, rfl⟩
  go_wp2_with fail
  with_reducible refine (h2.out).mono ?_
  rintro e w1 ⟨rfl, rfl⟩
  simp only [pv]
  go_wp2_with fail
  with_reducible refine (h3.out).mono ?_
  rintro e w1 ⟨rfl, rfl⟩
  go_wp2_with fail
  with_reducible refine (h4.out).mono ?_
  rintro e w1 ⟨rfl, hb⟩
  have HB := Lib.hid hb
  clear hb
  go_wp2_with fail
  go_ret
  exact ⟨rfl, HB.out.alloc HB.out.size _⟩
set_option maxHeartbeats 2000000 in
theorem trfwd_any (A A' : Option Addr) (n c c' B : Nat) (o x : Nat → Int) (w : World) (ho : FRd w B A n o) (hx : FRd w B A' n x) (hn : n ≤ 1000000) :
    Calls Try.prog 13 #[.slice A n c, .slice A' n c'] w (BoolIf (FwdJ n o x) w) := by
  have HO := Lib.hid ho
  have HX := Lib.hid hx
  clear ho hx
  go_enter Try.func13, Try.ntmps13
  go_wp2_with fail
  go_loopg [5] n (fun gk i wr => ∃ j : Nat, gk = n - j ∧ j ≤ n ∧ i = .int .i64 j ∧ wr = w ∧ ∀ p, p < j → o p = 15 → (p : Int) < x p)
  case atStart => exact ⟨0, rfl, by omega, rfl, rfl, fun p hp => absurd hp (by omega)⟩
  case round =>
    obtain ⟨j, rfl, hj, rfl, rfl, hI⟩ := hrel
    have HI := Lib.hid hI
    clear hI
    by_cases hlt : j < n
    · obtain ⟨g, k, rfl, _, lg, hco⟩ := HO.out (by omega)
      obtain ⟨g', k', rfl, _, lg', hcx⟩ := HX.out (by omega)
      have c1 := hco j hlt
      have c2 := hcx j hlt
      clear hco hcx
      obtain ⟨u, hu⟩ : ∃ u, Hid (o j = u) := ⟨_, Lib.hid rfl⟩
      obtain ⟨v, hv⟩ : ∃ v, Hid (x j = v) := ⟨_, Lib.hid rfl⟩
      rw [hu.out] at c1
      rw [hv.out] at c2
      have j0 : (0 : Int) ≤ j := by omega
      have j1 : (j : Int) < n := by omega
      have go : (u = 15 → (j : Int) < v) → ∀ p, p < j + 1 → o p = 15 → (p : Int) < x p := by
        intro h p hp hjp
        by_cases e : p = j
        · subst e
          rw [hu.out] at hjp
          rw [hv.out]
          exact h hjp
        · exact HI.out p (by omega) hjp
      have GO := Lib.hid go
      clear go
      by_cases h15 : u = 15
      · by_cases h1 : v ≤ j
        · subst h15
          go_wp2_with fail
          go_ret
          exact ⟨false, rfl, rfl, fun e => by cases e⟩
        · subst h15
          go_wp2_with fail
          go_roundg (n - (j + 1))
          case measure => omega
          case rel => exact ⟨j + 1, rfl, by omega, by go_num, rfl, GO.out (fun _ => by omega)⟩
      · have g15 : (u == 15) = false := by simp [h15]
        have H15 := Lib.hid h15
        clear h15
        go_wp2_with fail
        go_roundg (n - (j + 1))
        case measure => omega
        case rel => exact ⟨j + 1, rfl, by omega, by go_num, rfl, GO.out (fun e => absurd e H15.out)⟩
    · go_wp2_with fail
      go_ret
      exact ⟨true, rfl, rfl, fun _ => fun p hp => HI.out p (by omega)⟩
/-- the innermost open scope ahead of i, or -1 -/
def encl (o : Nat → Int) (i : Nat) : Int := match stk o i with
  | [] => -1
  | k :: _ => (k : Int)
theorem encl_none {o : Nat → Int} {i : Nat} (h : none = (stk o i)[0]?) : encl o i = -1 := by
  unfold encl
  cases hs : stk o i with
  | nil => rfl
  | cons a t => rw [hs] at h; cases h
theorem encl_some {o : Nat → Int} {i k : Nat} (h : some k = (stk o i)[0]?) : encl o i = k := by
  unfold encl
  cases hs : stk o i with
  | nil => rw [hs] at h; cases h
  | cons a t => rw [hs] at h; injection h with h; rw [h]
set_option maxHeartbeats 2000000 in
theorem encl_any (A : Option Addr) (n c B i : Nat) (o : Nat → Int) (w : World) (ho : FRd w B A n o) (hi : i ≤ n) (hn : n ≤ 1000000) :
    Calls Try.prog 17 #[.slice A n c, .int .i64 i] w fun e w' => e = .returned (.int .i64 (encl o i)) ∧ w = w' := by
  have HO := Lib.hid ho
  clear ho
  go_enter Try.func17, Try.ntmps17
  go_wp2_with fail
  go_loopg [5, 6] i (fun gk d k wr => ∃ dd : Nat, gk ≤ i ∧ d = .int .i64 dd ∧ k = .int .i64 ((gk : Int) - 1) ∧ dd + gk ≤ i ∧ wr = w ∧ (stk o gk)[dd]? = (stk o i)[0]?)
  case atStart => exact ⟨0, Nat.le_refl _, rfl, rfl, by omega, rfl, rfl⟩
  case round =>
    obtain ⟨dd, hgi, rfl, rfl, hdg, rfl, hI⟩ := hrel
    by_cases h0 : gk = 0
    · subst h0
      have he := Lib.hid (encl_none (o := o) (i := i) hI)
      clear hI
      go_wp2_with fail
      go_ret
      exact ⟨by rw [he.out]; rfl, rfl⟩
    · obtain ⟨m, rfl⟩ : ∃ m, gk = m + 1 := ⟨gk - 1, by omega⟩
      have e1 : (((m + 1 : Nat) : Int) - 1) = (m : Int) := by omega
      rw [e1]
      clear e1 h0
      obtain ⟨g, k, rfl, _, lg, hco⟩ := HO.out (by omega)
      have c1 := hco m (by omega)
      clear hco
      obtain ⟨u, hu⟩ : ∃ u, Hid (o m = u) := ⟨_, Lib.hid rfl⟩
      rw [hu.out] at c1
      have m0 : (0 : Int) ≤ m := by omega
      have m1 : (m : Int) < n := by omega
      by_cases h24 : u = 24
      · subst h24
        have HI := Lib.hid ((back_ret (d := dd) hu.out).symm.trans hI)
        clear hI
        go_wp2_with fail
        go_roundg m
        case measure => omega
        case rel => exact ⟨dd + 1, by omega, by go_num, by go_num, by omega, rfl, HI.out⟩
      · have g24 : (u == 24) = false := by simp [h24]
        by_cases h23 : u = 23
        · subst h23
          by_cases hd : dd = 0
          · subst hd
            have he := Lib.hid (encl_some ((back_hit hu.out).symm.trans hI))
            clear hI h24
            go_wp2_with fail
            go_ret
            exact ⟨by rw [he.out]; rfl, rfl⟩
          · obtain ⟨q, rfl⟩ : ∃ q, dd = q + 1 := ⟨dd - 1, by omega⟩
            have HI := Lib.hid ((back_scope (d := q) hu.out).symm.trans hI)
            clear hI h24
            go_wp2_with fail
            go_roundg m
            case measure => omega
            case rel => exact ⟨q, by omega, by go_num, by go_num, by omega, rfl, HI.out⟩
        · have g23 : (u == 23) = false := by simp [h23]
          have HI := Lib.hid ((back_other (d := dd) (by rw [hu.out]; exact h23) (by rw [hu.out]; exact h24)).symm.trans hI)
          clear hI h24 h23
          go_wp2_with fail
          go_roundg m
          case measure => omega
          case rel => exact ⟨dd, by omega, rfl, by go_num, by omega, rfl, HI.out⟩
set_option maxHeartbeats 2000000 in
theorem tail_any (A A' : Option Addr) (n c c' B i : Nat) (o x : Nat → Int) (w : World) (ho : FRd w B A n o) (hx : FRd w B A' n x) (hF : FwdJ n o x) (hi : i < n) (hn : n ≤ 1000000) :
    Calls Try.prog 20 #[.slice A n c, .slice A' n c', .int .i64 i] w fun e w' => e = .returned (.bool (tail_ n o x i)) ∧ w = w' := by
  have HO := Lib.hid ho
  have HX := Lib.hid hx
  have HF := Lib.hid hF
  have HT := Lib.hid (tail_eq hF i)
  clear ho hx hF
  go_enter Try.func20, Try.ntmps20
  go_wp2_with fail
  go_loopg [7] (n - (i + 1)) (fun gk p wr => ∃ j : Nat, gk = n - j ∧ p = .int .i64 j ∧ wr = w ∧ tl n o x (n - j) j = tail_ n o x i)
  case atStart => exact ⟨i + 1, rfl, by go_num, rfl, HT.out.symm⟩
  case round =>
    obtain ⟨j, rfl, rfl, rfl, hI⟩ := hrel
    by_cases hlt : j < n
    · obtain ⟨g, k, rfl, _, lg, hco⟩ := HO.out (by omega)
      obtain ⟨g', k', rfl, _, lg', hcx⟩ := HX.out (by omega)
      have c1 := hco j hlt
      have c2 := hcx j hlt
      clear hco hcx
      obtain ⟨u, hu⟩ : ∃ u, Hid (o j = u) := ⟨_, Lib.hid rfl⟩
      obtain ⟨v, hv⟩ : ∃ v, Hid (x j = v) := ⟨_, Lib.hid rfl⟩
      rw [hu.out] at c1
      rw [hv.out] at c2
      have j0 : (0 : Int) ≤ j := by omega
      have j1 : (j : Int) < n := by omega
      by_cases h15 : u = 15
      · subst h15
        have h2 := HF.out j hlt hu.out
        have h3 := tl_jump HF.out hlt hu.out
        rw [hv.out] at h2 h3
        obtain ⟨q, rfl⟩ : ∃ q : Nat, v = q := ⟨v.toNat, by omega⟩
        rw [Int.toNat_natCast] at h3
        have HI := Lib.hid (h3.symm.trans hI)
        clear hI h3
        go_wp2_with fail
        go_roundg (n - q)
        case measure => omega
        case rel => exact ⟨q, rfl, rfl, rfl, HI.out⟩
      · have g15 : (u == 15) = false := by simp [h15]
        have h3 := tl_end hlt (o := o) (x := x) (by rw [hu.out]; exact h15)
        rw [hu.out, hI] at h3
        have H3 := Lib.hid h3
        clear hI h3 h15
        go_wp2_with fail
        go_ret
        exact ⟨by rw [H3.out]; rfl, rfl⟩
    · have h3 := tl_out (o := o) (x := x) (show n ≤ j by omega)
      rw [hI] at h3
      have H3 := Lib.hid h3
      clear hI h3
      go_wp2_with fail
      go_ret
      exact ⟨by rw [H3.out]; rfl, rfl⟩
end Go.Proofs.Ytaeficfjocinaaa
