/- The guards, the table of final targets and the table of wanted ops: contracts. -/
import Derived.Test.YtaeficfjocinaaaCoW
namespace Go.Proofs.Ytaeficfjocinaaa
open Go.RowKit
set_option maxRecDepth 100000
set_option linter.unusedVariables false
/-- a slice of ints that reads as the first n values of a function -/
def FRd (w : World) (B : Nat) (A : Option Addr) (n : Nat) (o : Nat → Int) : Prop := 0 < n → ∃ g k, A = some ⟨g, k, none⟩ ∧ g < B ∧ g < w.heap.size ∧ ∀ i, i < n → w.cell? ⟨g, k + i, none⟩ = some (.int .i64 (o i))
theorem frd_of {w : World} {B n : Nat} {A : Option Addr} {l : List Int} (h : RdAt w B A (vInts l)) (hn : n ≤ l.length) : FRd w B A n (oF l) := by
  intro h0
  obtain ⟨g, k, rfl, hg, hc⟩ := h 0 _ (vInts_at l 0 (by omega))
  refine ⟨g, k, rfl, hg, World.block_lt_of_cell? w _ hc, fun i hi => ?_⟩
  obtain ⟨g', k', e, _, h2⟩ := h i _ (vInts_at l i (by omega))
  injection e with e
  injection e with e1 e2
  subst e1 e2
  rw [oF_at (List.getElem?_eq_getElem (by omega))]
  exact h2
theorem FRd.below {w w' : World} {B n : Nat} {A : Option Addr} {o : Nat → Int} (hb : Below B w w') (h : FRd w B A n o) : FRd w' B A n o := fun h0 => by
  obtain ⟨g, k, h1, h2, h4, h3⟩ := h h0
  exact ⟨g, k, h1, h2, Nat.lt_of_lt_of_le h4 hb.size, fun i hi => (hb.cell (p := ⟨g, k + i, none⟩) h2).trans (h3 i hi)⟩
theorem FRd.mono {w : World} {B B' n : Nat} {A : Option Addr} {o : Nat → Int} (hB : B ≤ B') (h : FRd w B A n o) : FRd w B' A n o := fun h0 => by
  obtain ⟨g, k, h1, h2, h3⟩ := h h0
  exact ⟨g, k, h1, Nat.lt_of_lt_of_le h2 hB, h3⟩
set_option maxHeartbeats 4000000 in
theorem wide_any (A A' : Option Addr) (n c c' B : Nat) (o x : Nat → Int) (w : World) (ho : FRd w B A n o) (hx : FRd w B A' n x) (hn : n ≤ 1000000) :
    Calls Try.prog 27 #[.slice A n c, .slice A' n c'] w (BoolIf (Guard n o x) w) := by
  rcases Nat.eq_zero_or_pos n with rfl | h0
  · clear ho hx
    go_enter Try.func27, Try.ntmps27
    go_wp2_with fail
    go_loopw [6] (fun i wr => i = .int .i64 0 ∧ wr = w) (fun i _ => 0)
    case atStart => exact ⟨rfl, rfl⟩
    case round =>
      obtain ⟨rfl, rfl⟩ := hrel
      go_wp2_with fail
      go_ret
      exact ⟨true, rfl, rfl, fun _ => ⟨fun p hp => absurd hp (by omega), fun p hp => absurd hp (by omega)⟩⟩
  · obtain ⟨g, k, rfl, _, lg, hco⟩ := ho h0
    obtain ⟨g', k', rfl, _, lg', hcx⟩ := hx h0
    have HO := Lib.hid hco
    have HX := Lib.hid hcx
    clear ho hx hco hcx
    obtain ⟨m, rfl⟩ : ∃ m, n = m + 1 := ⟨n - 1, by omega⟩
    have cl := HO.out m (by omega)
    obtain ⟨z, hz⟩ : ∃ z, Hid (o m = z) := ⟨_, Lib.hid rfl⟩
    rw [hz.out] at cl
    have em : (((m + 1 : Nat) : Int) - 1) = (m : Int) := by omega
    have HEM := Lib.hid em
    clear em
    cases hp : isP z
    case true =>
      have hc := Lib.hid (isP_c z true w hp)
      clear hp
      go_enter Try.func27, Try.ntmps27
      go_wp2_with fail
      with_reducible refine (hc.out).mono ?_
      rintro e1 w1 ⟨rfl, rfl⟩
      go_wp2_with fail
      go_ret
      exact ⟨false, rfl, rfl, fun e => by cases e⟩
    case false =>
      have hc := Lib.hid (isP_c z false w hp)
      have HP := Lib.hid hp
      clear hp
      go_enter Try.func27, Try.ntmps27
      go_wp2_with fail
      with_reducible refine (hc.out).mono ?_
      rintro e1 w1 ⟨rfl, rfl⟩
      clear hc cl
      go_wp2_with fail
      go_loopg [6] (m + 1) (fun gk i wr => ∃ j : Nat, gk = m + 1 - j ∧ j ≤ m + 1 ∧ i = .int .i64 j ∧ wr = w ∧ ∀ p, p < j → isJ (o p) = true → x p = p + 1 ∨ (0 ≤ x p ∧ x p < (m + 1 : Nat)))
      case atStart => exact ⟨0, rfl, by omega, rfl, rfl, fun p hp => absurd hp (by omega)⟩
      case round =>
        obtain ⟨j, rfl, hj, rfl, rfl, hI⟩ := hrel
        have HI := Lib.hid hI
        clear hI
        by_cases hlt : j < m + 1
        · have c1 := HO.out j hlt
          have c2 := HX.out j hlt
          obtain ⟨u, hu⟩ : ∃ u, Hid (o j = u) := ⟨_, Lib.hid rfl⟩
          obtain ⟨v, hv⟩ : ∃ v, Hid (x j = v) := ⟨_, Lib.hid rfl⟩
          rw [hu.out] at c1
          rw [hv.out] at c2
          have j0 : (0 : Int) ≤ j := by omega
          have j1 : (j : Int) < (m + 1 : Nat) := by omega
          have go : (isJ u = true → v = j + 1 ∨ (0 ≤ v ∧ v < (m + 1 : Nat))) → ∀ p, p < j + 1 → isJ (o p) = true → x p = p + 1 ∨ (0 ≤ x p ∧ x p < (m + 1 : Nat)) := by
            intro h p hp hjp
            by_cases e : p = j
            · subst e
              rw [hu.out] at hjp
              rw [hv.out]
              exact h hjp
            · exact HI.out p (by omega) hjp
          have GO := Lib.hid go
          clear go
          cases hJ : isJ u
          case false =>
            have hcj := Lib.hid (isJ_c u false wr hJ)
            have HJ := Lib.hid hJ
            clear hJ
            go_wp2_with fail
            with_reducible refine (hcj.out).mono ?_
            rintro e2 w2 ⟨rfl, rfl⟩
            go_wp2_with fail
            go_roundg (m + 1 - (j + 1))
            case measure => omega
            case rel => exact ⟨j + 1, rfl, by omega, by go_num, rfl, GO.out (fun e => by rw [HJ.out] at e; cases e)⟩
          case true =>
            have hcj := Lib.hid (isJ_c u true wr hJ)
            clear hJ
            by_cases h1 : v = j + 1
            · subst h1
              go_wp2_with fail
              with_reducible refine (hcj.out).mono ?_
              rintro e2 w2 ⟨rfl, rfl⟩
              go_wp2_with fail
              go_roundg (m + 1 - (j + 1))
              case measure => omega
              case rel => exact ⟨j + 1, rfl, by omega, by go_num, rfl, GO.out (fun _ => by first | exact .inl rfl | trivial | simp)⟩
            · have g1 : (v == (j : Int) + 1) = false := by simp [h1]
              clear h1
              by_cases h2 : v < 0
              · go_wp2_with fail
                with_reducible refine (hcj.out).mono ?_
                rintro e2 w2 ⟨rfl, rfl⟩
                go_wp2_with fail
                go_ret
                exact ⟨false, rfl, rfl, fun e => by cases e⟩
              · by_cases h3 : v < (m + 1 : Nat)
                · go_wp2_with fail
                  with_reducible refine (hcj.out).mono ?_
                  rintro e2 w2 ⟨rfl, rfl⟩
                  go_wp2_with fail
                  go_roundg (m + 1 - (j + 1))
                  case measure => omega
                  case rel => exact ⟨j + 1, rfl, by omega, by go_num, rfl, GO.out (fun _ => .inr ⟨by omega, h3⟩)⟩
                · go_wp2_with fail
                  with_reducible refine (hcj.out).mono ?_
                  rintro e2 w2 ⟨rfl, rfl⟩
                  go_wp2_with fail
                  go_ret
                  exact ⟨false, rfl, rfl, fun e => by cases e⟩
        · go_wp2_with fail
          go_ret
          refine ⟨true, rfl, rfl, fun _ => ⟨fun p hp => ?_, fun p hp => HI.out p (by omega)⟩⟩
          obtain rfl : p = m := by omega
          rw [hz.out]
          exact HP.out
end Go.Proofs.Ytaeficfjocinaaa
