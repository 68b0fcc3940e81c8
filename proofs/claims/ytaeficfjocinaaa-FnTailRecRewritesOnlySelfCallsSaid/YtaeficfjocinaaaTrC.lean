/- Codes of triples read back; the tests of the laws on tail calls: contracts. -/
import Derived.Test.YtaeficfjocinaaaTrS
namespace Go.Proofs.Ytaeficfjocinaaa
open Go.RowKit
set_option maxRecDepth 100000
set_option linter.unusedVariables false
theorem isT_c (A A3 : Option Addr) (n c c3 B i : Nat) (o z : Nat → Int) (b : Bool) (w : World) (ho : FRd w B A n o) (hz : FRd w B A3 n z) (hi : i < n) (hn : n ≤ 1000000) (hb : isT o z i = b) :
    Calls Try.prog 18 #[.slice A n c, .slice A3 n c3, .int .i64 i] w fun e w' => e = .returned (.bool b) ∧ w = w' := by
  obtain ⟨g, k, rfl, _, lg, hco⟩ := ho (by omega)
  obtain ⟨g', k', rfl, _, lg', hcz⟩ := hz (by omega)
  have c1 := hco i hi
  have c2 := hcz i hi
  clear hco hcz ho hz
  have i0 : (0 : Int) ≤ i := by omega
  have i1 : (i : Int) < n := by omega
  unfold isT at hb
  generalize o i = v at *
  generalize z i = u at *
  by_cases h1 : v = 23
  · subst h1
    subst hb
    go_enter Try.func18, Try.ntmps18
    go_wp2_with fail
    go_ret
    exact ⟨rfl, rfl⟩
  · have g1 : (v == 23) = false := by simp [h1]
    rw [g1, Bool.false_or] at hb
    by_cases h2 : v = 19
    · subst h2
      by_cases h3 : u = 0
      · subst h3
        subst hb
        clear h1
        go_enter Try.func18, Try.ntmps18
        go_wp2_with fail
        go_ret
        exact ⟨rfl, rfl⟩
      · have g3 : (u != 0) = true := by simp [h3]
        rw [g3] at hb
        subst hb
        clear h1 h3
        go_enter Try.func18, Try.ntmps18
        go_wp2_with fail
        go_ret
        exact ⟨rfl, rfl⟩
    · have g2 : (v == 19) = false := by simp [h2]
      rw [g2, Bool.false_and] at hb
      subst hb
      clear h1 h2
      go_enter Try.func18, Try.ntmps18
      go_wp2_with fail
      go_ret
      exact ⟨rfl, rfl⟩
theorem run_assert_tri (x y z : Int) (w : World) : (Instr.typeAssert (.iface 85 (.agg #[.int .i64 x, .int .i64 y, .int .i64 z])) 20 85 true).run Try.prog w = .ok (.tuple #[.agg #[.int .i64 x, .int .i64 y, .int .i64 z], .bool true]) w := by kernel_rfl
set_option maxHeartbeats 1000000 in
theorem vTriple_any (base C : Nat) (cs : List (Option Cd)) (i b : Nat) (op x y z : Int) (w : World) (h : CSx w base C cs) (hx : cs[i]? = some (some ⟨b, tri x y z, op⟩)) (hn : cs.length ≤ 10000000) : Calls Try.prog 45 #[.pointer (some ⟨C, 0, none⟩), .int .i64 i] w fun e w' => e = .returned (.tuple #[.agg #[.int .i64 x, .int .i64 y, .int .i64 z], .bool true]) ∧ Below w.heap.size w w' := by
  obtain ⟨A, cap, c5, hlt, hc⟩ := h.open_
  obtain ⟨g, rfl, hg, c1⟩ := hc i _ hx
  have hB := h.code hx
  have hil := lt_of_some hx
  have c2 : w.cell? ⟨b, 0, none⟩ = some (.iface 85 (.agg #[.int .i64 x, .int .i64 y, .int .i64 z])) := hB.cell 0
  have c3 : w.cell? ⟨g, i, none⟩ = some (.pointer (some ⟨b, 0, none⟩)) := c1
  have hbl : b < w.heap.size := hB.lt
  have hta := run_assert_tri x y z
  have i0 : (0 : Int) ≤ i := by omega
  have i1 : (i : Int) < cs.length := by omega
  clear h hc hx c1 hB
  go_enter Try.func45, Try.ntmps45
  go_wp2_with fail
  refine bodyPost_ret (v := .tuple #[.agg #[.int .i64 x, .int .i64 y, .int .i64 z], .bool true]) (by simp [results, Try.results45, go_sem]) rfl ⟨rfl, ((Below.refl _ _).alloc (Nat.le_refl _) _).alloc (by simp) _⟩
end Go.Proofs.Ytaeficfjocinaaa
