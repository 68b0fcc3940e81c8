/- The program under test built from four lists: contract. -/
import Derived.Test.YtaeficfjocinaaaTrC2
namespace Go.Proofs.Ytaeficfjocinaaa
open Go.RowKit
set_option maxRecDepth 100000
set_option linter.unusedVariables false
def BuiltT (base n : Nat) (o x y z : Nat → Int) (w : World) (e : Ending) (w' : World) : Prop := ∃ cs, e = .returned (.pointer (some ⟨w.heap.size, 0, none⟩)) ∧ CSx w' base w.heap.size cs ∧ Mats cs o (valT o x y z) n ∧ Dist cs ∧ Below w.heap.size w w'
theorem valT_yes {o x y z : Nat → Int} {i : Nat} (h : isT o z i = true) : valT o x y z i = tri (x i) (y i) (z i) := by unfold valT; rw [if_pos h]
theorem valT_no {o x y z : Nat → Int} {i : Nat} (h : isT o z i = false) : valT o x y z i = .iface 3 (.int .i64 (x i)) := by unfold valT; rw [if_neg (by rw [h]; exact Bool.false_ne_true)]
set_option maxHeartbeats 4000000 in
theorem buildT_any (base : Nat) (A A1 A2 A3 : Option Addr) (n c c1 c2 c3 : Nat) (o x y z : Nat → Int) (w : World) (ho : FRd w w.heap.size A n o) (hx : FRd w w.heap.size A1 n x) (hy : FRd w w.heap.size A2 n y) (hz : FRd w w.heap.size A3 n z) (hn : n ≤ 1000000) (hbase : base ≤ w.heap.size) :
    Calls Try.prog 14 #[.slice A n c, .slice A1 n c1, .slice A2 n c2, .slice A3 n c3] w (BuiltT base n o x y z w) := by
  have HO := Lib.hid ho
  have HX := Lib.hid hx
  have HY := Lib.hid hy
  have HZ := Lib.hid hz
  have hnew := Lib.hid (newC_any w)
  clear ho hx hy hz
  go_enter Try.func14, Try.ntmps14
  go_wp2_with fail
  with_reducible refine (hnew.out).mono ?_
  rintro e0 w0 ⟨rfl, h0, hb0, hz0⟩
  have H0 := Lib.hid h0
  clear h0 hz0
  go_wp2_with fail
  go_loopw [10] (fun i wr => ∃ (j : Nat) (cs : List (Option Cd)), i = .int .i64 j ∧ j ≤ n ∧ CSx wr base w.heap.size cs ∧ Mats cs o (valT o x y z) j ∧ Dist cs ∧ Below w.heap.size w wr ∧ CSx wr w.heap.size w.heap.size cs) (fun i _ => n - (intOf i).toNat)
  case atStart => exact ⟨0, [], rfl, by omega, H0.out base hbase, ⟨rfl, fun i hi => absurd hi (by omega)⟩, (fun i j c d hi => by simp at hi), hb0, H0.out _ (Nat.le_refl _)⟩
  case round =>
    obtain ⟨j, cs, rfl, hj, hC, hI, hD, hbw, hC2⟩ := hrel
    by_cases hlt : j < n
    · have ho' := HO.out.below hbw
      have hz' := HZ.out.below hbw
      obtain ⟨b, hb⟩ : ∃ b, isT o z j = b := ⟨_, rfl⟩
      have hit := Lib.hid (isT_c A A3 n c c3 _ j o z b wr ho' hz' hlt hn hb)
      obtain ⟨g0, k0, rfl, hg0, _, hc0⟩ := ho' (by omega)
      obtain ⟨g1, k1, rfl, hg1, lg1', hc1⟩ := HX.out.below hbw (by omega)
      obtain ⟨g2, k2, rfl, hg2, lg2', hc2⟩ := HY.out.below hbw (by omega)
      obtain ⟨g3, k3, rfl, hg3, lg3', hc3⟩ := hz' (by omega)
      have d0 := hc0 j hlt
      have d1 := hc1 j hlt
      have d2 := hc2 j hlt
      have d3 := hc3 j hlt
      have l0 : g0 < wr.heap.size := World.block_lt_of_cell? wr _ d0
      have l1 : g1 < wr.heap.size := World.block_lt_of_cell? wr _ d1
      have l2 : g2 < wr.heap.size := World.block_lt_of_cell? wr _ d2
      have l3 : g3 < wr.heap.size := World.block_lt_of_cell? wr _ d3
      have hapT := Lib.hid (appendTriple_any w.heap.size w.heap.size cs (o j) (x j) (y j) (z j) wr.drew hC2.drew (by rw [hI.1]; omega))
      have hapI := Lib.hid (appendInt_any w.heap.size w.heap.size cs (o j) (x j) wr.drew hC2.drew (by rw [hI.1]; omega))
      have HC := Lib.hid hC
      have HI := Lib.hid hI
      have HD := Lib.hid hD
      have HB := Lib.hid hb
      have j0 : (0 : Int) ≤ j := by omega
      have j1 : (j : Int) < n := by omega
      clear hC hI hD hC2 hc0 hc1 hc2 hc3 ho' hz' hb lg1' lg2' lg3'
      have hsz : wr.heap.size ≤ wr.drew.heap.size := Nat.le_refl _
      cases b
      · go_wp2_with fail
        with_reducible refine (hit.out).mono ?_
        rintro e2 w2 ⟨rfl, rfl⟩
        go_wp2_with fail
        go_still_tail 9, (by kernel_rfl)
        change wpList _ _ _ _ _ wr.drew
        go_wp2_with fail
        with_reducible refine (hapI.out).mono ?_
        rintro e1 w1 ⟨rfl, h1, h2, h3⟩
        have HC1 := Lib.hid h1
        have hb1 : Below w.heap.size w w1 := hbw.drew.trans h2
        have HD1 := Lib.hid (HD.out.snoc (x := ⟨wr.drew.heap.size, .iface 3 (.int .i64 (x j)), o j⟩) HC.out hsz)
        have HI1 := Lib.hid (HI.out.snoc (c := ⟨wr.drew.heap.size, .iface 3 (.int .i64 (x j)), o j⟩) (valT_no HB.out).symm rfl)
        clear h1 h2 h3
        go_wp2_with fail
        go_roundw
        case rel => exact ⟨j + 1, _, by go_num, by omega, HC1.out.mono hbase, HI1.out, HD1.out, hb1, HC1.out⟩
        case measure => simp [intOf]; omega
      · go_wp2_with fail
        with_reducible refine (hit.out).mono ?_
        rintro e2 w2 ⟨rfl, rfl⟩
        go_wp2_with fail
        go_still_tail 17, (by kernel_rfl)
        change wpList _ _ _ _ _ wr.drew
        go_wp2_with fail
        with_reducible refine (hapT.out).mono ?_
        rintro e1 w1 ⟨rfl, h1, h2, h3⟩
        have HC1 := Lib.hid h1
        have hb1 : Below w.heap.size w w1 := hbw.drew.trans h2
        have HD1 := Lib.hid (HD.out.snoc (x := ⟨wr.drew.heap.size, tri (x j) (y j) (z j), o j⟩) HC.out hsz)
        have HI1 := Lib.hid (HI.out.snoc (c := ⟨wr.drew.heap.size, tri (x j) (y j) (z j), o j⟩) (valT_yes HB.out).symm rfl)
        clear h1 h2 h3
        go_wp2_with fail
        go_roundw
        case rel => exact ⟨j + 1, _, by go_num, by omega, HC1.out.mono hbase, HI1.out, HD1.out, hb1, HC1.out⟩
        case measure => simp [intOf]; omega
    · have hjn : j = n := by omega
      subst hjn
      go_wp2_with fail
      go_ret
      exact ⟨cs, rfl, hC, hI, hD, hbw⟩
end Go.Proofs.Ytaeficfjocinaaa
