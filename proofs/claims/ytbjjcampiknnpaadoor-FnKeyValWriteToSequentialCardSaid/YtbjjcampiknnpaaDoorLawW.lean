/- The walk of FnKeyValWriteToSequential: true at every prefix and every two pairs. -/
import Derived.Test.YtbjjcampiknnpaaDoorLawV
namespace Go.Proofs.YtbjjcampiknnpaaDoor
open Go.RowKit
set_option maxRecDepth 100000
set_option linter.unusedVariables false
set_option linter.unusedSimpArgs false
theorem cells8 {W : World} {g g2 k0 l0 l l2 cap cap2 : Nat} {num key num2 key2 : ByteArray} {A A2 : Option Addr} (h : Blk W g 26 (ndv k0 num key A l cap)) (h2 : Blk W g2 26 (ndv l0 num2 key2 A2 l2 cap2)) :
    W.cell? ⟨g, 0, none⟩ = some (.int .u8 k0) ∧ W.cell? ⟨g, 1, none⟩ = some (.string num) ∧ W.cell? ⟨g, 2, none⟩ = some (.string key) ∧ W.cell? ⟨g, 3, none⟩ = some (.slice A l cap) ∧ W.cell? ⟨g2, 0, none⟩ = some (.int .u8 l0) ∧ W.cell? ⟨g2, 1, none⟩ = some (.string num2) ∧ W.cell? ⟨g2, 2, none⟩ = some (.string key2) ∧ W.cell? ⟨g2, 3, none⟩ = some (.slice A2 l2 cap2) :=
  ⟨h.cell 0, h.cell 1, h.cell 2, h.cell 3, h2.cell 0, h2.cell 1, h2.cell 2, h2.cell 3⟩
set_option maxHeartbeats 16000000 in
theorem law_seq (q k ks : ByteArray) (n k0 : Nat) (num key : ByteArray) (A : Option Addr) (cap : Nat) (kids : List Nd) (k2 ks2 : ByteArray) (m l0 : Nat) (num2 key2 : ByteArray) (A2 : Option Addr) (cap2 : Nat) (kids2 : List Nd) (w : World)
    (hN : NdAt w w.heap.size n (.agg #[.int .u8 k0, .string num, .string key, .slice A kids.length cap]) (.mk k0 num key kids)) (hM : NdAt w w.heap.size m (.agg #[.int .u8 l0, .string num2, .string key2, .slice A2 kids2.length cap2]) (.mk l0 num2 key2 kids2)) (hT : Lib.Utf8Tabs 0 1 w) :
    Calls Tryd.prog 6 #[.string q, .string k, .string ks, .agg #[.int .u8 k0, .string num, .string key, .slice A kids.length cap], .string k2, .string ks2, .agg #[.int .u8 l0, .string num2, .string key2, .slice A2 kids2.length cap2]] w fun e w' => e = .returned (.bool true) ∧ Below w.heap.size w w' := by
  have h2 : 2 ≤ w.heap.size := by
    have h := World.block_lt_of_cell? w _ (hT.2 0 (by omega)).1
    have h' : 1 < w.heap.size := h
    omega
  have hbx0 : Below w.heap.size w (w.alloc (.cells (ndv k0 num key A kids.length cap) 26)) := (Below.refl _ _).alloc (Nat.le_refl _) _
  obtain ⟨W0, hW0⟩ : ∃ W0, Hid (W0 = (w.alloc (.cells (ndv k0 num key A kids.length cap) 26)).alloc (.cells (ndv l0 num2 key2 A2 kids2.length cap2) 26)) := ⟨_, Lib.hid rfl⟩
  have hbx : Below w.heap.size w W0 := by rw [hW0.out]; exact hbx0.alloc hbx0.size _
  have hX0 : Blk W0 w.heap.size 26 (ndv k0 num key A kids.length cap) := by rw [hW0.out]; exact (Blk.new w _ _).alloc _
  have hY0 : Blk W0 (w.heap.size + 1) 26 (ndv l0 num2 key2 A2 kids2.length cap2) := by rw [hW0.out]; exact Blk.at_ _ _ (by simp)
  have HN := Lib.hid fun W (hW : Below w.heap.size w W) => hN.below hW
  have HM := Lib.hid fun W (hW : Below w.heap.size w W) => hM.below hW
  have HT := Lib.hid fun W (hW : Below w.heap.size w W) => tabs_below h2 hW hT
  have HBX := Lib.hid hbx
  have HX0 := Lib.hid hX0
  have HY0 := Lib.hid hY0
  obtain ⟨R, hR⟩ : ∃ R, Hid (R = min (sz n (.mk k0 num key kids)) 1048577) := ⟨_, Lib.hid rfl⟩
  obtain ⟨S, hS⟩ : ∃ S, Hid (S = min (sz m (.mk l0 num2 key2 kids2)) 1048577) := ⟨_, Lib.hid rfl⟩
  have hnb := Lib.hid fun W (hW : Below w.heap.size w W) => nodeBytes_any n (.mk k0 num key kids) _ 1048576 w.heap.size W (HN.out _ hW) hW.size (by omega)
  rw [show (1048576 + 1 : Nat) = 1048577 from rfl, ← hR.out] at hnb
  rw [show ((1048576 : Nat) : Int) = 1048576 from rfl] at hnb
  have hmb := Lib.hid fun W (hW : Below w.heap.size w W) => nodeBytes_any m (.mk l0 num2 key2 kids2) _ 1048576 w.heap.size W (HM.out _ hW) hW.size (by omega)
  rw [show (1048576 + 1 : Nat) = 1048577 from rfl, ← hS.out] at hmb
  rw [show ((1048576 : Nat) : Int) = 1048576 from rfl] at hmb
  unfold NbR at hnb hmb
  have hRl : R ≤ 1048577 := by rw [hR.out]; exact Nat.min_le_right _ _
  have hSl : S ≤ 1048577 := by rw [hS.out]; exact Nat.min_le_right _ _
  have hw0 := hW0.out
  unfold ndv at hw0
  clear hN hM hT hbx hbx0 hX0 hY0
  by_cases hbig : q.size ≤ 1048576 ∧ k.size ≤ 1048576 ∧ ks.size ≤ 1048576 ∧ k2.size ≤ 1048576 ∧ ks2.size ≤ 1048576
  · obtain ⟨hq, hk, hs, hk2, hs2⟩ := hbig
    have i0 : ¬ ((1048576 : Int) < (q.size : Int)) := by omega
    have i1 : ¬ ((1048576 : Int) < (k.size : Int)) := by omega
    have i2 : ¬ ((1048576 : Int) < (ks.size : Int)) := by omega
    have i3 : ¬ ((1048576 : Int) < (k2.size : Int)) := by omega
    have i4 : ¬ ((1048576 : Int) < (ks2.size : Int)) := by omega
    obtain ⟨c0, c1, c2, c3⟩ := cl4 HX0.out
    obtain ⟨d0, d1, d2, d3⟩ := cl4 HY0.out
    have hadd : IntKind.i64.wrap ((q.size : Int) + (k.size : Int)) = (q.size : Int) + (k.size : Int) ∧ IntKind.i64.wrap ((q.size : Int) + (k.size : Int) + (ks.size : Int)) = (q.size : Int) + (k.size : Int) + (ks.size : Int) ∧
      IntKind.i64.wrap ((q.size : Int) + (k.size : Int) + (ks.size : Int) + (k2.size : Int)) = (q.size : Int) + (k.size : Int) + (ks.size : Int) + (k2.size : Int) ∧ IntKind.i64.wrap ((q.size : Int) + (k.size : Int) + (ks.size : Int) + (k2.size : Int) + (ks2.size : Int)) = (q.size : Int) + (k.size : Int) + (ks.size : Int) + (k2.size : Int) + (ks2.size : Int) ∧
      IntKind.i64.wrap ((q.size : Int) + (k.size : Int) + (ks.size : Int) + (k2.size : Int) + (ks2.size : Int) + (R : Int)) = (q.size : Int) + (k.size : Int) + (ks.size : Int) + (k2.size : Int) + (ks2.size : Int) + (R : Int) ∧
      IntKind.i64.wrap ((q.size : Int) + (k.size : Int) + (ks.size : Int) + (k2.size : Int) + (ks2.size : Int) + (R : Int) + (S : Int)) = (q.size : Int) + (k.size : Int) + (ks.size : Int) + (k2.size : Int) + (ks2.size : Int) + (R : Int) + (S : Int) := by
      refine ⟨?_, ?_, ?_, ?_, ?_, ?_⟩ <;> (simp [IntKind.wrap, IntKind.signed, IntKind.bits]; omega)
    obtain ⟨a1, a2, a3, a4, a5, a6⟩ := hadd
    go_enter Tryd.func6, Tryd.ntmps6
    go_wp2_with fail
    rw [← hw0]
    clear hw0
    go_region_held3 (fun W => W.cell? ⟨w.heap.size, 0, none⟩ = some (.int .u8 k0) ∧ W.cell? ⟨w.heap.size, 1, none⟩ = some (.string num) ∧ W.cell? ⟨w.heap.size, 2, none⟩ = some (.string key) ∧ W.cell? ⟨w.heap.size, 3, none⟩ = some (.slice A kids.length cap) ∧
        W.cell? ⟨w.heap.size + 1, 0, none⟩ = some (.int .u8 l0) ∧ W.cell? ⟨w.heap.size + 1, 1, none⟩ = some (.string num2) ∧ W.cell? ⟨w.heap.size + 1, 2, none⟩ = some (.string key2) ∧ W.cell? ⟨w.heap.size + 1, 3, none⟩ = some (.slice A2 kids2.length cap2))
      (first | exact ⟨c0, c1, c2, c3, d0, d1, d2, d3⟩ | exact kA.out | exact kB.out)
      (first
        | (go_at_call 13; ((with_reducible refine (hnb.out _ HBX.out.drew).mono ?_); rintro eA wA ⟨rfl, hbA'⟩; have hbA := ((Below.refl W0.heap.size W0).drew).trans (show Below W0.heap.size W0.drew wA from hbA'); have HBA := Lib.hid (HBX.out.trans (hbA.mono HBX.out.size)); have HXA := Lib.hid (HX0.out.below hbA HX0.out.lt); have HYA := Lib.hid (HY0.out.below hbA HY0.out.lt); have kA := Lib.hid (cells8 HXA.out HYA.out); clear hbA' hbA))
        | (go_at_call 13; ((with_reducible refine (hmb.out _ HBA.out).mono ?_); rintro eB wB ⟨rfl, hbB'⟩; have HBB := Lib.hid (HBA.out.trans (hbB'.mono HBA.out.size)); have HXB := Lib.hid (HXA.out.below hbB' HXA.out.lt); have HYB := Lib.hid (HYA.out.below hbB' HYA.out.lt); have kB := Lib.hid (cells8 HXB.out HYB.out); clear hbB')))
    clear c0 c1 c2 c3 d0 d1 d2 d3
    by_cases hz : q.size + k.size + ks.size + k2.size + ks2.size + R + S ≤ 1048576
    · have hszn : sz n (.mk k0 num key kids) ≤ 1048576 := by have := hR.out; omega
      have hszm : sz m (.mk l0 num2 key2 kids2) ≤ 1048576 := by have := hS.out; omega
      have i5 : ¬ ((1048576 : Int) < (q.size : Int) + (k.size : Int) + (ks.size : Int) + (k2.size : Int) + (ks2.size : Int) + (R : Int) + (S : Int)) := by omega
      obtain ⟨c0, c1, c2, c3⟩ := cl4 HXB.out
      have hko := Lib.hid (kvOf_any n k0 num key k ks A cap w.heap.size kids wB (HN.out wB HBB.out) HBB.out.size hszn)
      unfold ndv at hko
      have hle := kvT_le n k ks (.mk k0 num key kids) hk hs hszn
      have hle2 := kvT_le m k2 ks2 (.mk l0 num2 key2 kids2) hk2 hs2 hszm
      obtain ⟨X, hX, _, hXs⟩ := str_of (kvT n k ks (.mk k0 num key kids))
      obtain ⟨Y, hY, _, hYs⟩ := str_of (kvT m k2 ks2 (.mk l0 num2 key2 kids2))
      have hKQ0 : (⟨(q.data.toList ++ kvT n k ks (.mk k0 num key kids) ++ kvT m k2 ks2 (.mk l0 num2 key2 kids2)).toArray⟩ : ByteArray) = q ++ X ++ Y := by
        have h1 := str_app (q ++ X) (kvT m k2 ks2 (.mk l0 num2 key2 kids2))
        rw [← hY.out] at h1
        rw [← h1, hX.out]
        congr 3
      have hwr := Lib.hid fun (c d : Nat) (W : World) (hW : 2 ≤ W.heap.size) (hT : Lib.Utf8Tabs 0 1 W) (hC : KvAt W 0 W.heap.size n c k ks (.mk k0 num key kids)) (hD : KvAt W 0 W.heap.size m d k2 ks2 (.mk l0 num2 key2 kids2)) => kvWrite2 n m c d q k ks k2 ks2 (.mk k0 num key kids) (.mk l0 num2 key2 kids2) W hW hT hC hD hs hs2 (by omega)
      have hs1 := Lib.hid fun (c : Nat) (W : World) (hW : 2 ≤ W.heap.size) (hT : Lib.Utf8Tabs 0 1 W) (hC : KvAt W 0 W.heap.size n c k ks (.mk k0 num key kids)) => kvString n c k ks (.mk k0 num key kids) W hW hT hC hs (by omega)
      have hs2' := Lib.hid fun (c : Nat) (W : World) (hW : 2 ≤ W.heap.size) (hT : Lib.Utf8Tabs 0 1 W) (hC : KvAt W 0 W.heap.size m c k2 ks2 (.mk l0 num2 key2 kids2)) => kvString m c k2 ks2 (.mk l0 num2 key2 kids2) W hW hT hC hs2 (by omega)
      unfold RnR at hwr hs1 hs2'
      rw [hKQ0] at hwr
      rw [← hX.out] at hs1
      rw [← hY.out] at hs2'
      clear hKQ0
      go_wp2_with fail
      with_reducible refine (hko.out).mono ?_
      rintro e2 wC ⟨c, rfl, hC, hbC⟩
      have HBC := Lib.hid (HBB.out.trans (hbC.mono HBB.out.size))
      have HYC := Lib.hid (HYB.out.below hbC HYB.out.lt)
      have HC := Lib.hid hC
      clear c0 c1 c2 c3 hC hbC hko
      obtain ⟨d0, d1, d2, d3⟩ := cl4 HYC.out
      have hko2 := Lib.hid (kvOf_any m l0 num2 key2 k2 ks2 A2 cap2 w.heap.size kids2 wC (HM.out wC HBC.out) HBC.out.size hszm)
      unfold ndv at hko2
      go_wp2_with fail
      with_reducible refine (hko2.out).mono ?_
      rintro e3 wD ⟨d, rfl, hD, hbD⟩
      have HBD := Lib.hid (HBC.out.trans (hbD.mono HBC.out.size))
      have HD := Lib.hid hD
      have HCD := Lib.hid ((HC.out.below hbD).wide hbD.size)
      clear d0 d1 d2 d3 hD hbD hko2
      have hw2 := Lib.hid (hwr.out c d wD (Nat.le_trans h2 HBD.out.size) (HT.out _ HBD.out) HCD.out HD.out)
      have b1 : q.size + X.size ≤ 9223372036854775807 := by omega
      have b2 : (q ++ X).size + Y.size ≤ 9223372036854775807 := by rw [ByteArray.size_append]; omega
      have ha1 := fun W => run_string_add_sum (P := Tryd.prog) W q X b1
      have ha2 := fun W => run_string_add_sum (P := Tryd.prog) W (q ++ X) Y b2
      go_wp2_with fail
      with_reducible refine (hw2.out).mono ?_
      rintro e4 wE ⟨rfl, hbE⟩
      have HBE := Lib.hid (HBD.out.trans (hbE.mono HBD.out.size))
      have HCE := Lib.hid ((HCD.out.below hbE).wide hbE.size)
      have HDE := Lib.hid ((HD.out.below hbE).wide hbE.size)
      clear hbE hw2
      have hp1 := Lib.hid (hs1.out c wE (Nat.le_trans h2 HBE.out.size) (HT.out _ HBE.out) HCE.out)
      go_wp2_with fail
      with_reducible refine (hp1.out).mono ?_
      rintro e5 wF ⟨rfl, hbF⟩
      have HBF := Lib.hid (HBE.out.trans (hbF.mono HBE.out.size))
      have HDF := Lib.hid ((HDE.out.below hbF).wide hbF.size)
      clear hbF hp1
      have hp2 := Lib.hid (hs2'.out d wF (Nat.le_trans h2 HBF.out.size) (HT.out _ HBF.out) HDF.out)
      go_wp2_with fail
      with_reducible refine (hp2.out).mono ?_
      rintro e6 wG ⟨rfl, hbG⟩
      have HBG := Lib.hid (HBF.out.trans (hbG.mono HBF.out.size))
      clear hbG hp2
      go_wp2_with fail
      go_ret
      exact ⟨by simp, HBG.out⟩
    · have i5 : ((1048576 : Int) < (q.size : Int) + (k.size : Int) + (ks.size : Int) + (k2.size : Int) + (ks2.size : Int) + (R : Int) + (S : Int)) := by omega
      go_wp2_with fail
      go_ret
      exact ⟨rfl, HBB.out⟩
  · have hbig' : (1048576 : Int) < (q.size : Int) ∨ (1048576 : Int) < (k.size : Int) ∨ (1048576 : Int) < (ks.size : Int) ∨ (1048576 : Int) < (k2.size : Int) ∨ (1048576 : Int) < (ks2.size : Int) := by omega
    rcases Classical.em ((1048576 : Int) < (q.size : Int)) with j0 | j0
    · go_enter Tryd.func6, Tryd.ntmps6
      go_wp2_with fail
      rw [← hw0]
      go_ret
      exact ⟨rfl, HBX.out⟩
    rcases Classical.em ((1048576 : Int) < (k.size : Int)) with j1 | j1
    · go_enter Tryd.func6, Tryd.ntmps6
      go_wp2_with fail
      rw [← hw0]
      go_ret
      exact ⟨rfl, HBX.out⟩
    rcases Classical.em ((1048576 : Int) < (ks.size : Int)) with j2 | j2
    · go_enter Tryd.func6, Tryd.ntmps6
      go_wp2_with fail
      rw [← hw0]
      go_ret
      exact ⟨rfl, HBX.out⟩
    rcases Classical.em ((1048576 : Int) < (k2.size : Int)) with j3 | j3
    · go_enter Tryd.func6, Tryd.ntmps6
      go_wp2_with fail
      rw [← hw0]
      go_ret
      exact ⟨rfl, HBX.out⟩
    have j4 : (1048576 : Int) < (ks2.size : Int) := by omega
    clear hbig hbig'
    go_enter Tryd.func6, Tryd.ntmps6
    go_wp2_with fail
    rw [← hw0]
    go_ret
    exact ⟨rfl, HBX.out⟩
end Go.Proofs.YtbjjcampiknnpaaDoor
