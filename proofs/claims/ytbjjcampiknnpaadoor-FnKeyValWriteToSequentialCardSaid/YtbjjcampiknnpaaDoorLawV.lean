/- The walk of FnKeyValWriteToAfterAnyPrefix: true at every prefix, key, string key and tree. -/
import Derived.Test.YtbjjcampiknnpaaDoorKx
namespace Go.Proofs.YtbjjcampiknnpaaDoor
open Go.RowKit
set_option maxRecDepth 100000
set_option linter.unusedVariables false
set_option linter.unusedSimpArgs false
theorem str_app (q : ByteArray) (l : List UInt8) : (⟨(q.data.toList ++ l).toArray⟩ : ByteArray) = q ++ ⟨l.toArray⟩ := by
  have h : ((⟨(q.data.toList ++ l).toArray⟩ : ByteArray)).data.toList = (q ++ ⟨l.toArray⟩).data.toList := by simp [ByteArray.data_append]
  generalize (⟨(q.data.toList ++ l).toArray⟩ : ByteArray) = a at *
  generalize (q ++ ⟨l.toArray⟩) = b at *
  obtain ⟨a⟩ := a; obtain ⟨b⟩ := b
  congr
  exact Array.toList_inj.1 h
set_option maxHeartbeats 8000000 in
theorem law_after (q k ks : ByteArray) (n k0 : Nat) (num key : ByteArray) (A : Option Addr) (cap : Nat) (kids : List Nd) (w : World) (hN : NdAt w w.heap.size n (.agg #[.int .u8 k0, .string num, .string key, .slice A kids.length cap]) (.mk k0 num key kids)) (hT : Lib.Utf8Tabs 0 1 w) :
    Calls Tryd.prog 5 #[.string q, .string k, .string ks, .agg #[.int .u8 k0, .string num, .string key, .slice A kids.length cap]] w fun e w' => e = .returned (.bool true) ∧ Below w.heap.size w w' := by
  have h2 : 2 ≤ w.heap.size := by
    have h := World.block_lt_of_cell? w _ (hT.2 0 (by omega)).1
    have h' : 1 < w.heap.size := h
    omega
  have hbx : Below w.heap.size w (w.alloc (.cells (ndv k0 num key A kids.length cap) 26)) := (Below.refl _ _).alloc (Nat.le_refl _) _
  have HN := Lib.hid fun W (hW : Below w.heap.size w W) => hN.below hW
  have HT := Lib.hid fun W (hW : Below w.heap.size w W) => tabs_below h2 hW hT
  have HBX := Lib.hid hbx
  have HX0 := Lib.hid (Blk.new w 26 (ndv k0 num key A kids.length cap))
  obtain ⟨R, hR⟩ : ∃ R, Hid (R = min (sz n (.mk k0 num key kids)) 1048577) := ⟨_, Lib.hid rfl⟩
  have hnb := Lib.hid (nodeBytes_any n (.mk k0 num key kids) _ 1048576 w.heap.size _ (HN.out _ hbx) hbx.size (by omega))
  rw [show (1048576 + 1 : Nat) = 1048577 from rfl, ← hR.out] at hnb
  rw [show ((1048576 : Nat) : Int) = 1048576 from rfl] at hnb
  unfold ndv at hnb
  have hRl : R ≤ 1048577 := by rw [hR.out]; exact Nat.min_le_right _ _
  clear hN hT hbx
  by_cases hq : q.size ≤ 1048576
  · by_cases hk : k.size ≤ 1048576
    · by_cases hs : ks.size ≤ 1048576
      · have i0 : ¬ ((1048576 : Int) < (q.size : Int)) := by omega
        have i1 : ¬ ((1048576 : Int) < (k.size : Int)) := by omega
        have i2 : ¬ ((1048576 : Int) < (ks.size : Int)) := by omega
        go_enter Tryd.func5, Tryd.ntmps5
        go_wp2_with fail
        with_reducible refine (hnb.out).mono ?_
        rintro e1 w1 ⟨rfl, hb1⟩
        have HB1 := Lib.hid (HBX.out.trans (hb1.mono HBX.out.size))
        have HX1 := Lib.hid (HX0.out.below hb1 HX0.out.lt)
        clear hb1 hnb
        by_cases hz : q.size + k.size + ks.size + R ≤ 1048576
        · have hszn : sz n (.mk k0 num key kids) ≤ 1048576 := by have := hR.out; omega
          have i3 : ¬ ((1048576 : Int) < (q.size : Int) + (k.size : Int) + (ks.size : Int) + (R : Int)) := by omega
          obtain ⟨c0, c1, c2, c3⟩ := cl4 HX1.out
          have hko := Lib.hid (kvOf_any n k0 num key k ks A cap w.heap.size kids w1 (HN.out w1 HB1.out) HB1.out.size hszn)
          unfold ndv at hko
          have hle := kvT_le n k ks (.mk k0 num key kids) hk hs hszn
          have hKQ0 := str_app q (kvT n k ks (.mk k0 num key kids))
          obtain ⟨Y, X, hY, hX, hKE, hYX⟩ := kv_split n k ks (.mk k0 num key kids)
          have hst := Lib.hid fun (c : Nat) (W : World) (hW : 2 ≤ W.heap.size) (hT : Lib.Utf8Tabs 0 1 W) (hC : KvAt W 0 W.heap.size n c k ks (.mk k0 num key kids)) => kvWrite n c q k ks (.mk k0 num key kids) W hW hT hC hs (by omega)
          have hkp := Lib.hid fun (W : World) (hW : 2 ≤ W.heap.size) (hT : Lib.Utf8Tabs 0 1 W) => keyPart_any k ks W hW hT hs
          have hrn := Lib.hid fun (W : World) (hW : Below w.heap.size w W) => render_any n (.mk k0 num key kids) _ w.heap.size W (HN.out W hW) hW.size hszn
          unfold RnR at hst hkp hrn
          rw [hKQ0, hKE.out, ← ByteArray.append_assoc, ← ByteArray.append_assoc] at hst
          clear hKQ0
          rw [← hY.out] at hkp
          rw [← hX.out] at hrn
          go_wp2_with fail
          with_reducible refine (hko.out).mono ?_
          rintro e2 w2 ⟨c, rfl, hC, hb2⟩
          have HB2 := Lib.hid (HB1.out.trans (hb2.mono HB1.out.size))
          have HX2 := Lib.hid (HX1.out.below hb2 HX1.out.lt)
          have HC := Lib.hid hC
          clear c0 c1 c2 c3 hC hb2 hko
          obtain ⟨c0, c1, c2, c3⟩ := cl4 HX2.out
          have hsd := Lib.hid (hst.out c w2.drew (show 2 ≤ w2.heap.size from Nat.le_trans h2 HB2.out.size) (HT.out _ HB2.out.drew) (show KvAt w2.drew 0 w2.drew.heap.size n c k ks (.mk k0 num key kids) from HC.out.below ((Below.refl w2.heap.size w2).drew)))
          have ha1 := fun W => run_string_add_sum (P := Tryd.prog) W q Y (by omega)
          have ha2 := fun W => run_string_add_sum (P := Tryd.prog) W (q ++ Y) ⟨#[58, 32]⟩ (by rw [ByteArray.size_append]; show _ + 2 ≤ _; omega)
          have ha3 := fun W => run_string_add_sum (P := Tryd.prog) W (q ++ Y ++ ⟨#[58, 32]⟩) X (by rw [ByteArray.size_append, ByteArray.size_append]; show _ + 2 + _ ≤ _; omega)
          go_wp2_with fail
          go_region_held3 (fun W => W.cell? ⟨w.heap.size, 0, none⟩ = some (.int .u8 k0) ∧ W.cell? ⟨w.heap.size, 1, none⟩ = some (.string num) ∧ W.cell? ⟨w.heap.size, 2, none⟩ = some (.string key) ∧ W.cell? ⟨w.heap.size, 3, none⟩ = some (.slice A kids.length cap))
            (first | exact ⟨c0, c1, c2, c3⟩ | exact kA.out | exact kB.out | exact kC.out)
            (first
              | (go_at_call 18; ((with_reducible refine (hsd.out).mono ?_); rintro eA wA ⟨rfl, hbA'⟩; have hbA := ((Below.refl w2.heap.size w2).drew).trans (show Below w2.heap.size w2.drew wA from hbA'); have HBA := Lib.hid (HB2.out.trans (hbA.mono HB2.out.size)); have HXA := Lib.hid (HX2.out.below hbA HX2.out.lt); have kA := Lib.hid (show _ ∧ _ from cl4 HXA.out); clear hbA' hbA))
              | (go_at_call 16; ((with_reducible refine (hkp.out _ (Nat.le_trans h2 HBA.out.size) (HT.out _ HBA.out)).mono ?_); rintro eB wB ⟨rfl, hbB'⟩; have HBB := Lib.hid (HBA.out.trans (hbB'.mono HBA.out.size)); have HXB := Lib.hid (HXA.out.below hbB' HXA.out.lt); have kB := Lib.hid (show _ ∧ _ from cl4 HXB.out); clear hbB'))
              | (go_at_call 17; ((with_reducible refine (hrn.out _ HBB.out).mono ?_); rintro eC wC ⟨rfl, hbC'⟩; have HBC := Lib.hid (HBB.out.trans (hbC'.mono HBB.out.size)); have HXC := Lib.hid (HXB.out.below hbC' HXB.out.lt); have kC := Lib.hid (show _ ∧ _ from cl4 HXC.out); clear hbC')))
          go_wp2_with fail
          go_ret
          exact ⟨by simp, HBC.out⟩
        · have i3 : ((1048576 : Int) < (q.size : Int) + (k.size : Int) + (ks.size : Int) + (R : Int)) := by omega
          go_wp2_with fail
          go_ret
          exact ⟨rfl, HB1.out⟩
      · have i0 : ¬ ((1048576 : Int) < (q.size : Int)) := by omega
        have i1 : ¬ ((1048576 : Int) < (k.size : Int)) := by omega
        have i2 : ((1048576 : Int) < (ks.size : Int)) := by omega
        go_enter Tryd.func5, Tryd.ntmps5
        go_wp2_with fail
        go_ret
        exact ⟨rfl, HBX.out⟩
    · have i1 : ((1048576 : Int) < (k.size : Int)) := by omega
      go_enter Tryd.func5, Tryd.ntmps5
      go_wp2_with fail
      go_ret
      exact ⟨rfl, HBX.out⟩
  · have i0 : ((1048576 : Int) < (q.size : Int)) := by omega
    go_enter Tryd.func5, Tryd.ntmps5
    go_wp2_with fail
    go_ret
    exact ⟨rfl, HBX.out⟩
end Go.Proofs.YtbjjcampiknnpaaDoor
