/- appendRuneB2 at a byte below 128. -/
import Derived.Test.YtbjjcampiknnpaaDoorMr
namespace Go.Proofs.YtbjjcampiknnpaaDoor
open Go.RowKit
set_option maxRecDepth 100000
set_option linter.unusedVariables false
set_option linter.unusedSimpArgs false
set_option maxHeartbeats 4000000 in
theorem appRune_small (B b : Nat) (v : Value) (l : List UInt8) (w : World) (h : Txw B v l w) (B_le : B ≤ w.heap.size) (hb : b < 128) (hl : l.length ≤ 100000000) :
    Calls Tryd.prog 38 #[v, .int .i64 b] w (Esc B (l ++ [UInt8.ofNat b]) w) := by
  obtain ⟨i0, hi, hz0, hz1, hz2⟩ := info_parts infoU8
  have HI := Lib.hid hi
  have HZ0 := Lib.hid hz0
  have HZ1 := Lib.hid hz1
  have HZ2 := Lib.hid hz2
  have H := Lib.hid h
  have hgrow : ∀ (o : Obj) (w2 : World), (w.alloc o).grownBy w2 v.ownBlock → Below B w w2 := fun o w2 hg => ((Below.refl B w).alloc B_le o).grown hg (by simp; omega) (fun k hk => (World.ownsRowF.lt h k hk).1)
  have HG := Lib.hid hgrow
  have hbi : (b : Int) < 128 := by omega
  have hcv : ((UInt8.ofNat b).toNat : Int) = b := by rw [UInt8.toNat_ofNat']; omega
  clear hi hz0 hz1 hz2 h hgrow
  go_enter Tryd.func38, Tryd.ntmps38
  go_wp2_with (at_builtin; refine wpList_append_ownF _ rfl _ _ 46 rfl B 5 i0 (.int .u8 0) 1 1 Tryd.underlying46 HI.out HZ0.out HZ1.out HZ2.out rfl (by decide) _ _ _ rfl (World.ownsRowF.alloc H.out _) _ 1 1 [.int .u8 b] rfl rfl (newsA _ _ _ _ (by simp)) (one_u8 _ (by simp)) (by unfold maxLen; omega) (by omega) (by simp; have := B_le; omega) ?_; intro v2 w2 hown hgr _)
  have ht := Lib.hid (Txw.next (m := [UInt8.ofNat b]) rfl (by show _ = [Value.int .u8 ((UInt8.ofNat b).toNat : Int)]; rw [hcv]) hown)
  have hbl := Lib.hid (HG.out _ _ hgr)
  clear hown hgr
  go_wp2_with fail
  go_ret
  exact ⟨v2, rfl, ht.out, hbl.out⟩
end Go.Proofs.YtbjjcampiknnpaaDoor
