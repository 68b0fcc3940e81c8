/- The walk of FnObjectKeyValStringTable: true at every pair description. -/
import Derived.Test.YtooalmhelfaodaaDoorKvd
import Derived.Deep.RegionHeld3
namespace Go.Proofs.YtooalmhelfaodaaDoor
open Go.RowKit
set_option maxRecDepth 100000
set_option linter.unusedVariables false
theorem box5 {B g : Nat} {W W' : World} {a b c d e : Value} (hb : Below B W W') (hg : g < B) (h : W.cell? ⟨g, 0, none⟩ = some a ∧ W.cell? ⟨g, 1, none⟩ = some b ∧ W.cell? ⟨g, 2, none⟩ = some c ∧ W.cell? ⟨g, 3, none⟩ = some d ∧ W.cell? ⟨g, 4, none⟩ = some e) :
    W'.cell? ⟨g, 0, none⟩ = some a ∧ W'.cell? ⟨g, 1, none⟩ = some b ∧ W'.cell? ⟨g, 2, none⟩ = some c ∧ W'.cell? ⟨g, 3, none⟩ = some d ∧ W'.cell? ⟨g, 4, none⟩ = some e :=
  ⟨(hb.cell (p := ⟨g, 0, none⟩) hg).trans h.1, (hb.cell (p := ⟨g, 1, none⟩) hg).trans h.2.1, (hb.cell (p := ⟨g, 2, none⟩) hg).trans h.2.2.1, (hb.cell (p := ⟨g, 3, none⟩) hg).trans h.2.2.2.1, (hb.cell (p := ⟨g, 4, none⟩) hg).trans h.2.2.2.2⟩
theorem box_new (w : World) (t : TypeId) (a b c d e : Value) : (w.alloc (.cells #[a, b, c, d, e] t)).cell? ⟨w.heap.size, 0, none⟩ = some a ∧ (w.alloc (.cells #[a, b, c, d, e] t)).cell? ⟨w.heap.size, 1, none⟩ = some b ∧ (w.alloc (.cells #[a, b, c, d, e] t)).cell? ⟨w.heap.size, 2, none⟩ = some c ∧ (w.alloc (.cells #[a, b, c, d, e] t)).cell? ⟨w.heap.size, 3, none⟩ = some d ∧ (w.alloc (.cells #[a, b, c, d, e] t)).cell? ⟨w.heap.size, 4, none⟩ = some e :=
  ⟨(Blk.new w t _).cell 0, (Blk.new w t _).cell 1, (Blk.new w t _).cell 2, (Blk.new w t _).cell 3, (Blk.new w t _).cell 4⟩
set_option maxHeartbeats 2000000 in
theorem law_table (k n v : ByteArray) (km vm : Int) (w : World) :
    Calls Tryd.prog 3 #[.agg #[.string k, .int .i64 km, .string n, .int .i64 vm, .string v]] w fun e w' => e = .returned (.bool true) ∧ Below w.heap.size w w' := by
  have hz := Lib.hid fun w => zzb_table k n v km vm w
  have hbx := (Below.refl _ w).alloc (Nat.le_refl _) (.cells #[.string k, .int .i64 km, .string n, .int .i64 vm, .string v] 23)
  by_cases hs : k.size + n.size + v.size ≤ 1048576
  · rw [decide_eq_true hs] at hz
    obtain ⟨m, hm, hkb⟩ : ∃ m : Int, Hid (m = ((k.size + n.size + v.size + 64 : Nat) : Int)) ∧ Hid (∀ w, Calls Tryd.prog 15 #[.agg #[.string k, .int .i64 km, .string n, .int .i64 vm, .string v]] w fun e w' => e = .returned (.int .i64 m) ∧ Below w.heap.size w w') := ⟨_, Lib.hid rfl, Lib.hid fun w => kvBytes_any k n v km vm w hs⟩
    go_enter Tryd.func3, Tryd.ntmps3
    go_wp2_with fail
    with_reducible refine (hz.out _).mono ?_
    rintro e1 w1 ⟨rfl, hb1⟩
    rw [show (w.alloc (.cells #[.string k, .int .i64 km, .string n, .int .i64 vm, .string v] 23)).heap.size = w.heap.size + 1 by simp] at hb1
    have k1 := box5 hb1 (by omega) (box_new w 23 _ _ _ _ _)
    have B1 := hbx.trans (hb1.mono (by omega))
    have s1 := hb1.size
    simp at s1
    obtain ⟨c0, c1, c2, c3, c4⟩ := k1
    go_wp2_with fail
    with_reducible refine (hkb.out _).mono ?_
    rintro e2 w2 ⟨rfl, hb2⟩
    have k2 := box5 hb2 (by omega) ⟨c0, c1, c2, c3, c4⟩
    clear c0 c1 c2 c3 c4
    have B2 := B1.trans (hb2.mono (by omega))
    have s2 := hb2.size
    by_cases hs2 : m ≤ 1048576
    · obtain ⟨c0, c1, c2, c3, c4⟩ := k2
      have hbk := Lib.hid fun w => buildKV_any k n v km vm w
      have hmd := Lib.hid fun w => kvModel_any k n v km vm w hs
      have hle1 := keyS_le km k
      have hle2 := keyQ_le km n
      have hle3 := valL_le vm v
      have k2 := Lib.hid (show w2.cell? ⟨w.heap.size, 0, none⟩ = _ ∧ w2.cell? ⟨w.heap.size, 1, none⟩ = _ ∧ w2.cell? ⟨w.heap.size, 2, none⟩ = _ ∧ w2.cell? ⟨w.heap.size, 3, none⟩ = _ ∧ w2.cell? ⟨w.heap.size, 4, none⟩ = _ from ⟨c0, c1, c2, c3, c4⟩)
      go_wp2_with fail
      go_region_held3 (fun W => W.cell? ⟨w.heap.size, 0, none⟩ = some (.string k) ∧ W.cell? ⟨w.heap.size, 1, none⟩ = some (.int .i64 km) ∧ W.cell? ⟨w.heap.size, 2, none⟩ = some (.string n) ∧ W.cell? ⟨w.heap.size, 3, none⟩ = some (.int .i64 vm) ∧ W.cell? ⟨w.heap.size, 4, none⟩ = some (.string v))
        (first | exact ⟨c0, c1, c2, c3, c4⟩ | exact kA.out | exact kB.out | exact kC.out)
        (first
          | (go_at_call 16; ((with_reducible refine (hbk.out _).mono ?_); rintro eA wA ⟨g, rfl, hgA, hKA, hbA⟩; have kA := Lib.hid (box5 hbA (show w.heap.size < w2.heap.size by omega) k2.out)))
          | (go_at_call 17; ((with_reducible refine (kvString g _ _ _ _ hKA (by omega)).mono ?_); rintro eB wB ⟨rfl, hbB⟩; have kB := Lib.hid (box5 hbB (show w.heap.size < wA.heap.size by have := hbA.size; simp at this; omega) kA.out)))
          | (go_at_call 18; ((with_reducible refine (hmd.out _).mono ?_); rintro eC wC ⟨rfl, hbC⟩; have kC := Lib.hid (box5 hbC (show w.heap.size < wB.heap.size by have := hbA.size; have := hbB.size; simp at *; omega) kB.out))))
      go_wp2_with fail
      go_ret
      have sA := hbA.size
      have sB := hbB.size
      have q1 : w.heap.size ≤ w2.heap.size := by omega
      have q2 : w.heap.size ≤ wA.heap.size := Nat.le_trans q1 sA
      have q3 : w.heap.size ≤ wB.heap.size := Nat.le_trans q2 sB
      refine ⟨?_, (((B2.drew).trans (hbA.mono q1)).trans (hbB.mono q2)).trans (hbC.mono q3)⟩
      exact ret_bool (by unfold kvT; exact beq_self_eq_true _)
    · go_wp2_with fail
      go_ret
      exact ⟨rfl, B2⟩
  · rw [decide_eq_false hs] at hz
    go_enter Tryd.func3, Tryd.ntmps3
    go_wp2_with fail
    with_reducible refine (hz.out _).mono ?_
    rintro e1 w1 ⟨rfl, hb1⟩
    go_wp2_with fail
    go_ret
    exact ⟨rfl, hbx.trans (hb1.mono (by simp))⟩
end Go.Proofs.YtooalmhelfaodaaDoor
