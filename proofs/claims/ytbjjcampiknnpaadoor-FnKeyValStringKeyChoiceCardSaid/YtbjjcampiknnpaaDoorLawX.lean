/- The walk of FnKeyValStringKeyChoice: true at every key, every two string keys and every tree. -/
import Derived.Test.YtbjjcampiknnpaaDoorKx
import Derived.Test.YtbjjcampiknnpaaDoorVw
namespace Go.Proofs.YtbjjcampiknnpaaDoor
open Go.RowKit
set_option maxRecDepth 100000
set_option linter.unusedVariables false
set_option linter.unusedSimpArgs false
theorem kvT_key {n : Nat} {k a b : ByteArray} {x : Nd} (h : k.size ≠ 0) : kvT n k a x = kvT n k b x := by
  unfold kvT keyP
  rw [if_neg h, if_neg h]
theorem kvT_ne {n : Nat} {a b : ByteArray} {x : Nd} (ha : OkU a.data.toList) (hb : OkU b.data.toList) (hne : a ≠ b) : kvT n ⟨#[]⟩ a x ≠ kvT n ⟨#[]⟩ b x := by
  intro h
  apply hne
  unfold kvT keyP at h
  have z : (⟨#[]⟩ : ByteArray).size = 0 := rfl
  rw [if_pos z, if_pos z] at h
  have h1 := List.append_cancel_right h
  have h2 := List.append_cancel_right h1
  unfold qT at h2
  have h3 := List.append_cancel_right h2
  have h4 := List.append_cancel_left h3
  have h5 := enc_inj ha hb h4
  obtain ⟨a⟩ := a; obtain ⟨b⟩ := b
  congr
  exact Array.toList_inj.1 h5
theorem toList_ne {a b : ByteArray} (h : a ≠ b) : (a.toList == b.toList) = false := by
  rw [beq_eq_false_iff_ne, ByteArray.toList_eq, ByteArray.toList_eq]
  exact fun e => h (Go.WideShapes.bytes_inj e)
theorem str_ne {l m : List UInt8} (h : l ≠ m) : (⟨l.toArray⟩ : ByteArray) ≠ ⟨m.toArray⟩ := by
  intro e
  apply h
  have e2 : l.toArray = m.toArray := by injection e
  have e3 := congrArg Array.toList e2
  simpa using e3
set_option maxHeartbeats 16000000 in
theorem law_choice (k ks1 ks2 : ByteArray) (n k0 : Nat) (num key : ByteArray) (A : Option Addr) (cap : Nat) (kids : List Nd) (w : World) (hN : NdAt w w.heap.size n (.agg #[.int .u8 k0, .string num, .string key, .slice A kids.length cap]) (.mk k0 num key kids)) (hT : Lib.Utf8Tabs 0 1 w) :
    Calls Tryd.prog 7 #[.string k, .string ks1, .string ks2, .agg #[.int .u8 k0, .string num, .string key, .slice A kids.length cap]] w fun e w' => e = .returned (.bool true) ∧ Below w.heap.size w w' := by
  have h2 : 2 ≤ w.heap.size := by
    have h := World.block_lt_of_cell? w _ (hT.2 0 (by omega)).1
    have h' : 1 < w.heap.size := h
    omega
  have hbx : Below w.heap.size w (w.alloc (.cells (ndv k0 num key A kids.length cap) 26)) := (Below.refl _ _).alloc (Nat.le_refl _) _
  have HN := Lib.hid fun W (hW : Below w.heap.size w W) => hN.below hW
  have HT := Lib.hid fun W (hW : Below w.heap.size w W) => tabs_below h2 hW hT
  have HBX := Lib.hid hbx
  have HX0 := Lib.hid (Blk.new w 26 (ndv k0 num key A kids.length cap))
  obtain ⟨R, hR⟩ : ∃ R, Hid (R = min (sz n (.mk k0 num key kids)) 1048577) := ⟨_, Lib.hid rfl⟩
  have hnb := Lib.hid (nodeBytes_any n (.mk k0 num key kids) _ 1048576 w.heap.size _ (HN.out _ hbx) hbx.size (by omega))
  rw [show (1048576 + 1 : Nat) = 1048577 from rfl, ← hR.out] at hnb
  rw [show ((1048576 : Nat) : Int) = 1048576 from rfl] at hnb
  unfold ndv at hnb
  have hRl : R ≤ 1048577 := by rw [hR.out]; exact Nat.min_le_right _ _
  clear hN hT hbx
  by_cases hbig : k.size ≤ 1048576 ∧ ks1.size ≤ 1048576 ∧ ks2.size ≤ 1048576
  · obtain ⟨hk, hs1, hs2⟩ := hbig
    have i1 : ¬ ((1048576 : Int) < (k.size : Int)) := by omega
    have i2 : ¬ ((1048576 : Int) < (ks1.size : Int)) := by omega
    have i3 : ¬ ((1048576 : Int) < (ks2.size : Int)) := by omega
    go_enter Tryd.func7, Tryd.ntmps7
    go_wp2_with fail
    with_reducible refine (hnb.out).mono ?_
    rintro e1 w1 ⟨rfl, hb1⟩
    have HB1 := Lib.hid (HBX.out.trans (hb1.mono HBX.out.size))
    have HX1 := Lib.hid (HX0.out.below hb1 HX0.out.lt)
    clear hb1 hnb
    by_cases hz : k.size + ks1.size + ks2.size + R ≤ 1048576
    · have hszn : sz n (.mk k0 num key kids) ≤ 1048576 := by have := hR.out; omega
      have i4 : ¬ ((1048576 : Int) < (k.size : Int) + (ks1.size : Int) + (ks2.size : Int) + (R : Int)) := by omega
      obtain ⟨c0, c1, c2, c3⟩ := cl4 HX1.out
      have hko := Lib.hid (kvOf_any n k0 num key k ks1 A cap w.heap.size kids w1 (HN.out w1 HB1.out) HB1.out.size hszn)
      unfold ndv at hko
      have hle1 := kvT_le n k ks1 (.mk k0 num key kids) hk hs1 hszn
      have hle2 := kvT_le n k ks2 (.mk k0 num key kids) hk hs2 hszn
      obtain ⟨X, hX, _, hXs⟩ := str_of (kvT n k ks1 (.mk k0 num key kids))
      obtain ⟨Y, hY, _, hYs⟩ := str_of (kvT n k ks2 (.mk k0 num key kids))
      have hst1 := Lib.hid fun (c : Nat) (W : World) (hW : 2 ≤ W.heap.size) (hT : Lib.Utf8Tabs 0 1 W) (hC : KvAt W 0 W.heap.size n c k ks1 (.mk k0 num key kids)) => kvString n c k ks1 (.mk k0 num key kids) W hW hT hC hs1 (by omega)
      have hst2 := Lib.hid fun (c : Nat) (W : World) (hW : 2 ≤ W.heap.size) (hT : Lib.Utf8Tabs 0 1 W) (hC : KvAt W 0 W.heap.size n c k ks2 (.mk k0 num key kids)) => kvString n c k ks2 (.mk k0 num key kids) W hW hT hC hs2 (by omega)
      unfold RnR at hst1 hst2
      rw [← hX.out] at hst1
      rw [← hY.out] at hst2
      go_wp2_with fail
      with_reducible refine (hko.out).mono ?_
      rintro e2 w2 ⟨c, rfl, hC, hb2⟩
      have HB2 := Lib.hid (HB1.out.trans (hb2.mono HB1.out.size))
      have HX2 := Lib.hid (HX1.out.below hb2 HX1.out.lt)
      have hp1 := Lib.hid (hst1.out c w2 (Nat.le_trans h2 HB2.out.size) (HT.out _ HB2.out) hC)
      clear c0 c1 c2 c3 hC hb2 hko
      go_wp2_with fail
      with_reducible refine (hp1.out).mono ?_
      rintro e3 w3 ⟨rfl, hb3⟩
      have HB3 := Lib.hid (HB2.out.trans (hb3.mono HB2.out.size))
      have HX3 := Lib.hid (HX2.out.below hb3 HX2.out.lt)
      clear hb3 hp1
      obtain ⟨c0, c1, c2, c3⟩ := cl4 HX3.out
      have hko := Lib.hid (kvOf_any n k0 num key k ks2 A cap w.heap.size kids w3 (HN.out w3 HB3.out) HB3.out.size hszn)
      unfold ndv at hko
      go_wp2_with fail
      with_reducible refine (hko.out).mono ?_
      rintro e4 w4 ⟨d, rfl, hD, hb4⟩
      have HB4 := Lib.hid (HB3.out.trans (hb4.mono HB3.out.size))
      have hp2 := Lib.hid (hst2.out d w4 (Nat.le_trans h2 HB4.out.size) (HT.out _ HB4.out) hD)
      clear c0 c1 c2 c3 hD hb4 hko
      go_wp2_with fail
      with_reducible refine (hp2.out).mono ?_
      rintro e5 w5 ⟨rfl, hb5⟩
      have HB5 := Lib.hid (HB4.out.trans (hb5.mono HB4.out.size))
      clear hb5 hp2 hst1 hst2
      by_cases hk0 : k.size = 0
      · obtain rfl : k = ⟨#[]⟩ := by
          obtain ⟨d⟩ := k
          have : d.size = 0 := hk0
          rw [Array.eq_empty_of_size_eq_zero this]
        clear hk0
        by_cases hkk : ks1 = ks2
        · have hXY : X = Y := by rw [hX.out, hY.out, hkk]
          subst hkk hXY
          go_wp2_with fail
          go_ret
          exact ⟨by simp, HB5.out⟩
        · have hkb : (ks1.toList == ks2.toList) = false := toList_ne hkk
          have hv1 := Lib.hid (validSay ks1 w5 (by omega))
          have hv2 := Lib.hid (validSay ks2 w5 (by omega))
          have HNE : Hid (OkU ks1.data.toList → OkU ks2.data.toList → X ≠ Y) := Lib.hid fun ha hb => by rw [hX.out, hY.out]; exact str_ne (kvT_ne ha hb hkk)
          clear hX hY
          go_wp2_with fail
          with_reducible refine (hv1.out).mono ?_
          rintro e6 w6 ⟨b, rfl, rfl, hb⟩
          cases b with
          | false =>
            go_wp2_with fail
            go_ret
            exact ⟨rfl, HB5.out⟩
          | true =>
            go_wp2_with fail
            with_reducible refine (hv2.out).mono ?_
            rintro e7 w7 ⟨b2, rfl, rfl, hb2⟩
            cases b2 with
            | false =>
              go_wp2_with fail
              go_ret
              exact ⟨rfl, HB5.out⟩
            | true =>
              have hxy : X ≠ Y := HNE.out (hb trivial) (hb2 rfl)
              have hxb : (X.toList == Y.toList) = false := toList_ne hxy
              clear hb hb2
              go_wp2_with fail
              go_ret
              exact ⟨by simp [hxy], HB5.out⟩
      · have hXY : X = Y := by rw [hX.out, hY.out, kvT_key hk0]
        subst hXY
        obtain ⟨k1, k2⟩ := size_ne' hk0
        clear hk0
        go_wp2_with fail
        go_ret
        exact ⟨by simp, HB5.out⟩
    · have i4 : ((1048576 : Int) < (k.size : Int) + (ks1.size : Int) + (ks2.size : Int) + (R : Int)) := by omega
      go_wp2_with fail
      go_ret
      exact ⟨rfl, HB1.out⟩
  · rcases Classical.em ((1048576 : Int) < (k.size : Int)) with j1 | j1
    · go_enter Tryd.func7, Tryd.ntmps7
      go_wp2_with fail
      go_ret
      exact ⟨rfl, HBX.out⟩
    rcases Classical.em ((1048576 : Int) < (ks1.size : Int)) with j2 | j2
    · go_enter Tryd.func7, Tryd.ntmps7
      go_wp2_with fail
      go_ret
      exact ⟨rfl, HBX.out⟩
    have j3 : (1048576 : Int) < (ks2.size : Int) := by omega
    clear hbig
    go_enter Tryd.func7, Tryd.ntmps7
    go_wp2_with fail
    go_ret
    exact ⟨rfl, HBX.out⟩
end Go.Proofs.YtbjjcampiknnpaaDoor
