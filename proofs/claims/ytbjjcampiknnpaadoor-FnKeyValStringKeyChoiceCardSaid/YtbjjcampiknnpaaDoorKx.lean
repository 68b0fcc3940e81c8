/- kvOf, quoted, keyPart, and the two exported writers of pairs. -/
import Derived.Test.YtbjjcampiknnpaaDoorRn
namespace Go.Proofs.YtbjjcampiknnpaaDoor
open Go.RowKit
set_option maxRecDepth 100000
set_option linter.unusedVariables false
set_option linter.unusedSimpArgs false
/-- a pair lies in memory from block L on -/
def KvAt (w : World) (L B n c : Nat) (k ks : ByteArray) (x : Nd) : Prop := ∃ t, c < B ∧ Blk w c 60 #[.string k, .string ks, .pointer (some ⟨t, 0, none⟩)] ∧ TermAt w L B n t x
theorem KvAt.below {w w' : World} {L B n c : Nat} {k ks : ByteArray} {x : Nd} (hb : Below B w w') (h : KvAt w L B n c k ks x) : KvAt w' L B n c k ks x := by
  obtain ⟨t, h1, h2, h3⟩ := h
  exact ⟨t, h1, h2.below hb h1, h3.below hb⟩
theorem KvAt.wide {w : World} {L B B' n c : Nat} {k ks : ByteArray} {x : Nd} (hB : B ≤ B') (h : KvAt w L B n c k ks x) : KvAt w 0 B' n c k ks x := by
  obtain ⟨t, h1, h2, h3⟩ := h
  exact ⟨t, by omega, h2, h3.wide (Nat.zero_le _) hB⟩
def KvR (n : Nat) (k ks : ByteArray) (x : Nd) (w : World) (e : Ending) (w' : World) : Prop := ∃ c, e = .returned (.pointer (some ⟨c, 0, none⟩)) ∧ KvAt w' 0 w'.heap.size n c k ks x ∧ Below w.heap.size w w'
set_option maxHeartbeats 2000000 in
theorem kvOf_any (n k0 : Nat) (num key k ks : ByteArray) (A : Option Addr) (cap B : Nat) (kids : List Nd) (w : World) (h : NdAt w B n (.agg (ndv k0 num key A kids.length cap)) (.mk k0 num key kids)) (hB : B ≤ w.heap.size) (hz : sz n (.mk k0 num key kids) ≤ 1048576) :
    Calls Tryd.prog 14 #[.string k, .string ks, .agg (ndv k0 num key A kids.length cap)] w (KvR n k ks (.mk k0 num key kids) w) := by
  have hbox : Below w.heap.size w (w.alloc (.cells (ndv k0 num key A kids.length cap) 26)) := (Below.refl _ _).alloc (Nat.le_refl _) _
  have hc := Lib.hid (buildTerm_any n _ _ w.heap.size (w.alloc (.cells (ndv k0 num key A kids.length cap) 26)) ((h.mono hB).below hbox) hbox.size hz)
  have HBX := Lib.hid hbox
  unfold ndv at hc ⊢
  clear hbox h
  go_enter Tryd.func14, Tryd.ntmps14
  go_wp2_with fail
  with_reducible refine (hc.out).mono ?_
  rintro e1 w1 ⟨t, rfl, ht, hb⟩
  have HB1 := Lib.hid (HBX.out.trans (hb.mono HBX.out.size))
  have HT := Lib.hid ht
  clear ht hb
  go_wp2_with fail
  go_ret
  exact ⟨w1.heap.size, rfl, ⟨t, by simp, Blk.new _ _ _, (HT.out.alloc _).wide (Nat.zero_le _) (by simp)⟩, HB1.out.alloc HB1.out.size _⟩
set_option maxHeartbeats 2000000 in
theorem quoted_any (s : ByteArray) (w : World) (hB : 2 ≤ w.heap.size) (hT : Lib.Utf8Tabs 0 1 w) (hs : s.size ≤ 1048576) :
    Calls Tryd.prog 34 #[.string s] w (RnR (qT s) w) := by
  have hbox : Below w.heap.size w (w.alloc (.cells (ctS s) 73)) := (Below.refl _ _).alloc (Nat.le_refl _) _
  have HBX := Lib.hid hbox
  have hc : Hid (Calls Tryd.prog 45 #[.pointer (some ⟨w.heap.size, 0, none⟩)] (w.alloc (.cells (ctS s) 73)) (RnR (qT s) (w.alloc (.cells (ctS s) 73)))) := Lib.hid (by
    have hA := Blk.new w 73 (ctS s)
    have hT1 := tabs_below hB hbox hT
    have hB1 : 2 ≤ (w.alloc (.cells (ctS s) 73)).heap.size := Nat.le_trans hB hbox.size
    have hlt := hA.lt
    clear hbox HBX hT hB
    generalize w.alloc (.cells (ctS s) 73) = W at *
    generalize w.heap.size = t at *
    have hb0 : Below W.heap.size W (W.alloc (.cells #[.pointer none, .slice none 0 0] 48)) := (Below.refl _ _).alloc (Nat.le_refl _) _
    have hK := Lib.hid (termG W.heap.size W.heap.size t [] s _ (Bd.fresh W) hB1 (tabs_below hB1 hb0 hT1) (by simp only [List.length_nil]; omega) (hA.below hb0 hlt))
    clear hA hT1 hlt
    go_enter Tryd.func45, Tryd.ntmps45
    go_wp2_with fail
    with_reducible refine (hK.out).mono ?_
    rintro e1 w1 ⟨rfl, h1, hb1⟩
    go_wp2_with fail
    with_reducible refine (bStr _ _ _ _ h1).mono ?_
    rintro e2 w2 ⟨rfl, h2, hb2⟩
    go_wp2_with fail
    go_ret
    exact ⟨rfl, (hb0.trans hb1).trans hb2⟩)
  clear hT hbox
  unfold ctS at hc
  go_enter Tryd.func34, Tryd.ntmps34
  go_wp2_with fail
  with_reducible refine (hc.out).mono ?_
  rintro e1 w1 ⟨rfl, hb1⟩
  go_wp2_with fail
  go_ret
  exact ⟨rfl, HBX.out.trans (hb1.mono HBX.out.size)⟩
set_option maxHeartbeats 2000000 in
theorem keyPart_any (k ks : ByteArray) (w : World) (hB : 2 ≤ w.heap.size) (hT : Lib.Utf8Tabs 0 1 w) (hs : ks.size ≤ 1048576) :
    Calls Tryd.prog 16 #[.string k, .string ks] w (RnR (keyP k ks) w) := by
  by_cases hk : k.size = 0
  · have hkt : keyP k ks = qT ks := by unfold keyP; rw [if_pos hk]
    obtain rfl : k = ⟨#[]⟩ := by
      obtain ⟨d⟩ := k
      have : d.size = 0 := hk
      rw [Array.eq_empty_of_size_eq_zero this]
    rw [hkt]
    have hc := Lib.hid (quoted_any ks w hB hT hs)
    clear hkt hk hT
    go_enter Tryd.func16, Tryd.ntmps16
    go_wp2_with fail
    with_reducible refine (hc.out).mono ?_
    rintro e1 w1 ⟨rfl, hb1⟩
    go_wp2_with fail
    go_ret
    exact ⟨rfl, hb1⟩
  · have hkt : keyP k ks = k.data.toList := by unfold keyP; rw [if_neg hk]
    obtain ⟨k1, k2⟩ := size_ne' hk
    rw [hkt]
    clear hkt hk hT
    go_enter Tryd.func16, Tryd.ntmps16
    go_wp2_with fail
    go_ret
    exact ⟨rfl, Below.refl _ _⟩
/-- the text of a pair -/
def kvT (n : Nat) (k ks : ByteArray) (x : Nd) : List UInt8 := keyP k ks ++ [58, 32] ++ jT n x
theorem kvString (n c : Nat) (k ks : ByteArray) (x : Nd) (w : World) (hB : 2 ≤ w.heap.size) (hT : Lib.Utf8Tabs 0 1 w) (hC : KvAt w 0 w.heap.size n c k ks x) (hks : ks.size ≤ 1048576) (hl : (kvT n k ks x).length ≤ 1099511627776) :
    Calls Tryd.prog 15 #[.pointer (some ⟨c, 0, none⟩)] w (RnR (kvT n k ks x) w) := by
  obtain ⟨t, _, h2, h3⟩ := hC
  exact kvStr n c t k ks x w hB hT h2 h3 hks (by simp only [kvT, List.length_append, List.length_cons, List.length_nil] at hl; omega)
theorem kvInto (n c B b : Nat) (l : List UInt8) (k ks : ByteArray) (x : Nd) (w W : World) (hB : 2 ≤ B) (hT : Lib.Utf8Tabs 0 1 w) (hC : KvAt w 0 B n c k ks x) (hks : ks.size ≤ 1048576) (hl : l.length + (kvT n k ks x).length ≤ 1099511627776) (hW : Below B w W) (h1 : Bd B b l W) :
    Calls Tryd.prog 33 #[.pointer (some ⟨c, 0, none⟩), .pointer (some ⟨b, 0, none⟩)] W (Wrote B b (l ++ kvT n k ks x) W) := by
  obtain ⟨t, h0, h2, h3⟩ := hC
  exact kvWn n (termW_any n) B b c t l k ks x W h1 hB (tabs_below hB hW hT) h0 (h2.below hW h0) (h3.below hW) hks (by simp only [kvT, List.length_append, List.length_cons, List.length_nil] at hl ⊢; omega)
set_option maxHeartbeats 2000000 in
theorem kvWrite (n c : Nat) (p k ks : ByteArray) (x : Nd) (w : World) (hB : 2 ≤ w.heap.size) (hT : Lib.Utf8Tabs 0 1 w) (hC : KvAt w 0 w.heap.size n c k ks x) (hks : ks.size ≤ 1048576) (hl : p.size + (kvT n k ks x).length ≤ 1099511627776) :
    Calls Tryd.prog 18 #[.pointer (some ⟨c, 0, none⟩), .string p] w (RnR (p.data.toList ++ kvT n k ks x) w) := by
  have hb0 : Below w.heap.size w (w.alloc (.cells #[.pointer none, .slice none 0 0] 48)) := (Below.refl _ _).alloc (Nat.le_refl _) _
  have hp := Lib.hid (wStr w.heap.size w.heap.size [] p _ (Bd.fresh w) (by simp only [List.length_nil]; omega))
  have hK := Lib.hid fun W => kvInto n c w.heap.size w.heap.size ([] ++ p.data.toList) k ks x w W hB hT hC hks (by simp only [List.nil_append, size_list]; omega)
  have HB0 := Lib.hid hb0
  have HC := Lib.hid hC
  clear hb0
  go_enter Tryd.func18, Tryd.ntmps18
  go_wp2_with fail
  with_reducible refine (hp.out).mono ?_
  rintro e1 w1 ⟨rfl, h1, hb1⟩
  have hk := Lib.hid (hK.out w1 (HB0.out.trans hb1) h1)
  have HB1 := Lib.hid (HB0.out.trans hb1)
  clear h1 hb1 hp
  go_wp2_with fail
  with_reducible refine (hk.out).mono ?_
  rintro e2 w2 ⟨rfl, h2, hb2⟩
  have HB2 := Lib.hid (HB1.out.trans hb2)
  have H2 := Lib.hid (h2.of_eq (l' := p.data.toList ++ kvT n k ks x) (by simp [kvT]))
  clear h2 hb2 hk
  go_wp2_with fail
  with_reducible refine (bStr _ _ _ _ H2.out).mono ?_
  rintro e3 w3 ⟨rfl, h3, hb3⟩
  go_wp2_with fail
  go_ret
  exact ⟨rfl, HB2.out.trans hb3⟩
set_option maxHeartbeats 2000000 in
theorem kvWrite2 (n m c d : Nat) (p k ks k2 ks2 : ByteArray) (x y : Nd) (w : World) (hB : 2 ≤ w.heap.size) (hT : Lib.Utf8Tabs 0 1 w) (hC : KvAt w 0 w.heap.size n c k ks x) (hD : KvAt w 0 w.heap.size m d k2 ks2 y) (hks : ks.size ≤ 1048576) (hks2 : ks2.size ≤ 1048576) (hl : p.size + (kvT n k ks x).length + (kvT m k2 ks2 y).length ≤ 1099511627776) :
    Calls Tryd.prog 19 #[.pointer (some ⟨c, 0, none⟩), .pointer (some ⟨d, 0, none⟩), .string p] w (RnR (p.data.toList ++ kvT n k ks x ++ kvT m k2 ks2 y) w) := by
  have hb0 : Below w.heap.size w (w.alloc (.cells #[.pointer none, .slice none 0 0] 48)) := (Below.refl _ _).alloc (Nat.le_refl _) _
  have hp := Lib.hid (wStr w.heap.size w.heap.size [] p _ (Bd.fresh w) (by simp only [List.length_nil]; omega))
  have hK := Lib.hid fun W => kvInto n c w.heap.size w.heap.size ([] ++ p.data.toList) k ks x w W hB hT hC hks (by simp only [List.nil_append, size_list]; omega)
  have hK2 := Lib.hid fun W => kvInto m d w.heap.size w.heap.size (p.data.toList ++ kvT n k ks x) k2 ks2 y w W hB hT hD hks2 (by simp only [List.length_append, size_list]; omega)
  have HB0 := Lib.hid hb0
  have HC := Lib.hid hC
  clear hb0
  go_enter Tryd.func19, Tryd.ntmps19
  go_wp2_with fail
  with_reducible refine (hp.out).mono ?_
  rintro e1 w1 ⟨rfl, h1, hb1⟩
  have hk := Lib.hid (hK.out w1 (HB0.out.trans hb1) h1)
  have HB1 := Lib.hid (HB0.out.trans hb1)
  clear h1 hb1 hp
  go_wp2_with fail
  with_reducible refine (hk.out).mono ?_
  rintro e2 w2 ⟨rfl, h2, hb2⟩
  have HB2 := Lib.hid (HB1.out.trans hb2)
  have hk2 := Lib.hid (hK2.out w2 HB2.out (h2.of_eq (l' := p.data.toList ++ kvT n k ks x) (by simp [kvT])))
  clear h2 hb2 hk
  go_wp2_with fail
  with_reducible refine (hk2.out).mono ?_
  rintro e3 w3 ⟨rfl, h3, hb3⟩
  have HB3 := Lib.hid (HB2.out.trans hb3)
  have H3 := Lib.hid (h3.of_eq (l' := p.data.toList ++ kvT n k ks x ++ kvT m k2 ks2 y) (by simp [kvT]))
  clear h3 hb3 hk2
  go_wp2_with fail
  with_reducible refine (bStr _ _ _ _ H3.out).mono ?_
  rintro e4 w4 ⟨rfl, h4, hb4⟩
  go_wp2_with fail
  go_ret
  exact ⟨by simp, HB3.out.trans hb4⟩
theorem kv_split (n : Nat) (k ks : ByteArray) (x : Nd) : ∃ Y X : ByteArray, Hid (Y = ⟨(keyP k ks).toArray⟩) ∧ Hid (X = ⟨(jT n x).toArray⟩) ∧ Hid ((⟨(kvT n k ks x).toArray⟩ : ByteArray) = Y ++ ⟨#[58, 32]⟩ ++ X) ∧ Y.size + X.size + 2 = (kvT n k ks x).length := by
  refine ⟨_, _, Lib.hid rfl, Lib.hid rfl, Lib.hid ?_, ?_⟩
  · have h : ((⟨(kvT n k ks x).toArray⟩ : ByteArray)).data.toList = ((⟨(keyP k ks).toArray⟩ : ByteArray) ++ ⟨#[58, 32]⟩ ++ ⟨(jT n x).toArray⟩).data.toList := by simp [kvT, ByteArray.data_append]
    generalize (⟨(kvT n k ks x).toArray⟩ : ByteArray) = a at *
    generalize ((⟨(keyP k ks).toArray⟩ : ByteArray) ++ ⟨#[58, 32]⟩ ++ ⟨(jT n x).toArray⟩) = b at *
    obtain ⟨a⟩ := a; obtain ⟨b⟩ := b
    congr
    exact Array.toList_inj.1 h
  · show (keyP k ks).toArray.size + (jT n x).toArray.size + 2 = _
    simp [kvT]
    omega
theorem kvT_le (n : Nat) (k ks : ByteArray) (x : Nd) (hk : k.size ≤ 1048576) (hs : ks.size ≤ 1048576) (hz : sz n x ≤ 1048576) : (kvT n k ks x).length ≤ 9000000 := by
  have h1 := jT_len n x
  have h2 : (keyP k ks).length ≤ 6291458 := by
    unfold keyP
    split
    · have := qT_len ks; omega
    · rw [size_list]; omega
  simp only [kvT, List.length_append, List.length_cons, List.length_nil]
  omega
def Cl4 (W : World) (g : Nat) (k0 : Nat) (num key : ByteArray) (A : Option Addr) (l cap : Nat) : Prop := W.cell? ⟨g, 0, none⟩ = some (.int .u8 k0) ∧ W.cell? ⟨g, 1, none⟩ = some (.string num) ∧ W.cell? ⟨g, 2, none⟩ = some (.string key) ∧ W.cell? ⟨g, 3, none⟩ = some (.slice A l cap)
theorem cl4 {W : World} {g k0 : Nat} {num key : ByteArray} {A : Option Addr} {l cap : Nat} (h : Blk W g 26 (ndv k0 num key A l cap)) : Cl4 W g k0 num key A l cap := ⟨h.cell 0, h.cell 1, h.cell 2, h.cell 3⟩
theorem Cl4.below {W W' : World} {B g k0 : Nat} {num key : ByteArray} {A : Option Addr} {l cap : Nat} (hb : Below B W W') (hg : g < B) (h : Cl4 W g k0 num key A l cap) : Cl4 W' g k0 num key A l cap :=
  ⟨(hb.cell (p := ⟨g, 0, none⟩) hg).trans h.1, (hb.cell (p := ⟨g, 1, none⟩) hg).trans h.2.1, (hb.cell (p := ⟨g, 2, none⟩) hg).trans h.2.2.1, (hb.cell (p := ⟨g, 3, none⟩) hg).trans h.2.2.2⟩
end Go.Proofs.YtbjjcampiknnpaaDoor
