/- What (*Object).writeTo and String write. -/
import Derived.Test.YtooalmhelfaodaaDoorKvd
import Derived.LoopTactic
namespace Go.Proofs.YtooalmhelfaodaaDoor
open Go.RowKit
set_option maxRecDepth 100000
set_option linter.unusedVariables false
structure It where
  key : ByteArray
  kq : Option Leaf
  val : Option Leaf
def It.wt (x : It) : Nat := x.key.size + wtO x.kq + wtO x.val + 8
def It.txt (x : It) : List UInt8 := outKV x.key x.kq x.val []
theorem It.txt_len (x : It) : x.txt.length ≤ x.wt := by
  have := outKV_len x.key x.kq x.val []
  simp only [List.length_nil] at this
  unfold It.txt It.wt; omega
theorem OptQ.plain {w : World} {B : Nat} {v : Value} {x : Leaf} (h : OptQ w B v (some x)) : x.plain = true := h.1
theorem KvIs.app {w : World} {B e : Nat} {key : ByteArray} {kq val : Option Leaf} (h : KvIs w B e key kq val) (l : List UInt8) : outKV key kq val l = l ++ outKV key kq val [] := by
  obtain ⟨_, p, v, _, hp, hv⟩ := h
  have hK : ∀ l, outK key kq l = l ++ outK key kq [] := by
    intro l
    unfold outK
    by_cases h : key.size ≠ 0
    · rw [if_pos h, if_pos h]; rfl
    · rw [if_neg h, if_neg h]
      cases kq with
      | none => simp
      | some x =>
        show outL x (l ++ [40]) ++ [41] = l ++ (outL x ([] ++ [40]) ++ [41])
        rw [outL_plain hp.1, outL_plain hp.1 ([] ++ [40])]
        simp
  cases val with
  | none => exact hK l
  | some x =>
    show outL x (outK key kq l ++ [58, 32]) = l ++ outL x (outK key kq [] ++ [58, 32])
    rw [outL_plain hv.1, outL_plain hv.1 (outK key kq [] ++ [58, 32]), hK]
    simp
/-- the pairs' texts, a comma and a blank between -/
def tailT : List It → List UInt8
  | [] => []
  | x :: r => [44, 32] ++ x.txt ++ tailT r
def joinT : List It → List UInt8
  | [] => []
  | x :: r => x.txt ++ tailT r
theorem tailT_append (a b : List It) : tailT (a ++ b) = tailT a ++ tailT b := by
  induction a with
  | nil => rfl
  | cons x r ih => simp [tailT, ih]
theorem joinT_snoc (a : List It) (x : It) (h : a ≠ []) : joinT (a ++ [x]) = joinT a ++ [44, 32] ++ x.txt := by
  cases a with
  | nil => exact absurd rfl h
  | cons y r => simp [joinT, tailT_append, tailT]
theorem joinT_one (x : It) : joinT [x] = x.txt := by simp [joinT, tailT]
def wtS (xs : List It) : Nat := (xs.map It.wt).sum
theorem wtS_append (a b : List It) : wtS (a ++ b) = wtS a + wtS b := by simp [wtS]
theorem wtS_take (xs : List It) (k : Nat) : wtS (xs.take k) ≤ wtS xs := by
  have := wtS_append (xs.take k) (xs.drop k)
  rw [List.take_append_drop] at this; omega
theorem tailT_len (xs : List It) : (tailT xs).length ≤ wtS xs + 2 * xs.length := by
  induction xs with
  | nil => exact Nat.le_refl _
  | cons x r ih => have := x.txt_len; simp [tailT, wtS] at ih ⊢; omega
theorem joinT_len (xs : List It) : (joinT xs).length ≤ wtS xs + 2 * xs.length := by
  cases xs with
  | nil => exact Nat.le_refl _
  | cons x r => have := x.txt_len; have := tailT_len r; simp [joinT, wtS] at this ⊢; omega
theorem wtS_ge (xs : List It) : 8 * xs.length ≤ wtS xs := by
  induction xs with
  | nil => exact Nat.le_refl _
  | cons x r ih => have : 8 ≤ x.wt := by unfold It.wt; omega
                   simp [wtS] at ih ⊢; omega
def objT (xs : List It) : List UInt8 := if xs.isEmpty then [123, 125] else [123, 32] ++ joinT xs ++ [32, 125]
theorem objT_len (xs : List It) : (objT xs).length ≤ 2 * wtS xs + 8 := by
  have h := joinT_len xs
  have h2 := wtS_ge xs
  unfold objT
  split
  · simp
  · simp; omega
/-- the k-th pointer of the object's list -/
def PtrAt (w : World) (B L k : Nat) (x : It) : Prop := ∃ e, w.cell? ⟨L, k, none⟩ = some (.pointer (some ⟨e, 0, none⟩)) ∧ KvIs w B e x.key x.kq x.val
/-- block o is the object of these pairs -/
def ObjIs (w : World) (B o : Nat) (xs : List It) : Prop :=
  o < B ∧ ∃ A c, Blk w o 33 #[.slice A xs.length c] ∧ ∀ k x, xs[k]? = some x → ∃ L, A = some ⟨L, 0, none⟩ ∧ L < B ∧ PtrAt w B L k x
theorem PtrAt.below {w w' : World} {B L k : Nat} {x : It} (hb : Below B w w') (hL : L < B) (h : PtrAt w B L k x) : PtrAt w' B L k x := by
  obtain ⟨e, h1, h2⟩ := h
  exact ⟨e, (hb.cell (p := ⟨L, k, none⟩) hL).trans h1, h2.below hb⟩
theorem ObjIs.below {w w' : World} {B o : Nat} {xs : List It} (hb : Below B w w') (h : ObjIs w B o xs) : ObjIs w' B o xs := by
  obtain ⟨h1, A, c, h2, h3⟩ := h
  refine ⟨h1, A, c, h2.below hb h1, fun k x hx => ?_⟩
  obtain ⟨L, h4, h5, h6⟩ := h3 k x hx
  exact ⟨L, h4, h5, h6.below hb h5⟩
theorem ObjIs.mono {w : World} {B B' o : Nat} {xs : List It} (hB : B ≤ B') (h : ObjIs w B o xs) : ObjIs w B' o xs := by
  obtain ⟨h1, A, c, h2, h3⟩ := h
  refine ⟨Nat.lt_of_lt_of_le h1 hB, A, c, h2, fun k x hx => ?_⟩
  obtain ⟨L, h4, h5, e, h6, h7⟩ := h3 k x hx
  exact ⟨L, h4, Nat.lt_of_lt_of_le h5 hB, e, h6, h7.mono hB⟩
theorem lit2 (n : Nat) (a b : UInt8) (h : n + 2 ≤ 70368744177664) : n + (⟨#[a, b]⟩ : ByteArray).size ≤ 70368744177664 := h
set_option maxHeartbeats 2000000 in
theorem obj_write (B b o : Nat) (xs : List It) (l : List UInt8) (w : World) (h : Bd B b l w) (hx : ObjIs w B o xs) (hl : l.length + 2 * wtS xs + 8 ≤ 70368744177664) :
    Calls Tryd.prog 58 #[.pointer (some ⟨o, 0, none⟩), .pointer (some ⟨b, 0, none⟩)] w (Wrote B b (l ++ objT xs) w) := by
  obtain ⟨ho, A, c, hB, hp⟩ := hx
  have c0 : w.cell? ⟨o, 0, none⟩ = some (.slice A xs.length c) := hB.cell 0
  have hge := wtS_ge xs
  clear hB
  have HP := Lib.hid hp
  clear hp
  by_cases h0 : xs.length = 0
  · have hxs : xs = [] := List.eq_nil_of_length_eq_zero h0
    subst hxs
    have hw := Lib.hid (wStr B b l ⟨#[123, 125]⟩ w h (lit2 _ _ _ (by omega)))
    clear h0
    go_enter Tryd.func58, Tryd.ntmps58
    go_wp2_with fail
    with_reducible refine (hw.out).mono ?_
    rintro e1 w1 ⟨rfl, h1, hb1⟩
    go_wp2_with fail
    go_end0
    exact ⟨rfl, h1, hb1⟩
  · have he : objT xs = [123, 32] ++ joinT xs ++ [32, 125] := by
      unfold objT
      cases xs with
      | nil => exact absurd rfl h0
      | cons => rfl
    have HE := Lib.hid he
    clear he
    have hn : 0 < xs.length := by omega
    have hn0 : ((xs.length : Int) == 0) = false := by rw [beq_eq_false_iff_ne]; omega
    have hw := Lib.hid (wStr B b l ⟨#[123, 32]⟩ w h (lit2 _ _ _ (by omega)))
    obtain ⟨L, rfl, hL, _⟩ := HP.out 0 _ (List.getElem?_eq_getElem hn)
    have HQ : Hid (∀ k x, xs[k]? = some x → PtrAt w B L k x) := by
      intro k x hk
      obtain ⟨L', e, _, h3⟩ := HP.out k x hk
      injection e with e
      injection e with e
      subst e
      exact h3
    clear HP
    have hjl := joinT_len xs
    go_enter Tryd.func58, Tryd.ntmps58
    go_wp2_with fail
    with_reducible refine (hw.out).mono ?_
    rintro e1 w1 ⟨rfl, h1, hb1⟩
    have c1 : w1.cell? ⟨o, 0, none⟩ = some (.slice (some ⟨L, 0, none⟩) xs.length c) := ((bcell hb1).1 o 0 ho).trans c0
    clear c0 hn0 h0
    go_wp2_with fail
    go_loopw [21] (fun i wr => ∃ k : Nat, i = .int .i64 k ∧ k ≤ xs.length ∧ Bd B b (l ++ [123, 32] ++ joinT (xs.take k)) wr ∧ Below B w wr) (fun i _ => xs.length - (intOf i).toNat)
    case atStart => exact ⟨0, rfl, by omega, by simpa [joinT] using h1, hb1⟩
    case round =>
      obtain ⟨k, rfl, hk, hbd, hbw⟩ := hrel
      clear c1
      by_cases hlt : k < xs.length
      · have hx := List.getElem?_eq_getElem hlt
        obtain ⟨e, hce, hKe⟩ := (HQ.out k _ hx).below hbw hL
        have ht : xs.take (k + 1) = xs.take k ++ [xs[k]] := List.take_succ_eq_append_getElem hlt
        have hts := wtS_take xs (k + 1)
        rw [ht, wtS_append] at hts
        have hone : wtS [xs[k]] = xs[k].wt := by simp [wtS]
        have hjk := joinT_len (xs.take k)
        have htl : (xs.take k).length = k := by simp; omega
        rw [htl] at hjk
        have hwt : xs[k].wt = xs[k].key.size + wtO xs[k].kq + wtO xs[k].val + 8 := rfl
        have HB : (l ++ [123, 32] ++ joinT (xs.take k)).length + xs[k].wt + 4 ≤ 70368744177664 := by simp; omega
        have HTT := Lib.hid ht
        clear ht hone hts hjk
        have HW := Lib.hid hwt
        clear hwt
        have HX := Lib.hid hx
        have HTL := Lib.hid htl
        clear hx htl
        by_cases hk0 : k = 0
        · have H0 := Lib.hid hk0
          have hkk : k ≤ 0 := by omega
          clear hk0
          have hK := Lib.hid (kv_any B b e xs[k].key xs[k].kq xs[k].val _ wr hbd hKe (by have := HW.out; omega))
          have ho := Lib.hid (hKe.app (l ++ [123, 32] ++ joinT (xs.take k)))
          clear hKe
          go_wp2_with fail
          with_reducible refine (hK.out).mono ?_
          rintro e2 w2 ⟨rfl, h2, hb2⟩
          go_wp2_with fail
          go_roundw
          case rel =>
            refine ⟨k + 1, by go_num, by omega, ?_, hbw.trans hb2⟩
            rw [HTT.out]
            rw [ho.out] at h2
            have h0 := H0.out
            subst h0
            simpa [joinT, tailT, It.txt] using h2
          case measure => simp [intOf]; omega
        · have hkk : 0 < k := by omega
          have hw := Lib.hid (wStr B b _ ⟨#[44, 32]⟩ wr hbd (lit2 _ _ _ (by omega)))
          clear hk0
          go_wp2_with fail
          with_reducible refine (hw.out).mono ?_
          rintro e2 w2 ⟨rfl, h2, hb2⟩
          have hKe2 := hKe.below hb2
          have hK := Lib.hid (kv_any B b e xs[k].key xs[k].kq xs[k].val _ w2 h2 hKe2 (by have := HW.out; rw [List.length_append]; show _ + 2 + _ + _ + _ + _ ≤ _; omega))
          have ho := Lib.hid (hKe2.app (l ++ [123, 32] ++ joinT (xs.take k) ++ [44, 32]))
          clear hKe hKe2
          go_wp2_with fail
          with_reducible refine (hK.out).mono ?_
          rintro e3 w3 ⟨rfl, h3, hb3⟩
          go_wp2_with fail
          go_roundw
          case rel =>
            refine ⟨k + 1, by go_num, by omega, ?_, (hbw.trans hb2).trans hb3⟩
            rw [HTT.out, joinT_snoc _ _ (by intro hc; have := HTL.out; rw [hc] at this; simp at this; omega)]
            have h4 : outKV xs[k].key xs[k].kq xs[k].val (l ++ [123, 32] ++ joinT (xs.take k) ++ (⟨#[44, 32]⟩ : ByteArray).data.toList) = _ := ho.out
            rw [h4] at h3
            simpa [It.txt] using h3
          case measure => simp [intOf]; omega
      · have hk2 : xs.take k = xs := List.take_of_length_le (by omega)
        rw [hk2] at hbd
        clear hk2
        have hw := Lib.hid (wStr B b _ ⟨#[32, 125]⟩ wr hbd (lit2 _ _ _ (by simp; omega)))
        go_wp2_with fail
        with_reducible refine (hw.out).mono ?_
        rintro e2 w2 ⟨rfl, h2, hb2⟩
        go_wp2_with fail
        go_end0
        refine ⟨rfl, ?_, hbw.trans hb2⟩
        rw [HE.out]
        simpa using h2
end Go.Proofs.YtooalmhelfaodaaDoor
