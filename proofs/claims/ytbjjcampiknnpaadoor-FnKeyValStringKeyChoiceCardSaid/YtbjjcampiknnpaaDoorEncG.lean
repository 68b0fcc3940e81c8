/- (*encoder).encodeString at every string. -/
import Derived.Test.YtbjjcampiknnpaaDoorEp
import Derived.LoopTactic
import Derived.Deep.LoopGhost
import Derived.StillTailTactics
namespace Go.Proofs.YtbjjcampiknnpaaDoor
open Go.RowKit
set_option maxRecDepth 100000
set_option linter.unusedVariables false
set_option linter.unusedSimpArgs false
def Wrote (B b : Nat) (l : List UInt8) (w : World) (e : Ending) (w' : World) : Prop := e = .returned (.tuple #[]) ∧ Bd B b l w' ∧ Below B w w'
theorem size_list (s : ByteArray) : s.data.toList.length = s.size := Array.length_toList
def WroteK (B b : Nat) (l : List UInt8) (w : World) (v : Value) (e : Ending) (w' : World) : Prop := e = .returned v ∧ Bd B b l w' ∧ Below B w w' ∧ Lib.OthersKept 5 (some b) w w'
theorem wStrK (B b : Nat) (l : List UInt8) (s : ByteArray) (w : World) (h : Bd B b l w) (hl : l.length + s.size ≤ 70368744177664) :
    Calls Tryd.prog 36 #[.pointer (some ⟨b, 0, none⟩), .string s] w (WroteK B b (l ++ s.data.toList) w (.tuple #[.int .i64 s.size, .nilIface])) := by
  refine (writeString_k B b _ s w h.1 (by rw [Lib.byteCells_length]; omega) h.2).mono ?_
  rintro e w' ⟨rfl, h1, h2, h3⟩
  refine ⟨rfl, ⟨?_, Nat.le_trans h.2 h2.size⟩, h2, h3⟩
  rw [Lib.byteCells_append]
  exact Or.inr h1
theorem wByteK (B b : Nat) (l : List UInt8) (x : UInt8) (c : Int) (w : World) (hx : c = (x.toNat : Int)) (h : Bd B b l w) (hl : l.length + 1 ≤ 70368744177664) :
    Calls Tryd.prog 47 #[.pointer (some ⟨b, 0, none⟩), .int .u8 c] w (WroteK B b (l ++ [x]) w .nilIface) := by
  refine (writeByte_k B b _ c w h.1 (by rw [Lib.byteCells_length]; omega) h.2).mono ?_
  rintro e w' ⟨rfl, h1, h2, h3⟩
  refine ⟨rfl, ⟨?_, Nat.le_trans h.2 h2.size⟩, h2, h3⟩
  rw [Lib.byteCells_append]
  subst hx
  exact Or.inr h1
theorem Blk.keptB {w w' : World} {b g : Nat} {t : TypeId} {cs : Array Value} (h : Blk w g t cs) (hk : Lib.OthersKept 5 (some b) w w') (ht : t ≠ 5) (hg : g ≠ b) : Blk w' g t cs :=
  hk g _ h (by intro e; injection e with e; exact hg e) (fun c fz e => by injection e with _ e; exact ht e)
theorem Bd.of_eq {B b : Nat} {l l' : List UInt8} {w : World} (h : Bd B b l w) (e : l' = l) : Bd B b l' w := by rw [e]; exact h
theorem Bd.blt {B b : Nat} {l : List UInt8} {w : World} (h : Bd B b l w) : b < w.heap.size := by
  rcases h.1 with h1 | h1 <;> exact h1.lt
theorem Bd.alloc {B b : Nat} {l : List UInt8} {w : World} (h : Bd B b l w) (o : Obj) : Bd B b l (w.alloc o) := by
  refine ⟨?_, Nat.le_trans h.2 (by simp)⟩
  rcases h.1 with h1 | h1
  · exact Or.inl (h1.alloc o)
  · exact Or.inr (h1.alloc o)
theorem own_below {B : Nat} {e : TypeId} {v : Value} {n : Nat} {xs : List Value} {w w' : World} (h : w.ownsRowF B e 1 v n xs) (hb : Below w.heap.size w w') : w'.ownsRowF B e 1 v n xs := by
  refine ⟨h.1, ?_⟩
  rcases h.2 with hn | ⟨g, cap, cur, fz, hv, hB, hg, rest⟩
  · exact .inl hn
  · exact .inr ⟨g, cap, cur, fz, hv, hB, (hb.block g (Array.getElem?_eq_some_iff.1 hg).1).trans hg, rest⟩
theorem at_below {T e : TypeId} {B b : Nat} {p : Value} {bs : List Value} {w w' : World} (h : Lib.BuilderAtF T e B b p bs w) (hb : Below w.heap.size w w') : Lib.BuilderAtF T e B b p bs w' := by
  have hlt := h.lt
  obtain ⟨h1, v, h2, h3, h4⟩ := h
  exact ⟨h1, v, (hb.block b hlt).trans h2, own_below h3 hb, h4⟩
theorem Bd.below {B b : Nat} {l : List UInt8} {w w' : World} (h : Bd B b l w) (hb : Below w.heap.size w w') : Bd B b l w' := by
  refine ⟨?_, Nat.le_trans h.2 hb.size⟩
  rcases h.1 with h1 | h1
  · exact Or.inl (at_below h1 hb)
  · exact Or.inr (at_below h1 hb)
theorem tabs_below {B : Nat} {w w' : World} (hB : 2 ≤ B) (hb : Below B w w') (h : Lib.Utf8Tabs 0 1 w) : Lib.Utf8Tabs 0 1 w' :=
  ⟨fun c hc => (hb.cell (p := ⟨0, c, none⟩) (show 0 < B by omega)).trans (h.1 c hc), fun i hi => ⟨(hb.cell (p := ⟨1, _, none⟩) (show 1 < B by omega)).trans (h.2 i hi).1, (hb.cell (p := ⟨1, _, none⟩) (show 1 < B by omega)).trans (h.2 i hi).2⟩⟩
theorem meth_wb (a : Addr) (w : World) : (method 208 45 (.pointer (some a)) "WriteByte").run Tryd.prog w = .ok (47, .pointer (some a)) w := by kernel_rfl
theorem meth_ws (a : Addr) (w : World) : (method 208 45 (.pointer (some a)) "WriteString").run Tryd.prog w = .ok (36, .pointer (some a)) w := by kernel_rfl
theorem nil_wb (a : Addr) (w : World) : (nilAhead 208 45 (.pointer (some a)) "WriteByte").run Tryd.prog w = .ok (some false) w := by kernel_rfl
theorem nil_ws (a : Addr) (w : World) : (nilAhead 208 45 (.pointer (some a)) "WriteString").run Tryd.prog w = .ok (some false) w := by kernel_rfl
theorem extract_seg (s : ByteArray) (a j : Nat) : (s.extract a j).data.toList = seg s.data.toList a j := by rw [Lib.extract_data]; rfl
theorem bt_drop (s : ByteArray) (j : Nat) (h : j < s.size) : bt (s.data.toList.drop j) 0 = s[j].toNat := by
  unfold bt
  have hl : j < s.data.toList.length := by rw [size_list]; exact h
  rw [List.getElem?_drop, Nat.add_zero, List.getElem?_eq_getElem hl]
  rfl
/-- the loop's state -/
def EI (B b e : Nat) (cs : Array Value) (L l0 : List UInt8) (w0 : World) (st j : Nat) (D : List UInt8) (w : World) : Prop :=
  st ≤ j ∧ j ≤ L.length ∧ Bd B b (l0 ++ D) w ∧ Blk w e 53 cs ∧ Below B w0 w ∧ Lib.Utf8Tabs 0 1 w ∧ D ++ seg L st j ++ enc (L.drop j) = enc L
theorem EI.len {B b e : Nat} {cs : Array Value} {L l0 : List UInt8} {w0 w : World} {st j : Nat} {D : List UInt8} (h : EI B b e cs L l0 w0 st j D w) : D.length + (seg L st j).length ≤ 6 * L.length := by
  have h1 := congrArg List.length h.2.2.2.2.2.2
  have h2 := enc_len L.length L (Nat.le_refl _)
  simp only [List.length_append] at h1
  omega
theorem EI.keep {B b e : Nat} {cs : Array Value} {L l0 : List UInt8} {w0 w : World} {st j k : Nat} {D : List UInt8} (h : EI B b e cs L l0 w0 st j D w) (hj : j < L.length) (hs : stepL (L.drop j) = (k, none)) (hk : j + k ≤ L.length) : EI B b e cs L l0 w0 st (j + k) D w := by
  obtain ⟨h1, h2, h3, h4, h5, h6, h7⟩ := h
  exact ⟨by omega, hk, h3, h4, h5, h6, inv_keep h1 hj hs h7⟩
theorem EI.below {B b e : Nat} {cs : Array Value} {L l0 : List UInt8} {w0 w w' : World} {st j : Nat} {D : List UInt8} (h : EI B b e cs L l0 w0 st j D w) (hb : Below w.heap.size w w') (hB : 2 ≤ B) : EI B b e cs L l0 w0 st j D w' := by
  obtain ⟨h1, h2, h3, h4, h5, h6, h7⟩ := h
  exact ⟨h1, h2, h3.below hb, h4.below hb h4.lt, h5.trans (hb.mono h3.2), tabs_below hB (hb.mono h3.2) h6, h7⟩
/-- something was written behind -/
theorem EI.wrote {B b e : Nat} {cs : Array Value} {L l0 : List UInt8} {w0 w w' : World} {st j : Nat} {D m : List UInt8} (h : EI B b e cs L l0 w0 st j D w) (hB : 2 ≤ B) (heb : e ≠ b) (h1 : Bd B b (l0 ++ D ++ m) w') (h2 : Below B w w') (h3 : Lib.OthersKept 5 (some b) w w') :
    Bd B b (l0 ++ (D ++ m)) w' ∧ Blk w' e 53 cs ∧ Below B w0 w' ∧ Lib.Utf8Tabs 0 1 w' :=
  ⟨h1.of_eq (by simp), h.2.2.2.1.keptB h3 (by decide) heb, h.2.2.2.2.1.trans h2, tabs_below hB h2 h.2.2.2.2.2.1⟩
/-- what stands in the midst of a round: D is written -/
def EM (B b e : Nat) (cs : Array Value) (l0 : List UInt8) (w0 : World) (D : List UInt8) (w : World) : Prop :=
  Bd B b (l0 ++ D) w ∧ Blk w e 53 cs ∧ Below B w0 w ∧ Lib.Utf8Tabs 0 1 w
theorem EI.mid {B b e : Nat} {cs : Array Value} {L l0 : List UInt8} {w0 w : World} {st j : Nat} {D : List UInt8} (h : EI B b e cs L l0 w0 st j D w) : EM B b e cs l0 w0 D w := ⟨h.2.2.1, h.2.2.2.1, h.2.2.2.2.1, h.2.2.2.2.2.1⟩
theorem EM.drew {B b e : Nat} {cs : Array Value} {l0 : List UInt8} {w0 w : World} {D : List UInt8} (h : EM B b e cs l0 w0 D w) : EM B b e cs l0 w0 D w.drew := ⟨h.1, h.2.1.drew, h.2.2.1.drew, h.2.2.2⟩
theorem EM.wrote {B b e : Nat} {cs : Array Value} {l0 : List UInt8} {w0 w w' : World} {D m : List UInt8} (h : EM B b e cs l0 w0 D w) (hB : 2 ≤ B) (heb : e ≠ b) (h1 : Bd B b (l0 ++ D ++ m) w') (h2 : Below B w w') (h3 : Lib.OthersKept 5 (some b) w w') : EM B b e cs l0 w0 (D ++ m) w' :=
  ⟨h1.of_eq (by simp), h.2.1.keptB h3 (by decide) heb, h.2.2.1.trans h2, tabs_below hB h2 h.2.2.2⟩
theorem EM.cell {B b e : Nat} {cs : Array Value} {l0 : List UInt8} {w0 w : World} {D : List UInt8} (h : EM B b e cs l0 w0 D w) {v : Value} (h0 : cs[0]? = some v) : w.cell? ⟨e, 0, none⟩ = some v := (h.2.1.cell 0).trans h0
theorem EM.esc {B b e : Nat} {cs : Array Value} {L l0 : List UInt8} {w0 w wr : World} {st j : Nat} {D m : List UInt8} (hI : EI B b e cs L l0 w0 st j D wr) (h : EM B b e cs l0 w0 (D ++ seg L st j ++ m) w) (hj : j < L.length) (hs : stepL (L.drop j) = (1, some m)) : EI B b e cs L l0 w0 (j + 1) (j + 1) (D ++ seg L st j ++ m) w := by
  obtain ⟨h1, h2, h3, h4⟩ := h
  exact ⟨Nat.le_refl _, by omega, h1, h2, h3, h4, inv_esc hI.1 hj hs hI.2.2.2.2.2.2⟩
theorem EM.of_eq {B b e : Nat} {cs : Array Value} {l0 : List UInt8} {w0 w : World} {D D' : List UInt8} (h : EM B b e cs l0 w0 D w) (q : D' = D) : EM B b e cs l0 w0 D' w := by rw [q]; exact h
theorem hex16 : ∀ q : Fin 16, (⟨#[48, 49, 50, 51, 52, 53, 54, 55, 56, 57, 97, 98, 99, 100, 101, 102]⟩ : ByteArray)[q.val].toNat = (hxd q.val).toNat := by decide
theorem hexS_get (q : Nat) (h : q < 16) : (((⟨#[48, 49, 50, 51, 52, 53, 54, 55, 56, 57, 97, 98, 99, 100, 101, 102]⟩ : ByteArray)[q]'h).toNat : Int) = ((hxd q).toNat : Int) := by rw [hex16 ⟨q, h⟩]
theorem and15 : ∀ x : Fin 256, bits .and .u8 ((x.val : Nat) : Int) 15 = ((x.val % 16 : Nat) : Int) := by decide
set_option maxHeartbeats 8000000 in
theorem encG (B b e : Nat) (cs : Array Value) (l : List UInt8) (s : ByteArray) (w : World) (h : Bd B b l w) (hE : Blk w e 53 cs) (h0 : cs[0]? = some (.iface 45 (.pointer (some ⟨b, 0, none⟩)))) (heb : e ≠ b) (hB : 2 ≤ B) (hT : Lib.Utf8Tabs 0 1 w) (hl : l.length + 6 * s.size + 20 ≤ 70368744177664) :
    Calls Tryd.prog 28 #[.pointer (some ⟨e, 0, none⟩), .string s] w (Wrote B b (l ++ [34] ++ enc s.data.toList ++ [34]) w) := by
  have c0 : w.cell? ⟨e, 0, none⟩ = some (.iface 45 (.pointer (some ⟨b, 0, none⟩))) := (hE.cell 0).trans h0
  have HE := Lib.hid hE
  have H0 := Lib.hid h0
  have HEB := Lib.hid heb
  have HT := Lib.hid hT
  have hq := Lib.hid (wByteK B b l 34 34 w (by decide) h (by omega))
  have m1 := fun a w => meth_wb a w
  have m2 := fun a w => meth_ws a w
  have m3 := fun a w => nil_wb a w
  have m4 := fun a w => nil_ws a w
  clear hE h0 heb h hT
  go_enter Tryd.func28, Tryd.ntmps28
  go_wp2_with fail
  with_reducible refine (hq.out).mono ?_
  rintro e1 w1 ⟨rfl, h1, hb1, hk1⟩
  have HI0 := Lib.hid (show EI B b e cs s.data.toList (l ++ [34]) w 0 0 [] w1 from ⟨Nat.le_refl _, Nat.zero_le _, h1.of_eq (by simp), HE.out.keptB hk1 (by decide) HEB.out, hb1, tabs_below hB hb1 HT.out, by simp [seg_self]⟩)
  clear c0 h1 hk1 HE hq hb1 HT
  go_wp2_with fail
  go_loopw [4, 5] (fun sv iv wr => ∃ (st j : Nat) (D : List UInt8), sv = .int .i64 st ∧ iv = .int .i64 j ∧ j ≤ s.size ∧ st ≤ j ∧ Hid (EI B b e cs s.data.toList (l ++ [34]) w st j D wr)) (fun _ iv _ => s.size - (intOf iv).toNat)
  case atStart => exact ⟨0, 0, [], rfl, rfl, Nat.zero_le _, Nat.le_refl _, HI0⟩
  case round =>
    obtain ⟨st, j, D, rfl, rfl, hj, hst, HI⟩ := hrel
    clear HI0
    by_cases hlt : j < s.size
    · have hbt := bt_drop s j hlt
      obtain ⟨x, hx⟩ : ∃ x : Nat, Hid (s[j].toNat = x) := ⟨_, Lib.hid rfl⟩
      have hcast : Hid (((s[j].toNat : Nat) : Int) = (x : Int)) := by rw [hx.out]; exact rfl
      have hx8 : x < 256 := by rw [← hx.out]; exact s[j].toNat_lt
      have hLj : j < s.data.toList.length := by rw [size_list]; exact hlt
      rw [hx.out] at hbt
      have HBT := Lib.hid hbt
      have HLJ := Lib.hid hLj
      clear hbt hLj
      have i0 : (0 : Int) ≤ (j : Int) := by omega
      have i1 : (j : Int) < (s.size : Int) := by omega
      have i2 : (0 : Int) ≤ (st : Int) := by omega
      have i3 : (st : Int) ≤ (j : Int) := by omega
      have i4 : (j : Int) ≤ (s.size : Int) := by omega
      by_cases hlow : x < 128
      · have d1 : decide ((x : Int) < 128) = true := decide_eq_true (by omega)
        by_cases g34 : x = 34
        · as_aux_lemma =>
            subst g34
            have hstep : stepL (s.data.toList.drop j) = (1, some [92, 34]) := by unfold stepL; rw [HBT.out]; rfl
            have hxe := hcast.out.trans (show (((34 : Nat) : Nat) : Int) = 34 from rfl)
            by_cases hf : st < j
            · have hf' : (st : Int) < (j : Int) := by omega
              clear hf
              have cE : wr.cell? ⟨e, 0, none⟩ = some (.iface 45 (.pointer (some ⟨b, 0, none⟩))) := HI.out.mid.cell H0.out
              have hw := Lib.hid (wStrK B b (l ++ [34] ++ D) (s.extract st j) wr.drew HI.out.mid.drew.1 (by have h1 := HI.out.len; rw [size_list] at h1; rw [← size_list, extract_seg]; simp only [List.length_append, List.length_cons, List.length_nil]; omega))
              go_wp2_with fail
              go_still_tail 10, (by kernel_rfl)
              change wpList _ _ _ _ _ wr.drew
              go_wp2_with fail
              with_reducible refine (hw.out).mono ?_
              rintro e3 w3 ⟨rfl, h3, hb3, hk3⟩
              have HM := Lib.hid ((HI.out.mid.drew).wrote hB HEB.out (h3.of_eq (l' := l ++ [34] ++ D ++ seg s.data.toList st j) (by rw [extract_seg])) hb3 hk3)
              clear hw h3 hb3 hk3 cE
              have cF : w3.cell? ⟨e, 0, none⟩ = some (.iface 45 (.pointer (some ⟨b, 0, none⟩))) := HM.out.cell H0.out
              have hv := Lib.hid (wStrK B b _ ⟨#[92, 34]⟩ w3 HM.out.1 (by have h1 := HI.out.len; rw [size_list] at h1; simp only [List.length_append, List.length_cons, List.length_nil]; show _ + 2 ≤ _; omega))
              go_wp2_with fail
              with_reducible refine (hv.out).mono ?_
              rintro e4 w4 ⟨rfl, h4, hb4, hk4⟩
              have HM2 := Lib.hid (HM.out.wrote hB HEB.out h4 hb4 hk4)
              clear hv h4 hb4 hk4 cF
              go_wp2_with fail
              go_roundw
              case rel => exact ⟨j + 1, j + 1, _, by go_num, by go_num, by omega, by omega, Lib.hid (EM.esc HI.out HM2.out HLJ.out hstep)⟩
              case measure => simp [intOf]; omega
            · have hf' : ¬ (st : Int) < (j : Int) := by omega
              have HM : Hid (EM B b e cs (l ++ [34]) w (D ++ seg s.data.toList st j) wr) := by
                have hm := HI.out.mid
                have he : seg s.data.toList st j = [] := by
                  have : st = j := by omega
                  subst this
                  exact seg_self _ _
                rw [he, List.append_nil]
                exact hm
              clear hf
              have cF : wr.cell? ⟨e, 0, none⟩ = some (.iface 45 (.pointer (some ⟨b, 0, none⟩))) := HM.out.cell H0.out
              have hv := Lib.hid (wStrK B b _ ⟨#[92, 34]⟩ wr HM.out.1 (by have h1 := HI.out.len; rw [size_list] at h1; simp only [List.length_append, List.length_cons, List.length_nil]; show _ + 2 ≤ _; omega))
              go_wp2_with fail
              with_reducible refine (hv.out).mono ?_
              rintro e4 w4 ⟨rfl, h4, hb4, hk4⟩
              have HM2 := Lib.hid (HM.out.wrote hB HEB.out h4 hb4 hk4)
              clear hv h4 hb4 hk4 cF
              go_wp2_with fail
              go_roundw
              case rel => exact ⟨j + 1, j + 1, _, by go_num, by go_num, by omega, by omega, Lib.hid (EM.esc HI.out HM2.out HLJ.out hstep)⟩
              case measure => simp [intOf]; omega
        · skip
          by_cases g92 : x = 92
          · as_aux_lemma =>
              subst g92
              have hstep : stepL (s.data.toList.drop j) = (1, some [92, 92]) := by unfold stepL; rw [HBT.out]; rfl
              have hxe := hcast.out.trans (show (((92 : Nat) : Nat) : Int) = 92 from rfl)
              by_cases hf : st < j
              · have hf' : (st : Int) < (j : Int) := by omega
                clear hf
                have cE : wr.cell? ⟨e, 0, none⟩ = some (.iface 45 (.pointer (some ⟨b, 0, none⟩))) := HI.out.mid.cell H0.out
                have hw := Lib.hid (wStrK B b (l ++ [34] ++ D) (s.extract st j) wr.drew HI.out.mid.drew.1 (by have h1 := HI.out.len; rw [size_list] at h1; rw [← size_list, extract_seg]; simp only [List.length_append, List.length_cons, List.length_nil]; omega))
                go_wp2_with fail
                go_still_tail 10, (by kernel_rfl)
                change wpList _ _ _ _ _ wr.drew
                go_wp2_with fail
                with_reducible refine (hw.out).mono ?_
                rintro e3 w3 ⟨rfl, h3, hb3, hk3⟩
                have HM := Lib.hid ((HI.out.mid.drew).wrote hB HEB.out (h3.of_eq (l' := l ++ [34] ++ D ++ seg s.data.toList st j) (by rw [extract_seg])) hb3 hk3)
                clear hw h3 hb3 hk3 cE
                have cF : w3.cell? ⟨e, 0, none⟩ = some (.iface 45 (.pointer (some ⟨b, 0, none⟩))) := HM.out.cell H0.out
                have hv := Lib.hid (wStrK B b _ ⟨#[92, 92]⟩ w3 HM.out.1 (by have h1 := HI.out.len; rw [size_list] at h1; simp only [List.length_append, List.length_cons, List.length_nil]; show _ + 2 ≤ _; omega))
                go_wp2_with fail
                with_reducible refine (hv.out).mono ?_
                rintro e4 w4 ⟨rfl, h4, hb4, hk4⟩
                have HM2 := Lib.hid (HM.out.wrote hB HEB.out h4 hb4 hk4)
                clear hv h4 hb4 hk4 cF
                go_wp2_with fail
                go_roundw
                case rel => exact ⟨j + 1, j + 1, _, by go_num, by go_num, by omega, by omega, Lib.hid (EM.esc HI.out HM2.out HLJ.out hstep)⟩
                case measure => simp [intOf]; omega
              · have hf' : ¬ (st : Int) < (j : Int) := by omega
                have HM : Hid (EM B b e cs (l ++ [34]) w (D ++ seg s.data.toList st j) wr) := by
                  have hm := HI.out.mid
                  have he : seg s.data.toList st j = [] := by
                    have : st = j := by omega
                    subst this
                    exact seg_self _ _
                  rw [he, List.append_nil]
                  exact hm
                clear hf
                have cF : wr.cell? ⟨e, 0, none⟩ = some (.iface 45 (.pointer (some ⟨b, 0, none⟩))) := HM.out.cell H0.out
                have hv := Lib.hid (wStrK B b _ ⟨#[92, 92]⟩ wr HM.out.1 (by have h1 := HI.out.len; rw [size_list] at h1; simp only [List.length_append, List.length_cons, List.length_nil]; show _ + 2 ≤ _; omega))
                go_wp2_with fail
                with_reducible refine (hv.out).mono ?_
                rintro e4 w4 ⟨rfl, h4, hb4, hk4⟩
                have HM2 := Lib.hid (HM.out.wrote hB HEB.out h4 hb4 hk4)
                clear hv h4 hb4 hk4 cF
                go_wp2_with fail
                go_roundw
                case rel => exact ⟨j + 1, j + 1, _, by go_num, by go_num, by omega, by omega, Lib.hid (EM.esc HI.out HM2.out HLJ.out hstep)⟩
                case measure => simp [intOf]; omega
          · skip
            by_cases g8 : x = 8
            · as_aux_lemma =>
                subst g8
                have hstep : stepL (s.data.toList.drop j) = (1, some [92, 98]) := by unfold stepL; rw [HBT.out]; rfl
                have hxe := hcast.out.trans (show (((8 : Nat) : Nat) : Int) = 8 from rfl)
                by_cases hf : st < j
                · have hf' : (st : Int) < (j : Int) := by omega
                  clear hf
                  have cE : wr.cell? ⟨e, 0, none⟩ = some (.iface 45 (.pointer (some ⟨b, 0, none⟩))) := HI.out.mid.cell H0.out
                  have hw := Lib.hid (wStrK B b (l ++ [34] ++ D) (s.extract st j) wr.drew HI.out.mid.drew.1 (by have h1 := HI.out.len; rw [size_list] at h1; rw [← size_list, extract_seg]; simp only [List.length_append, List.length_cons, List.length_nil]; omega))
                  go_wp2_with fail
                  go_still_tail 10, (by kernel_rfl)
                  change wpList _ _ _ _ _ wr.drew
                  go_wp2_with fail
                  with_reducible refine (hw.out).mono ?_
                  rintro e3 w3 ⟨rfl, h3, hb3, hk3⟩
                  have HM := Lib.hid ((HI.out.mid.drew).wrote hB HEB.out (h3.of_eq (l' := l ++ [34] ++ D ++ seg s.data.toList st j) (by rw [extract_seg])) hb3 hk3)
                  clear hw h3 hb3 hk3 cE
                  have cF : w3.cell? ⟨e, 0, none⟩ = some (.iface 45 (.pointer (some ⟨b, 0, none⟩))) := HM.out.cell H0.out
                  have hv := Lib.hid (wStrK B b _ ⟨#[92, 98]⟩ w3 HM.out.1 (by have h1 := HI.out.len; rw [size_list] at h1; simp only [List.length_append, List.length_cons, List.length_nil]; show _ + 2 ≤ _; omega))
                  go_wp2_with fail
                  with_reducible refine (hv.out).mono ?_
                  rintro e4 w4 ⟨rfl, h4, hb4, hk4⟩
                  have HM2 := Lib.hid (HM.out.wrote hB HEB.out h4 hb4 hk4)
                  clear hv h4 hb4 hk4 cF
                  go_wp2_with fail
                  go_roundw
                  case rel => exact ⟨j + 1, j + 1, _, by go_num, by go_num, by omega, by omega, Lib.hid (EM.esc HI.out HM2.out HLJ.out hstep)⟩
                  case measure => simp [intOf]; omega
                · have hf' : ¬ (st : Int) < (j : Int) := by omega
                  have HM : Hid (EM B b e cs (l ++ [34]) w (D ++ seg s.data.toList st j) wr) := by
                    have hm := HI.out.mid
                    have he : seg s.data.toList st j = [] := by
                      have : st = j := by omega
                      subst this
                      exact seg_self _ _
                    rw [he, List.append_nil]
                    exact hm
                  clear hf
                  have cF : wr.cell? ⟨e, 0, none⟩ = some (.iface 45 (.pointer (some ⟨b, 0, none⟩))) := HM.out.cell H0.out
                  have hv := Lib.hid (wStrK B b _ ⟨#[92, 98]⟩ wr HM.out.1 (by have h1 := HI.out.len; rw [size_list] at h1; simp only [List.length_append, List.length_cons, List.length_nil]; show _ + 2 ≤ _; omega))
                  go_wp2_with fail
                  with_reducible refine (hv.out).mono ?_
                  rintro e4 w4 ⟨rfl, h4, hb4, hk4⟩
                  have HM2 := Lib.hid (HM.out.wrote hB HEB.out h4 hb4 hk4)
                  clear hv h4 hb4 hk4 cF
                  go_wp2_with fail
                  go_roundw
                  case rel => exact ⟨j + 1, j + 1, _, by go_num, by go_num, by omega, by omega, Lib.hid (EM.esc HI.out HM2.out HLJ.out hstep)⟩
                  case measure => simp [intOf]; omega
            · skip
              by_cases g12 : x = 12
              · as_aux_lemma =>
                  subst g12
                  have hstep : stepL (s.data.toList.drop j) = (1, some [92, 102]) := by unfold stepL; rw [HBT.out]; rfl
                  have hxe := hcast.out.trans (show (((12 : Nat) : Nat) : Int) = 12 from rfl)
                  by_cases hf : st < j
                  · have hf' : (st : Int) < (j : Int) := by omega
                    clear hf
                    have cE : wr.cell? ⟨e, 0, none⟩ = some (.iface 45 (.pointer (some ⟨b, 0, none⟩))) := HI.out.mid.cell H0.out
                    have hw := Lib.hid (wStrK B b (l ++ [34] ++ D) (s.extract st j) wr.drew HI.out.mid.drew.1 (by have h1 := HI.out.len; rw [size_list] at h1; rw [← size_list, extract_seg]; simp only [List.length_append, List.length_cons, List.length_nil]; omega))
                    go_wp2_with fail
                    go_still_tail 10, (by kernel_rfl)
                    change wpList _ _ _ _ _ wr.drew
                    go_wp2_with fail
                    with_reducible refine (hw.out).mono ?_
                    rintro e3 w3 ⟨rfl, h3, hb3, hk3⟩
                    have HM := Lib.hid ((HI.out.mid.drew).wrote hB HEB.out (h3.of_eq (l' := l ++ [34] ++ D ++ seg s.data.toList st j) (by rw [extract_seg])) hb3 hk3)
                    clear hw h3 hb3 hk3 cE
                    have cF : w3.cell? ⟨e, 0, none⟩ = some (.iface 45 (.pointer (some ⟨b, 0, none⟩))) := HM.out.cell H0.out
                    have hv := Lib.hid (wStrK B b _ ⟨#[92, 102]⟩ w3 HM.out.1 (by have h1 := HI.out.len; rw [size_list] at h1; simp only [List.length_append, List.length_cons, List.length_nil]; show _ + 2 ≤ _; omega))
                    go_wp2_with fail
                    with_reducible refine (hv.out).mono ?_
                    rintro e4 w4 ⟨rfl, h4, hb4, hk4⟩
                    have HM2 := Lib.hid (HM.out.wrote hB HEB.out h4 hb4 hk4)
                    clear hv h4 hb4 hk4 cF
                    go_wp2_with fail
                    go_roundw
                    case rel => exact ⟨j + 1, j + 1, _, by go_num, by go_num, by omega, by omega, Lib.hid (EM.esc HI.out HM2.out HLJ.out hstep)⟩
                    case measure => simp [intOf]; omega
                  · have hf' : ¬ (st : Int) < (j : Int) := by omega
                    have HM : Hid (EM B b e cs (l ++ [34]) w (D ++ seg s.data.toList st j) wr) := by
                      have hm := HI.out.mid
                      have he : seg s.data.toList st j = [] := by
                        have : st = j := by omega
                        subst this
                        exact seg_self _ _
                      rw [he, List.append_nil]
                      exact hm
                    clear hf
                    have cF : wr.cell? ⟨e, 0, none⟩ = some (.iface 45 (.pointer (some ⟨b, 0, none⟩))) := HM.out.cell H0.out
                    have hv := Lib.hid (wStrK B b _ ⟨#[92, 102]⟩ wr HM.out.1 (by have h1 := HI.out.len; rw [size_list] at h1; simp only [List.length_append, List.length_cons, List.length_nil]; show _ + 2 ≤ _; omega))
                    go_wp2_with fail
                    with_reducible refine (hv.out).mono ?_
                    rintro e4 w4 ⟨rfl, h4, hb4, hk4⟩
                    have HM2 := Lib.hid (HM.out.wrote hB HEB.out h4 hb4 hk4)
                    clear hv h4 hb4 hk4 cF
                    go_wp2_with fail
                    go_roundw
                    case rel => exact ⟨j + 1, j + 1, _, by go_num, by go_num, by omega, by omega, Lib.hid (EM.esc HI.out HM2.out HLJ.out hstep)⟩
                    case measure => simp [intOf]; omega
              · skip
                by_cases g10 : x = 10
                · as_aux_lemma =>
                    subst g10
                    have hstep : stepL (s.data.toList.drop j) = (1, some [92, 110]) := by unfold stepL; rw [HBT.out]; rfl
                    have hxe := hcast.out.trans (show (((10 : Nat) : Nat) : Int) = 10 from rfl)
                    by_cases hf : st < j
                    · have hf' : (st : Int) < (j : Int) := by omega
                      clear hf
                      have cE : wr.cell? ⟨e, 0, none⟩ = some (.iface 45 (.pointer (some ⟨b, 0, none⟩))) := HI.out.mid.cell H0.out
                      have hw := Lib.hid (wStrK B b (l ++ [34] ++ D) (s.extract st j) wr.drew HI.out.mid.drew.1 (by have h1 := HI.out.len; rw [size_list] at h1; rw [← size_list, extract_seg]; simp only [List.length_append, List.length_cons, List.length_nil]; omega))
                      go_wp2_with fail
                      go_still_tail 10, (by kernel_rfl)
                      change wpList _ _ _ _ _ wr.drew
                      go_wp2_with fail
                      with_reducible refine (hw.out).mono ?_
                      rintro e3 w3 ⟨rfl, h3, hb3, hk3⟩
                      have HM := Lib.hid ((HI.out.mid.drew).wrote hB HEB.out (h3.of_eq (l' := l ++ [34] ++ D ++ seg s.data.toList st j) (by rw [extract_seg])) hb3 hk3)
                      clear hw h3 hb3 hk3 cE
                      have cF : w3.cell? ⟨e, 0, none⟩ = some (.iface 45 (.pointer (some ⟨b, 0, none⟩))) := HM.out.cell H0.out
                      have hv := Lib.hid (wStrK B b _ ⟨#[92, 110]⟩ w3 HM.out.1 (by have h1 := HI.out.len; rw [size_list] at h1; simp only [List.length_append, List.length_cons, List.length_nil]; show _ + 2 ≤ _; omega))
                      go_wp2_with fail
                      with_reducible refine (hv.out).mono ?_
                      rintro e4 w4 ⟨rfl, h4, hb4, hk4⟩
                      have HM2 := Lib.hid (HM.out.wrote hB HEB.out h4 hb4 hk4)
                      clear hv h4 hb4 hk4 cF
                      go_wp2_with fail
                      go_roundw
                      case rel => exact ⟨j + 1, j + 1, _, by go_num, by go_num, by omega, by omega, Lib.hid (EM.esc HI.out HM2.out HLJ.out hstep)⟩
                      case measure => simp [intOf]; omega
                    · have hf' : ¬ (st : Int) < (j : Int) := by omega
                      have HM : Hid (EM B b e cs (l ++ [34]) w (D ++ seg s.data.toList st j) wr) := by
                        have hm := HI.out.mid
                        have he : seg s.data.toList st j = [] := by
                          have : st = j := by omega
                          subst this
                          exact seg_self _ _
                        rw [he, List.append_nil]
                        exact hm
                      clear hf
                      have cF : wr.cell? ⟨e, 0, none⟩ = some (.iface 45 (.pointer (some ⟨b, 0, none⟩))) := HM.out.cell H0.out
                      have hv := Lib.hid (wStrK B b _ ⟨#[92, 110]⟩ wr HM.out.1 (by have h1 := HI.out.len; rw [size_list] at h1; simp only [List.length_append, List.length_cons, List.length_nil]; show _ + 2 ≤ _; omega))
                      go_wp2_with fail
                      with_reducible refine (hv.out).mono ?_
                      rintro e4 w4 ⟨rfl, h4, hb4, hk4⟩
                      have HM2 := Lib.hid (HM.out.wrote hB HEB.out h4 hb4 hk4)
                      clear hv h4 hb4 hk4 cF
                      go_wp2_with fail
                      go_roundw
                      case rel => exact ⟨j + 1, j + 1, _, by go_num, by go_num, by omega, by omega, Lib.hid (EM.esc HI.out HM2.out HLJ.out hstep)⟩
                      case measure => simp [intOf]; omega
                · skip
                  by_cases g13 : x = 13
                  · as_aux_lemma =>
                      subst g13
                      have hstep : stepL (s.data.toList.drop j) = (1, some [92, 114]) := by unfold stepL; rw [HBT.out]; rfl
                      have hxe := hcast.out.trans (show (((13 : Nat) : Nat) : Int) = 13 from rfl)
                      by_cases hf : st < j
                      · have hf' : (st : Int) < (j : Int) := by omega
                        clear hf
                        have cE : wr.cell? ⟨e, 0, none⟩ = some (.iface 45 (.pointer (some ⟨b, 0, none⟩))) := HI.out.mid.cell H0.out
                        have hw := Lib.hid (wStrK B b (l ++ [34] ++ D) (s.extract st j) wr.drew HI.out.mid.drew.1 (by have h1 := HI.out.len; rw [size_list] at h1; rw [← size_list, extract_seg]; simp only [List.length_append, List.length_cons, List.length_nil]; omega))
                        go_wp2_with fail
                        go_still_tail 10, (by kernel_rfl)
                        change wpList _ _ _ _ _ wr.drew
                        go_wp2_with fail
                        with_reducible refine (hw.out).mono ?_
                        rintro e3 w3 ⟨rfl, h3, hb3, hk3⟩
                        have HM := Lib.hid ((HI.out.mid.drew).wrote hB HEB.out (h3.of_eq (l' := l ++ [34] ++ D ++ seg s.data.toList st j) (by rw [extract_seg])) hb3 hk3)
                        clear hw h3 hb3 hk3 cE
                        have cF : w3.cell? ⟨e, 0, none⟩ = some (.iface 45 (.pointer (some ⟨b, 0, none⟩))) := HM.out.cell H0.out
                        have hv := Lib.hid (wStrK B b _ ⟨#[92, 114]⟩ w3 HM.out.1 (by have h1 := HI.out.len; rw [size_list] at h1; simp only [List.length_append, List.length_cons, List.length_nil]; show _ + 2 ≤ _; omega))
                        go_wp2_with fail
                        with_reducible refine (hv.out).mono ?_
                        rintro e4 w4 ⟨rfl, h4, hb4, hk4⟩
                        have HM2 := Lib.hid (HM.out.wrote hB HEB.out h4 hb4 hk4)
                        clear hv h4 hb4 hk4 cF
                        go_wp2_with fail
                        go_roundw
                        case rel => exact ⟨j + 1, j + 1, _, by go_num, by go_num, by omega, by omega, Lib.hid (EM.esc HI.out HM2.out HLJ.out hstep)⟩
                        case measure => simp [intOf]; omega
                      · have hf' : ¬ (st : Int) < (j : Int) := by omega
                        have HM : Hid (EM B b e cs (l ++ [34]) w (D ++ seg s.data.toList st j) wr) := by
                          have hm := HI.out.mid
                          have he : seg s.data.toList st j = [] := by
                            have : st = j := by omega
                            subst this
                            exact seg_self _ _
                          rw [he, List.append_nil]
                          exact hm
                        clear hf
                        have cF : wr.cell? ⟨e, 0, none⟩ = some (.iface 45 (.pointer (some ⟨b, 0, none⟩))) := HM.out.cell H0.out
                        have hv := Lib.hid (wStrK B b _ ⟨#[92, 114]⟩ wr HM.out.1 (by have h1 := HI.out.len; rw [size_list] at h1; simp only [List.length_append, List.length_cons, List.length_nil]; show _ + 2 ≤ _; omega))
                        go_wp2_with fail
                        with_reducible refine (hv.out).mono ?_
                        rintro e4 w4 ⟨rfl, h4, hb4, hk4⟩
                        have HM2 := Lib.hid (HM.out.wrote hB HEB.out h4 hb4 hk4)
                        clear hv h4 hb4 hk4 cF
                        go_wp2_with fail
                        go_roundw
                        case rel => exact ⟨j + 1, j + 1, _, by go_num, by go_num, by omega, by omega, Lib.hid (EM.esc HI.out HM2.out HLJ.out hstep)⟩
                        case measure => simp [intOf]; omega
                  · skip
                    by_cases g9 : x = 9
                    · as_aux_lemma =>
                        subst g9
                        have hstep : stepL (s.data.toList.drop j) = (1, some [92, 116]) := by unfold stepL; rw [HBT.out]; rfl
                        have hxe := hcast.out.trans (show (((9 : Nat) : Nat) : Int) = 9 from rfl)
                        by_cases hf : st < j
                        · have hf' : (st : Int) < (j : Int) := by omega
                          clear hf
                          have cE : wr.cell? ⟨e, 0, none⟩ = some (.iface 45 (.pointer (some ⟨b, 0, none⟩))) := HI.out.mid.cell H0.out
                          have hw := Lib.hid (wStrK B b (l ++ [34] ++ D) (s.extract st j) wr.drew HI.out.mid.drew.1 (by have h1 := HI.out.len; rw [size_list] at h1; rw [← size_list, extract_seg]; simp only [List.length_append, List.length_cons, List.length_nil]; omega))
                          go_wp2_with fail
                          go_still_tail 10, (by kernel_rfl)
                          change wpList _ _ _ _ _ wr.drew
                          go_wp2_with fail
                          with_reducible refine (hw.out).mono ?_
                          rintro e3 w3 ⟨rfl, h3, hb3, hk3⟩
                          have HM := Lib.hid ((HI.out.mid.drew).wrote hB HEB.out (h3.of_eq (l' := l ++ [34] ++ D ++ seg s.data.toList st j) (by rw [extract_seg])) hb3 hk3)
                          clear hw h3 hb3 hk3 cE
                          have cF : w3.cell? ⟨e, 0, none⟩ = some (.iface 45 (.pointer (some ⟨b, 0, none⟩))) := HM.out.cell H0.out
                          have hv := Lib.hid (wStrK B b _ ⟨#[92, 116]⟩ w3 HM.out.1 (by have h1 := HI.out.len; rw [size_list] at h1; simp only [List.length_append, List.length_cons, List.length_nil]; show _ + 2 ≤ _; omega))
                          go_wp2_with fail
                          with_reducible refine (hv.out).mono ?_
                          rintro e4 w4 ⟨rfl, h4, hb4, hk4⟩
                          have HM2 := Lib.hid (HM.out.wrote hB HEB.out h4 hb4 hk4)
                          clear hv h4 hb4 hk4 cF
                          go_wp2_with fail
                          go_roundw
                          case rel => exact ⟨j + 1, j + 1, _, by go_num, by go_num, by omega, by omega, Lib.hid (EM.esc HI.out HM2.out HLJ.out hstep)⟩
                          case measure => simp [intOf]; omega
                        · have hf' : ¬ (st : Int) < (j : Int) := by omega
                          have HM : Hid (EM B b e cs (l ++ [34]) w (D ++ seg s.data.toList st j) wr) := by
                            have hm := HI.out.mid
                            have he : seg s.data.toList st j = [] := by
                              have : st = j := by omega
                              subst this
                              exact seg_self _ _
                            rw [he, List.append_nil]
                            exact hm
                          clear hf
                          have cF : wr.cell? ⟨e, 0, none⟩ = some (.iface 45 (.pointer (some ⟨b, 0, none⟩))) := HM.out.cell H0.out
                          have hv := Lib.hid (wStrK B b _ ⟨#[92, 116]⟩ wr HM.out.1 (by have h1 := HI.out.len; rw [size_list] at h1; simp only [List.length_append, List.length_cons, List.length_nil]; show _ + 2 ≤ _; omega))
                          go_wp2_with fail
                          with_reducible refine (hv.out).mono ?_
                          rintro e4 w4 ⟨rfl, h4, hb4, hk4⟩
                          have HM2 := Lib.hid (HM.out.wrote hB HEB.out h4 hb4 hk4)
                          clear hv h4 hb4 hk4 cF
                          go_wp2_with fail
                          go_roundw
                          case rel => exact ⟨j + 1, j + 1, _, by go_num, by go_num, by omega, by omega, Lib.hid (EM.esc HI.out HM2.out HLJ.out hstep)⟩
                          case measure => simp [intOf]; omega
                    · skip
                      have hxe := hcast.out
                      have n34 : ((x : Int) == 34) = false := by rw [beq_eq_false_iff_ne]; omega
                      have k34 : ((x : Int) != 34) = true := by rw [bne_iff_ne]; omega
                      have n92 : ((x : Int) == 92) = false := by rw [beq_eq_false_iff_ne]; omega
                      have k92 : ((x : Int) != 92) = true := by rw [bne_iff_ne]; omega
                      have n8 : ((x : Int) == 8) = false := by rw [beq_eq_false_iff_ne]; omega
                      have k8 : ((x : Int) != 8) = true := by rw [bne_iff_ne]; omega
                      have n12 : ((x : Int) == 12) = false := by rw [beq_eq_false_iff_ne]; omega
                      have k12 : ((x : Int) != 12) = true := by rw [bne_iff_ne]; omega
                      have n10 : ((x : Int) == 10) = false := by rw [beq_eq_false_iff_ne]; omega
                      have k10 : ((x : Int) != 10) = true := by rw [bne_iff_ne]; omega
                      have n13 : ((x : Int) == 13) = false := by rw [beq_eq_false_iff_ne]; omega
                      have k13 : ((x : Int) != 13) = true := by rw [bne_iff_ne]; omega
                      have n9 : ((x : Int) == 9) = false := by rw [beq_eq_false_iff_ne]; omega
                      have k9 : ((x : Int) != 9) = true := by rw [bne_iff_ne]; omega
                      by_cases hpl : 32 ≤ x ∧ x ≤ 126
                      · obtain ⟨p1, p2⟩ := hpl
                        have hstep : stepL (s.data.toList.drop j) = (1, none) := by
                          unfold stepL
                          rw [HBT.out, if_pos hlow]
                          unfold escB
                          rw [if_neg g34, if_neg g92, if_neg g8, if_neg g12, if_neg g10, if_neg g13, if_neg g9, if_neg (by omega)]
                        have d2 : decide (32 ≤ (x : Int)) = true := decide_eq_true (by omega)
                        have d3 : decide ((x : Int) ≤ 126) = true := decide_eq_true (by omega)
                        have HN := Lib.hid (HI.out.keep HLJ.out hstep (by rw [size_list]; omega))
                        clear g34 g92 g8 g12 g10 g13 g9 p1 p2 hlow
                        go_wp2_with fail
                        go_roundw
                        case rel => exact ⟨st, j + 1, D, rfl, by go_num, by omega, by omega, HN⟩
                        case measure => simp [intOf]; omega
                      · have hctl : x < 32 ∨ x = 127 := by omega
                        obtain ⟨q, hqq⟩ : ∃ q : Nat, Hid (q = x / 16) := ⟨_, Lib.hid rfl⟩
                        obtain ⟨r, hrr⟩ : ∃ r : Nat, Hid (r = x % 16) := ⟨_, Lib.hid rfl⟩
                        have hdv : ((x : Int) / 16) = (q : Int) := by rw [hqq.out]; omega
                        have hnd : bits .and .u8 (x : Int) 15 = (r : Int) := by rw [hrr.out]; exact and15 ⟨x, hx8⟩
                        have q16 : q < 16 := by rw [hqq.out]; omega
                        have r16 : r < 16 := by rw [hrr.out]; omega
                        have q0 : (0 : Int) ≤ (q : Int) := by omega
                        have q1 : (q : Int) < 16 := by omega
                        have r0 : (0 : Int) ≤ (r : Int) := by omega
                        have r1 : (r : Int) < 16 := by omega
                        have hstep : stepL (s.data.toList.drop j) = (1, some [92, 117, 48, 48, hxd q, hxd r]) := by
                          unfold stepL
                          rw [HBT.out, if_pos hlow]
                          unfold escB
                          rw [hqq.out, hrr.out, if_neg g34, if_neg g92, if_neg g8, if_neg g12, if_neg g10, if_neg g13, if_neg g9, if_pos hctl]
                        by_cases hf : st < j
                        · have hf' : (st : Int) < (j : Int) := by omega
                          rcases hctl with hc | hc
                          · have d2 : decide (32 ≤ (x : Int)) = false := decide_eq_false (by omega)
                            as_aux_lemma =>
                              clear hlow hf hc g34 g92 g8 g12 g10 g13 g9
                              have cE : wr.cell? ⟨e, 0, none⟩ = some (.iface 45 (.pointer (some ⟨b, 0, none⟩))) := HI.out.mid.cell H0.out
                              have hw := Lib.hid (wStrK B b (l ++ [34] ++ D) (s.extract st j) wr.drew HI.out.mid.drew.1 (by have h1 := HI.out.len; rw [size_list] at h1; rw [← size_list, extract_seg]; simp only [List.length_append, List.length_cons, List.length_nil]; omega))
                              go_wp2_with fail
                              go_still_tail 10, (by kernel_rfl)
                              change wpList _ _ _ _ _ wr.drew
                              go_wp2_with fail
                              with_reducible refine (hw.out).mono ?_
                              rintro e3 w3 ⟨rfl, h3, hb3, hk3⟩
                              have HM := Lib.hid ((HI.out.mid.drew).wrote hB HEB.out (h3.of_eq (l' := l ++ [34] ++ D ++ seg s.data.toList st j) (by rw [extract_seg])) hb3 hk3)
                              clear hw h3 hb3 hk3 cE
                              have cF : w3.cell? ⟨e, 0, none⟩ = some (.iface 45 (.pointer (some ⟨b, 0, none⟩))) := HM.out.cell H0.out
                              have hv := Lib.hid (wStrK B b _ ⟨#[92, 117, 48, 48]⟩ w3 HM.out.1 (by have h1 := HI.out.len; rw [size_list] at h1; simp only [List.length_append, List.length_cons, List.length_nil]; show _ + 4 ≤ _; omega))
                              go_wp2_with fail
                              with_reducible refine (hv.out).mono ?_
                              rintro e4 w4 ⟨rfl, h4, hb4, hk4⟩
                              have HM2 := Lib.hid (HM.out.wrote hB HEB.out h4 hb4 hk4)
                              clear hv h4 hb4 hk4 cF
                              have cGe5 : w4.cell? ⟨e, 0, none⟩ = some (.iface 45 (.pointer (some ⟨b, 0, none⟩))) := HM2.out.cell H0.out
                              have hv1 := Lib.hid fun cc (hc : cc = ((hxd q).toNat : Int)) => wByteK B b _ (hxd q) cc w4.drew hc HM2.out.drew.1 (by have h1 := HI.out.len; rw [size_list] at h1; simp only [List.length_append, List.length_cons, List.length_nil]; (try show _ + (_ + 4) + 1 ≤ _); omega)
                              go_wp2_with fail
                              go_still_tail 9, (by kernel_rfl)
                              change wpList _ _ _ _ _ w4.drew
                              go_wp2_with fail
                              with_reducible refine (hv1.out _ (hexS_get q (by omega))).mono ?_
                              rintro e5 w5 ⟨rfl, h5, hb5, hk5⟩
                              have HM3 := Lib.hid (HM2.out.drew.wrote hB HEB.out h5 hb5 hk5)
                              clear hv1 h5 hb5 hk5 cGe5
                              have cGe6 : w5.cell? ⟨e, 0, none⟩ = some (.iface 45 (.pointer (some ⟨b, 0, none⟩))) := HM3.out.cell H0.out
                              have hv2 := Lib.hid fun cc (hc : cc = ((hxd r).toNat : Int)) => wByteK B b _ (hxd r) cc w5.drew hc HM3.out.drew.1 (by have h1 := HI.out.len; rw [size_list] at h1; simp only [List.length_append, List.length_cons, List.length_nil]; (try show _ + (_ + 4 + 1) + 1 ≤ _); omega)
                              go_wp2_with fail
                              go_still_tail 9, (by kernel_rfl)
                              change wpList _ _ _ _ _ w5.drew
                              go_wp2_with fail
                              with_reducible refine (hv2.out _ (hexS_get r (by omega))).mono ?_
                              rintro e6 w6 ⟨rfl, h5, hb5, hk5⟩
                              have HM4 := Lib.hid (HM3.out.drew.wrote hB HEB.out h5 hb5 hk5)
                              clear hv2 h5 hb5 hk5 cGe6
                              have HM5 := Lib.hid (HM4.out.of_eq (D' := D ++ seg s.data.toList st j ++ [92, 117, 48, 48, hxd q, hxd r]) (by simp))
                              go_wp2_with fail
                              go_roundw
                              case rel => exact ⟨j + 1, j + 1, _, by go_num, by go_num, by omega, by omega, Lib.hid (EM.esc HI.out HM5.out HLJ.out hstep)⟩
                              case measure => simp [intOf]; omega
                          · have d2 : decide (32 ≤ (x : Int)) = true := decide_eq_true (by omega)
                            have d3 : decide ((x : Int) ≤ 126) = false := decide_eq_false (by omega)
                            as_aux_lemma =>
                              clear hlow hf hc g34 g92 g8 g12 g10 g13 g9
                              have cE : wr.cell? ⟨e, 0, none⟩ = some (.iface 45 (.pointer (some ⟨b, 0, none⟩))) := HI.out.mid.cell H0.out
                              have hw := Lib.hid (wStrK B b (l ++ [34] ++ D) (s.extract st j) wr.drew HI.out.mid.drew.1 (by have h1 := HI.out.len; rw [size_list] at h1; rw [← size_list, extract_seg]; simp only [List.length_append, List.length_cons, List.length_nil]; omega))
                              go_wp2_with fail
                              go_still_tail 10, (by kernel_rfl)
                              change wpList _ _ _ _ _ wr.drew
                              go_wp2_with fail
                              with_reducible refine (hw.out).mono ?_
                              rintro e3 w3 ⟨rfl, h3, hb3, hk3⟩
                              have HM := Lib.hid ((HI.out.mid.drew).wrote hB HEB.out (h3.of_eq (l' := l ++ [34] ++ D ++ seg s.data.toList st j) (by rw [extract_seg])) hb3 hk3)
                              clear hw h3 hb3 hk3 cE
                              have cF : w3.cell? ⟨e, 0, none⟩ = some (.iface 45 (.pointer (some ⟨b, 0, none⟩))) := HM.out.cell H0.out
                              have hv := Lib.hid (wStrK B b _ ⟨#[92, 117, 48, 48]⟩ w3 HM.out.1 (by have h1 := HI.out.len; rw [size_list] at h1; simp only [List.length_append, List.length_cons, List.length_nil]; show _ + 4 ≤ _; omega))
                              go_wp2_with fail
                              with_reducible refine (hv.out).mono ?_
                              rintro e4 w4 ⟨rfl, h4, hb4, hk4⟩
                              have HM2 := Lib.hid (HM.out.wrote hB HEB.out h4 hb4 hk4)
                              clear hv h4 hb4 hk4 cF
                              have cGe5 : w4.cell? ⟨e, 0, none⟩ = some (.iface 45 (.pointer (some ⟨b, 0, none⟩))) := HM2.out.cell H0.out
                              have hv1 := Lib.hid fun cc (hc : cc = ((hxd q).toNat : Int)) => wByteK B b _ (hxd q) cc w4.drew hc HM2.out.drew.1 (by have h1 := HI.out.len; rw [size_list] at h1; simp only [List.length_append, List.length_cons, List.length_nil]; (try show _ + (_ + 4) + 1 ≤ _); omega)
                              go_wp2_with fail
                              go_still_tail 9, (by kernel_rfl)
                              change wpList _ _ _ _ _ w4.drew
                              go_wp2_with fail
                              with_reducible refine (hv1.out _ (hexS_get q (by omega))).mono ?_
                              rintro e5 w5 ⟨rfl, h5, hb5, hk5⟩
                              have HM3 := Lib.hid (HM2.out.drew.wrote hB HEB.out h5 hb5 hk5)
                              clear hv1 h5 hb5 hk5 cGe5
                              have cGe6 : w5.cell? ⟨e, 0, none⟩ = some (.iface 45 (.pointer (some ⟨b, 0, none⟩))) := HM3.out.cell H0.out
                              have hv2 := Lib.hid fun cc (hc : cc = ((hxd r).toNat : Int)) => wByteK B b _ (hxd r) cc w5.drew hc HM3.out.drew.1 (by have h1 := HI.out.len; rw [size_list] at h1; simp only [List.length_append, List.length_cons, List.length_nil]; (try show _ + (_ + 4 + 1) + 1 ≤ _); omega)
                              go_wp2_with fail
                              go_still_tail 9, (by kernel_rfl)
                              change wpList _ _ _ _ _ w5.drew
                              go_wp2_with fail
                              with_reducible refine (hv2.out _ (hexS_get r (by omega))).mono ?_
                              rintro e6 w6 ⟨rfl, h5, hb5, hk5⟩
                              have HM4 := Lib.hid (HM3.out.drew.wrote hB HEB.out h5 hb5 hk5)
                              clear hv2 h5 hb5 hk5 cGe6
                              have HM5 := Lib.hid (HM4.out.of_eq (D' := D ++ seg s.data.toList st j ++ [92, 117, 48, 48, hxd q, hxd r]) (by simp))
                              go_wp2_with fail
                              go_roundw
                              case rel => exact ⟨j + 1, j + 1, _, by go_num, by go_num, by omega, by omega, Lib.hid (EM.esc HI.out HM5.out HLJ.out hstep)⟩
                              case measure => simp [intOf]; omega
                        · have hf' : ¬ (st : Int) < (j : Int) := by omega
                          have HM : Hid (EM B b e cs (l ++ [34]) w (D ++ seg s.data.toList st j) wr) := by
                            have hm := HI.out.mid
                            have he : seg s.data.toList st j = [] := by
                              have : st = j := by omega
                              subst this
                              exact seg_self _ _
                            rw [he, List.append_nil]
                            exact hm
                          rcases hctl with hc | hc
                          · have d2 : decide (32 ≤ (x : Int)) = false := decide_eq_false (by omega)
                            as_aux_lemma =>
                              clear hlow hf hc g34 g92 g8 g12 g10 g13 g9
                              have cF : wr.cell? ⟨e, 0, none⟩ = some (.iface 45 (.pointer (some ⟨b, 0, none⟩))) := HM.out.cell H0.out
                              have hv := Lib.hid (wStrK B b _ ⟨#[92, 117, 48, 48]⟩ wr HM.out.1 (by have h1 := HI.out.len; rw [size_list] at h1; simp only [List.length_append, List.length_cons, List.length_nil]; show _ + 4 ≤ _; omega))
                              go_wp2_with fail
                              with_reducible refine (hv.out).mono ?_
                              rintro e4 w4 ⟨rfl, h4, hb4, hk4⟩
                              have HM2 := Lib.hid (HM.out.wrote hB HEB.out h4 hb4 hk4)
                              clear hv h4 hb4 hk4 cF
                              have cGe5 : w4.cell? ⟨e, 0, none⟩ = some (.iface 45 (.pointer (some ⟨b, 0, none⟩))) := HM2.out.cell H0.out
                              have hv1 := Lib.hid fun cc (hc : cc = ((hxd q).toNat : Int)) => wByteK B b _ (hxd q) cc w4.drew hc HM2.out.drew.1 (by have h1 := HI.out.len; rw [size_list] at h1; simp only [List.length_append, List.length_cons, List.length_nil]; (try show _ + (_ + 4) + 1 ≤ _); omega)
                              go_wp2_with fail
                              go_still_tail 9, (by kernel_rfl)
                              change wpList _ _ _ _ _ w4.drew
                              go_wp2_with fail
                              with_reducible refine (hv1.out _ (hexS_get q (by omega))).mono ?_
                              rintro e5 w5 ⟨rfl, h5, hb5, hk5⟩
                              have HM3 := Lib.hid (HM2.out.drew.wrote hB HEB.out h5 hb5 hk5)
                              clear hv1 h5 hb5 hk5 cGe5
                              have cGe6 : w5.cell? ⟨e, 0, none⟩ = some (.iface 45 (.pointer (some ⟨b, 0, none⟩))) := HM3.out.cell H0.out
                              have hv2 := Lib.hid fun cc (hc : cc = ((hxd r).toNat : Int)) => wByteK B b _ (hxd r) cc w5.drew hc HM3.out.drew.1 (by have h1 := HI.out.len; rw [size_list] at h1; simp only [List.length_append, List.length_cons, List.length_nil]; (try show _ + (_ + 4 + 1) + 1 ≤ _); omega)
                              go_wp2_with fail
                              go_still_tail 9, (by kernel_rfl)
                              change wpList _ _ _ _ _ w5.drew
                              go_wp2_with fail
                              with_reducible refine (hv2.out _ (hexS_get r (by omega))).mono ?_
                              rintro e6 w6 ⟨rfl, h5, hb5, hk5⟩
                              have HM4 := Lib.hid (HM3.out.drew.wrote hB HEB.out h5 hb5 hk5)
                              clear hv2 h5 hb5 hk5 cGe6
                              have HM5 := Lib.hid (HM4.out.of_eq (D' := D ++ seg s.data.toList st j ++ [92, 117, 48, 48, hxd q, hxd r]) (by simp))
                              go_wp2_with fail
                              go_roundw
                              case rel => exact ⟨j + 1, j + 1, _, by go_num, by go_num, by omega, by omega, Lib.hid (EM.esc HI.out HM5.out HLJ.out hstep)⟩
                              case measure => simp [intOf]; omega
                          · have d2 : decide (32 ≤ (x : Int)) = true := decide_eq_true (by omega)
                            have d3 : decide ((x : Int) ≤ 126) = false := decide_eq_false (by omega)
                            as_aux_lemma =>
                              clear hlow hf hc g34 g92 g8 g12 g10 g13 g9
                              have cF : wr.cell? ⟨e, 0, none⟩ = some (.iface 45 (.pointer (some ⟨b, 0, none⟩))) := HM.out.cell H0.out
                              have hv := Lib.hid (wStrK B b _ ⟨#[92, 117, 48, 48]⟩ wr HM.out.1 (by have h1 := HI.out.len; rw [size_list] at h1; simp only [List.length_append, List.length_cons, List.length_nil]; show _ + 4 ≤ _; omega))
                              go_wp2_with fail
                              with_reducible refine (hv.out).mono ?_
                              rintro e4 w4 ⟨rfl, h4, hb4, hk4⟩
                              have HM2 := Lib.hid (HM.out.wrote hB HEB.out h4 hb4 hk4)
                              clear hv h4 hb4 hk4 cF
                              have cGe5 : w4.cell? ⟨e, 0, none⟩ = some (.iface 45 (.pointer (some ⟨b, 0, none⟩))) := HM2.out.cell H0.out
                              have hv1 := Lib.hid fun cc (hc : cc = ((hxd q).toNat : Int)) => wByteK B b _ (hxd q) cc w4.drew hc HM2.out.drew.1 (by have h1 := HI.out.len; rw [size_list] at h1; simp only [List.length_append, List.length_cons, List.length_nil]; (try show _ + (_ + 4) + 1 ≤ _); omega)
                              go_wp2_with fail
                              go_still_tail 9, (by kernel_rfl)
                              change wpList _ _ _ _ _ w4.drew
                              go_wp2_with fail
                              with_reducible refine (hv1.out _ (hexS_get q (by omega))).mono ?_
                              rintro e5 w5 ⟨rfl, h5, hb5, hk5⟩
                              have HM3 := Lib.hid (HM2.out.drew.wrote hB HEB.out h5 hb5 hk5)
                              clear hv1 h5 hb5 hk5 cGe5
                              have cGe6 : w5.cell? ⟨e, 0, none⟩ = some (.iface 45 (.pointer (some ⟨b, 0, none⟩))) := HM3.out.cell H0.out
                              have hv2 := Lib.hid fun cc (hc : cc = ((hxd r).toNat : Int)) => wByteK B b _ (hxd r) cc w5.drew hc HM3.out.drew.1 (by have h1 := HI.out.len; rw [size_list] at h1; simp only [List.length_append, List.length_cons, List.length_nil]; (try show _ + (_ + 4 + 1) + 1 ≤ _); omega)
                              go_wp2_with fail
                              go_still_tail 9, (by kernel_rfl)
                              change wpList _ _ _ _ _ w5.drew
                              go_wp2_with fail
                              with_reducible refine (hv2.out _ (hexS_get r (by omega))).mono ?_
                              rintro e6 w6 ⟨rfl, h5, hb5, hk5⟩
                              have HM4 := Lib.hid (HM3.out.drew.wrote hB HEB.out h5 hb5 hk5)
                              clear hv2 h5 hb5 hk5 cGe6
                              have HM5 := Lib.hid (HM4.out.of_eq (D' := D ++ seg s.data.toList st j ++ [92, 117, 48, 48, hxd q, hxd r]) (by simp))
                              go_wp2_with fail
                              go_roundw
                              case rel => exact ⟨j + 1, j + 1, _, by go_num, by go_num, by omega, by omega, Lib.hid (EM.esc HI.out HM5.out HLJ.out hstep)⟩
                              case measure => simp [intOf]; omega
      · as_aux_lemma =>
          have hbig : 128 ≤ bt (s.data.toList.drop j) 0 := by rw [HBT.out]; omega
          have hsub : (s.extract j s.size).data.toList = s.data.toList.drop j := by
            rw [extract_seg]
            unfold seg
            exact List.take_of_length_le (by rw [List.length_drop, size_list]; exact Nat.le_refl _)
          have hTz : 0 < (s.extract j s.size).size := by rw [← size_list, hsub, List.length_drop, size_list]; omega
          have hdg := decodeGo_seq (s.extract j s.size) hTz (by rw [hsub]; exact hbig)
          rw [hsub] at hdg
          have d1 : decide ((x : Int) < 128) = false := decide_eq_false (by omega)
          have hxe := hcast.out
          have hcall := Tryd.utf8_DecodeRuneInString (s.extract j s.size) wr HI.out.2.2.2.2.2.1
          have HC := Lib.hid hcall
          clear hcall hTz hbig hlow
          by_cases hsq : seqL (s.data.toList.drop j) = 0
          · have hstep : stepL (s.data.toList.drop j) = (1, some bad6) := by
              unfold stepL
              rw [HBT.out, if_neg (by have := d1; simp at this; omega), if_pos hsq]
            have hd := hdg.1 hsq
            have HD := Lib.hid (show Calls Tryd.prog 40 #[.string (s.extract j s.size)] wr (fun e w' => e = .returned (.tuple #[.int .i32 65533, .int .i64 1]) ∧ Below wr.heap.size wr w') from by
              have h := HC.out
              rw [hd] at h
              exact h)
            clear hdg hd hsq HC hsub
            go_wp2_with fail
            with_reducible refine (HD.out).mono ?_
            rintro e2 w2 ⟨rfl, hb2⟩
            replace HI := Lib.hid (HI.out.below hb2 hB)
            clear HD hb2
            by_cases hf : st < j
            · have hf' : (st : Int) < (j : Int) := by omega
              clear hf
              have cE : w2.cell? ⟨e, 0, none⟩ = some (.iface 45 (.pointer (some ⟨b, 0, none⟩))) := HI.out.mid.cell H0.out
              have hw := Lib.hid (wStrK B b (l ++ [34] ++ D) (s.extract st j) w2.drew HI.out.mid.drew.1 (by have h1 := HI.out.len; rw [size_list] at h1; rw [← size_list, extract_seg]; simp only [List.length_append, List.length_cons, List.length_nil]; omega))
              go_wp2_with fail
              go_still_tail 10, (by kernel_rfl)
              change wpList _ _ _ _ _ w2.drew
              go_wp2_with fail
              with_reducible refine (hw.out).mono ?_
              rintro e3 w3 ⟨rfl, h3, hb3, hk3⟩
              have HM := Lib.hid ((HI.out.mid.drew).wrote hB HEB.out (h3.of_eq (l' := l ++ [34] ++ D ++ seg s.data.toList st j) (by rw [extract_seg])) hb3 hk3)
              clear hw h3 hb3 hk3 cE
              have cF : w3.cell? ⟨e, 0, none⟩ = some (.iface 45 (.pointer (some ⟨b, 0, none⟩))) := HM.out.cell H0.out
              have hv := Lib.hid (wStrK B b _ ⟨#[92, 117, 102, 102, 102, 100]⟩ w3 HM.out.1 (by have h1 := HI.out.len; rw [size_list] at h1; simp only [List.length_append, List.length_cons, List.length_nil]; show _ + 6 ≤ _; omega))
              go_wp2_with fail
              with_reducible refine (hv.out).mono ?_
              rintro e4 w4 ⟨rfl, h4, hb4, hk4⟩
              have HM2 := Lib.hid (HM.out.wrote hB HEB.out h4 hb4 hk4)
              clear hv h4 hb4 hk4 cF
              go_wp2_with fail
              go_roundw
              case rel => exact ⟨j + 1, j + 1, _, by go_num, by go_num, by omega, by omega, Lib.hid (EM.esc HI.out HM2.out HLJ.out hstep)⟩
              case measure => simp [intOf]; omega
            · have hf' : ¬ (st : Int) < (j : Int) := by omega
              have HM : Hid (EM B b e cs (l ++ [34]) w (D ++ seg s.data.toList st j) w2) := by
                have hm := HI.out.mid
                have he : seg s.data.toList st j = [] := by
                  have : st = j := by omega
                  subst this
                  exact seg_self _ _
                rw [he, List.append_nil]
                exact hm
              clear hf
              have cF : w2.cell? ⟨e, 0, none⟩ = some (.iface 45 (.pointer (some ⟨b, 0, none⟩))) := HM.out.cell H0.out
              have hv := Lib.hid (wStrK B b _ ⟨#[92, 117, 102, 102, 102, 100]⟩ w2 HM.out.1 (by have h1 := HI.out.len; rw [size_list] at h1; simp only [List.length_append, List.length_cons, List.length_nil]; show _ + 6 ≤ _; omega))
              go_wp2_with fail
              with_reducible refine (hv.out).mono ?_
              rintro e4 w4 ⟨rfl, h4, hb4, hk4⟩
              have HM2 := Lib.hid (HM.out.wrote hB HEB.out h4 hb4 hk4)
              clear hv h4 hb4 hk4 cF
              go_wp2_with fail
              go_roundw
              case rel => exact ⟨j + 1, j + 1, _, by go_num, by go_num, by omega, by omega, Lib.hid (EM.esc HI.out HM2.out HLJ.out hstep)⟩
              case measure => simp [intOf]; omega
          · obtain ⟨k, hk⟩ : ∃ k : Nat, Hid (seqL (s.data.toList.drop j) = k) := ⟨_, Lib.hid rfl⟩
            have hc4 := seqL_cases (s.data.toList.drop j)
            rw [hk.out] at hc4 hsq hdg
            rw [List.length_drop, size_list] at hc4
            have hk2 : 2 ≤ k ∧ k ≤ 4 ∧ j + k ≤ s.size := by omega
            obtain ⟨k2, k4, kj⟩ := hk2
            have hstep : stepL (s.data.toList.drop j) = (k, none) := by
              unfold stepL
              rw [HBT.out, if_neg (by have := d1; simp at this; omega), hk.out, if_neg hsq]
            obtain ⟨R, hR⟩ : ∃ R : Nat, Hid ((Lib.decodeGo (s.extract j s.size)).1 = R) := ⟨_, Lib.hid rfl⟩
            have HD := Lib.hid (show Calls Tryd.prog 40 #[.string (s.extract j s.size)] wr (fun e w' => e = .returned (.tuple #[.int .i32 (R : Int), .int .i64 (k : Int)]) ∧ Below wr.heap.size wr w') from by
              have h := HC.out
              rw [hdg.2 hsq, hR.out] at h
              exact h)
            have HN := Lib.hid fun W (hb : Below wr.heap.size wr W) => (HI.out.below hb hB).keep HLJ.out hstep (by rw [size_list]; exact kj)
            have k1 : ((k : Int) == 1) = false := by rw [beq_eq_false_iff_ne]; omega
            clear hdg hsq HC hc4 hsub hstep
            by_cases hRR : R = 65533
            · have r1 : ((R : Int) == 65533) = true := by rw [beq_iff_eq]; omega
              clear hRR
              go_wp2_with fail
              with_reducible refine (HD.out).mono ?_
              rintro e2 w2 ⟨rfl, hb2⟩
              have HN2 := Lib.hid (HN.out _ hb2)
              clear HD hb2 HI
              go_wp2_with fail
              go_roundw
              case rel => exact ⟨st, j + k, D, rfl, by go_num, by omega, by omega, HN2⟩
              case measure => simp [intOf]; omega
            · have r1 : ((R : Int) == 65533) = false := by rw [beq_eq_false_iff_ne]; omega
              clear hRR
              go_wp2_with fail
              with_reducible refine (HD.out).mono ?_
              rintro e2 w2 ⟨rfl, hb2⟩
              have HN2 := Lib.hid (HN.out _ hb2)
              clear HD hb2 HI
              go_wp2_with fail
              go_roundw
              case rel => exact ⟨st, j + k, D, rfl, by go_num, by omega, by omega, HN2⟩
              case measure => simp [intOf]; omega
    · as_aux_lemma =>
        obtain rfl : j = s.size := by omega
        have hfin : Hid (D ++ seg s.data.toList st s.size = enc s.data.toList) := by
          have h := HI.out.2.2.2.2.2.2
          rw [List.drop_of_length_le (by rw [size_list]; exact Nat.le_refl _), enc_nil, List.append_nil] at h
          exact h
        have cE : wr.cell? ⟨e, 0, none⟩ = some (.iface 45 (.pointer (some ⟨b, 0, none⟩))) := HI.out.mid.cell H0.out
        by_cases hf : st < s.size
        · have hf' : (st : Int) < (s.size : Int) := by omega
          have i2 : (0 : Int) ≤ (st : Int) := by omega
          have i3 : (st : Int) ≤ (s.size : Int) := by omega
          have hw := Lib.hid (wStrK B b (l ++ [34] ++ D) (s.extract st s.size) wr.drew HI.out.mid.drew.1 (by have h1 := HI.out.len; rw [size_list] at h1; rw [← size_list, extract_seg]; simp only [List.length_append, List.length_cons, List.length_nil]; omega))
          have hlen := HI.out.len
          rw [size_list] at hlen
          clear hf
          go_wp2_with fail
          go_still_tail 9, (by kernel_rfl)
          change wpList _ _ _ _ _ wr.drew
          go_wp2_with fail
          with_reducible refine (hw.out).mono ?_
          rintro e3 w3 ⟨rfl, h3, hb3, hk3⟩
          have HM := Lib.hid ((HI.out.mid.drew).wrote hB HEB.out (h3.of_eq (l' := l ++ [34] ++ D ++ seg s.data.toList st s.size) (by rw [extract_seg])) hb3 hk3)
          have cF : w3.cell? ⟨e, 0, none⟩ = some (.iface 45 (.pointer (some ⟨b, 0, none⟩))) := HM.out.cell H0.out
          have hv := Lib.hid (wByteK B b _ 34 34 w3 (by decide) HM.out.1 (by simp only [List.length_append, List.length_cons, List.length_nil]; omega))
          clear hw h3 hb3 hk3 cE
          go_wp2_with fail
          with_reducible refine (hv.out).mono ?_
          rintro e4 w4 ⟨rfl, h4, hb4, hk4⟩
          go_wp2_with fail
          go_end0
          exact ⟨rfl, h4.of_eq (by rw [← hfin.out]; try simp), HM.out.2.2.1.trans hb4⟩
        · have hf' : ¬ (st : Int) < (s.size : Int) := by omega
          have hlen := HI.out.len
          rw [size_list] at hlen
          have hse : Hid (seg s.data.toList st s.size = []) := by
            have : st = s.size := by omega
            subst this
            exact seg_self _ _
          have hv := Lib.hid (wByteK B b _ 34 34 wr (by decide) HI.out.mid.1 (by simp only [List.length_append, List.length_cons, List.length_nil]; omega))
          clear hf
          go_wp2_with fail
          with_reducible refine (hv.out).mono ?_
          rintro e4 w4 ⟨rfl, h4, hb4, hk4⟩
          go_wp2_with fail
          go_end0
          exact ⟨rfl, h4.of_eq (by rw [← hfin.out, hse.out]; try simp), HI.out.mid.2.2.1.trans hb4⟩
end Go.Proofs.YtbjjcampiknnpaaDoor
