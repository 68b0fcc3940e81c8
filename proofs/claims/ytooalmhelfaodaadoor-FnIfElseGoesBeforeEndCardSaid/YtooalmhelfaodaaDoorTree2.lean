/- Chains of binary queries: what (*Query).writeTo and String write. -/
import Derived.Test.YtooalmhelfaodaaDoorTree
namespace Go.Proofs.YtooalmhelfaodaaDoor
open Go.RowKit
set_option maxRecDepth 100000
set_option linter.unusedVariables false
inductive Qu
  | nothing
  | leaf (x : Leaf)
  | bin (a : Qu) (op : Nat) (pat : Option ByteArray) (b : Leaf)
def bcells (t l r p : Value) (op : Int) : Array Value := #[.pointer none, .slice none 0 0, .slice none 0 0, t, l, r, p, .int .i64 op]
def PatIs (w : World) (B : Nat) (P : Value) : Option ByteArray → Prop
  | none => P = .slice none 0 0
  | some s => s.size ≠ 0 ∧ ∃ L p, P = .slice (some ⟨L, 0, none⟩) 1 1 ∧ L < B ∧ p < B ∧ Blk w L 123 #[.pointer (some ⟨p, 0, none⟩)] ∧ Blk w p 126 #[.string s, .slice none 0 0, .slice none 0 0]
theorem PatIs.below {w w' : World} {B : Nat} {P : Value} (hb : Below B w w') : ∀ {o : Option ByteArray}, PatIs w B P o → PatIs w' B P o
  | none, h => h
  | some s, ⟨h0, L, p, h1, h2, h3, h4, h5⟩ => ⟨h0, L, p, h1, h2, h3, h4.below hb h2, h5.below hb h3⟩
theorem PatIs.mono {w : World} {B B' : Nat} {P : Value} (hB : B ≤ B') : ∀ {o : Option ByteArray}, PatIs w B P o → PatIs w B' P o
  | none, h => h
  | some s, ⟨h0, L, p, h1, h2, h3, h4, h5⟩ => ⟨h0, L, p, h1, Nat.lt_of_lt_of_le h2 hB, Nat.lt_of_lt_of_le h3 hB, h4, h5⟩
/-- block q is the query t -/
def QuIs (w : World) (B q : Nat) : Qu → Prop
  | .nothing => q < B ∧ Blk w q 119 (bcells (.pointer none) (.pointer none) (.pointer none) (.slice none 0 0) 0)
  | .leaf x => QIs w B q x
  | .bin a op pat b => q < B ∧ (1 ≤ op ∧ op ≤ 24) ∧ ∃ l r P, Blk w q 119 (bcells (.pointer none) (.pointer (some ⟨l, 0, none⟩)) (.pointer (some ⟨r, 0, none⟩)) P op) ∧ QuIs w B l a ∧ QIs w B r b ∧ PatIs w B P pat
theorem QuIs.below {w w' : World} {B : Nat} (hb : Below B w w') : ∀ {t : Qu} {q : Nat}, QuIs w B q t → QuIs w' B q t
  | .nothing, _, ⟨h1, h2⟩ => ⟨h1, h2.below hb h1⟩
  | .leaf x, _, h => QIs.below hb h
  | .bin a op pat b, _, ⟨h1, ho, l, r, P, h2, h3, h4, h5⟩ => ⟨h1, ho, l, r, P, h2.below hb h1, QuIs.below hb h3, h4.below hb, h5.below hb⟩
theorem QuIs.mono {w : World} {B B' : Nat} (hB : B ≤ B') : ∀ {t : Qu} {q : Nat}, QuIs w B q t → QuIs w B' q t
  | .nothing, _, ⟨h1, h2⟩ => ⟨Nat.lt_of_lt_of_le h1 hB, h2⟩
  | .leaf x, _, h => QIs.mono hB h
  | .bin a op pat b, _, ⟨h1, ho, l, r, P, h2, h3, h4, h5⟩ => ⟨Nat.lt_of_lt_of_le h1 hB, ho, l, r, P, h2, QuIs.mono hB h3, h4.mono hB, h5.mono hB⟩
def outP (pat : Option ByteArray) (l : List UInt8) : List UInt8 := match pat with
  | none => l
  | some s => l ++ [97, 115, 32] ++ s.data.toList ++ [32]
def sepT (op : Nat) (l : List UInt8) : List UInt8 := if op = 2 then l else l ++ [32]
def outQ : Qu → List UInt8 → List UInt8
  | .nothing, l => l
  | .leaf x, l => outL x l
  | .bin a op pat b, l => outL b (outP pat (sepT op (outQ a l)) ++ (opS op).data.toList ++ [32])
def wtP : Option ByteArray → Nat
  | none => 0
  | some s => s.size + 4
def Qu.wt : Qu → Nat
  | .nothing => 0
  | .leaf x => x.wt
  | .bin a op pat b => a.wt + wtP pat + b.wt + 8
theorem outP_len (pat : Option ByteArray) (l : List UInt8) : (outP pat l).length = l.length + wtP pat := by
  cases pat with
  | none => rfl
  | some s => simp only [outP, wtP, List.length_append, List.length_cons, List.length_nil, size_list]; omega
theorem outQ_len (t : Qu) : ∀ l : List UInt8, (outQ t l).length ≤ l.length + t.wt := by
  induction t with
  | nothing => intro l; exact Nat.le_refl _
  | leaf x => intro l; exact outL_len x l
  | bin a op pat b ih =>
    intro l
    have h1 := ih l
    have h2 := opS_len op
    have h3 : (sepT op (outQ a l)).length ≤ (outQ a l).length + 1 := by unfold sepT; split <;> simp
    have h4 := outP_len pat (sepT op (outQ a l))
    have h5 := outL_len b (outP pat (sepT op (outQ a l)) ++ (opS op).data.toList ++ [32])
    simp only [List.length_append, List.length_cons, List.length_nil, size_list] at h5
    simp only [outQ, Qu.wt]
    omega
set_option maxHeartbeats 1000000 in
theorem pat_name (B b p : Nat) (l : List UInt8) (s : ByteArray) (w : World) (h : Bd B b l w) (hl : l.length + s.size ≤ 70368744177664) (hs : s.size ≠ 0) (hp : p < B) (c0 : w.cell? ⟨p, 0, none⟩ = some (.string s)) :
    Calls Tryd.prog 78 #[.pointer (some ⟨p, 0, none⟩), .pointer (some ⟨b, 0, none⟩)] w (Wrote B b (l ++ s.data.toList) w) := by
  obtain ⟨k1, k2⟩ := size_ne hs
  have hw := Lib.hid (wStr B b l s w h hl)
  go_enter Tryd.func78, Tryd.ntmps78
  go_wp2_with fail
  with_reducible refine (hw.out).mono ?_
  rintro e1 w1 ⟨rfl, h1, hb1⟩
  go_wp2_with fail
  go_end0
  exact ⟨rfl, h1, hb1⟩
set_option maxHeartbeats 1000000 in
theorem query_nothing (B b q : Nat) (l : List UInt8) (w : World) (h : Bd B b l w) (hq : q < B) (hB : Blk w q 119 (bcells (.pointer none) (.pointer none) (.pointer none) (.slice none 0 0) 0)) :
    Calls Tryd.prog 66 #[.pointer (some ⟨q, 0, none⟩), .pointer (some ⟨b, 0, none⟩)] w (Wrote B b l w) := by
  have c0 : w.cell? ⟨q, 0, none⟩ = some (.pointer none) := hB.cell 0
  have c1 : w.cell? ⟨q, 1, none⟩ = some (.slice none 0 0) := hB.cell 1
  have c2 : w.cell? ⟨q, 2, none⟩ = some (.slice none 0 0) := hB.cell 2
  have c3 : w.cell? ⟨q, 3, none⟩ = some (.pointer none) := hB.cell 3
  have c5 : w.cell? ⟨q, 5, none⟩ = some (.pointer none) := hB.cell 5
  clear hB
  go_enter Tryd.func66, Tryd.ntmps66
  go_wp2_with fail
  refine wp_loop_rounds 1 ?_
  rw [rounds_succ]
  go_wp2_with fail
  refine wp_loop_rounds 1 ?_
  rw [rounds_succ]
  go_wp2_with fail
  go_end0
  exact ⟨rfl, h, Below.refl _ _⟩
set_option maxHeartbeats 4000000 in
/-- behind the patterns: the operator, a blank, the right part -/
theorem bin_rest (B b q r op : Nat) (y : Leaf) (t : List UInt8) (w : World) (h : Bd B b t w) (ho1 : 1 ≤ op) (ho2 : op ≤ 24) (hr : QIs w B r y) (hlen : t.length + y.wt + 4 ≤ 70368744177664) :
    Hid (Calls Tryd.prog 59 #[.pointer (some ⟨b, 0, none⟩), .string (opS op)] w fun e w' => e = .returned (.tuple #[.int .i64 (opS op).size, .nilIface]) ∧ Below B w w' ∧ Hid (Calls Tryd.prog 70 #[.pointer (some ⟨b, 0, none⟩), .int .u8 32] w' fun e w2 => e = .returned .nilIface ∧ Below B w' w2 ∧
      Hid (Calls Tryd.prog 66 #[.pointer (some ⟨r, 0, none⟩), .pointer (some ⟨b, 0, none⟩)] w2 (Wrote B b (outL y (t ++ (opS op).data.toList ++ [32])) w2)))) := by
  have hos := opS_len op
  refine (wStr B b t (opS op) w h (by omega)).mono ?_
  rintro e w1 ⟨rfl, h1, hb1⟩
  refine ⟨rfl, hb1, ?_⟩
  refine (wByte B b _ 32 32 w1 (by decide) h1 (by rw [List.length_append, size_list]; omega)).mono ?_
  rintro e w2 ⟨rfl, h2, hb2⟩
  refine ⟨rfl, hb2, ?_⟩
  exact query_leaf B b r y _ w2 h2 ((hr.below hb1).below hb2) (by rw [List.length_append, List.length_append, size_list]; simp only [List.length_cons, List.length_nil]; omega)
set_option maxHeartbeats 8000000 in
theorem bin_comma_bare (B b q l r op : Nat) (y : Leaf) (t1 : List UInt8) (w : World) (ho1 : 1 ≤ op) (ho2 : op ≤ 24) (ho : ((op : Int) != 2) = false) (hq : q < B) (hB : Blk w q 119 (bcells (.pointer none) (.pointer (some ⟨l, 0, none⟩)) (.pointer (some ⟨r, 0, none⟩)) (.slice none 0 0) op))
    (hr : QIs w B r y) (hlen : t1.length + y.wt + 12 ≤ 70368744177664)
    (hL : Hid (Calls Tryd.prog 66 #[.pointer (some ⟨l, 0, none⟩), .pointer (some ⟨b, 0, none⟩)] w (Wrote B b t1 w))) :
    Calls Tryd.prog 66 #[.pointer (some ⟨q, 0, none⟩), .pointer (some ⟨b, 0, none⟩)] w (Wrote B b (outL y (t1 ++ (opS op).data.toList ++ [32])) w) := by
  have c0 : w.cell? ⟨q, 0, none⟩ = some (.pointer none) := hB.cell 0
  have c1 : w.cell? ⟨q, 1, none⟩ = some (.slice none 0 0) := hB.cell 1
  have c2 : w.cell? ⟨q, 2, none⟩ = some (.slice none 0 0) := hB.cell 2
  have c3 : w.cell? ⟨q, 3, none⟩ = some (.pointer none) := hB.cell 3
  have c4 : w.cell? ⟨q, 4, none⟩ = some (.pointer (some ⟨l, 0, none⟩)) := hB.cell 4
  have c5 : w.cell? ⟨q, 5, none⟩ = some (.pointer (some ⟨r, 0, none⟩)) := hB.cell 5
  have HB := Lib.hid hB
  have HR := Lib.hid hr
  have hos := opS_len op
  clear hB hr
  go_enter Tryd.func66, Tryd.ntmps66
  go_wp2_with fail
  refine wp_loop_rounds 1 ?_
  rw [rounds_succ]
  go_wp2_with fail
  refine wp_loop_rounds 1 ?_
  rw [rounds_succ]
  go_wp2_with fail
  with_reducible refine (hL.out).mono ?_
  rintro e1 w1 ⟨rfl, h1, hb1⟩
  clear c0 c1 c2 c3 c4 c5
  have d7 : w1.cell? ⟨q, 7, none⟩ = some (.int .i64 op) := (hb1.cell (p := ⟨q, 7, none⟩) hq).trans (HB.out.cell 7)
  have d6 : w1.cell? ⟨q, 6, none⟩ = some (.slice none 0 0) := (hb1.cell (p := ⟨q, 6, none⟩) hq).trans (HB.out.cell 6)
  have d5 : w1.cell? ⟨q, 5, none⟩ = some (.pointer (some ⟨r, 0, none⟩)) := (hb1.cell (p := ⟨q, 5, none⟩) hq).trans (HB.out.cell 5)
  go_wp2_with fail
  refine wp_loop_rounds 1 ?_
  rw [rounds_succ]
  go_wp2_with fail
  with_reducible refine (op_any op _ ho1 ho2).mono ?_
  rintro e8 w8 ⟨rfl, rfl⟩
  have hre := bin_rest B b q r op y _ w1 h1 ho1 ho2 (HR.out.below hb1) (by omega)
  go_wp2_with fail
  with_reducible refine (hre.out).mono ?_
  rintro e9 w9 ⟨rfl, hb9', hre2⟩
  have hb9 := hb1.trans hb9'
  clear d7 d6 d5
  have d5 : w9.cell? ⟨q, 5, none⟩ = some (.pointer (some ⟨r, 0, none⟩)) := (hb9.cell (p := ⟨q, 5, none⟩) hq).trans (HB.out.cell 5)
  go_wp2_with fail
  with_reducible refine (hre2.out).mono ?_
  rintro e10 w10 ⟨rfl, hb10', hre3⟩
  have hb10 := hb9.trans hb10'
  clear d5
  have d5 : w10.cell? ⟨q, 5, none⟩ = some (.pointer (some ⟨r, 0, none⟩)) := (hb10.cell (p := ⟨q, 5, none⟩) hq).trans (HB.out.cell 5)
  go_wp2_with fail
  with_reducible refine (hre3.out).mono ?_
  rintro e11 w11 ⟨rfl, h11, hb11⟩
  go_wp2_with fail
  go_end0
  exact ⟨rfl, h11, hb10.trans hb11⟩
set_option maxHeartbeats 8000000 in
theorem bin_comma_pat (B b q l r op : Nat) (y : Leaf) (t1 : List UInt8) (w : World) (L p : Nat) (s : ByteArray) (hs : s.size ≠ 0) (hLB : L < B) (hpB : p < B) (hL1 : Blk w L 123 #[.pointer (some ⟨p, 0, none⟩)]) (hp1 : Blk w p 126 #[.string s, .slice none 0 0, .slice none 0 0]) (ho1 : 1 ≤ op) (ho2 : op ≤ 24) (ho : ((op : Int) != 2) = false) (hq : q < B) (hB : Blk w q 119 (bcells (.pointer none) (.pointer (some ⟨l, 0, none⟩)) (.pointer (some ⟨r, 0, none⟩)) (.slice (some ⟨L, 0, none⟩) 1 1) op))
    (hr : QIs w B r y) (hlen : t1.length + s.size + y.wt + 12 ≤ 70368744177664)
    (hL : Hid (Calls Tryd.prog 66 #[.pointer (some ⟨l, 0, none⟩), .pointer (some ⟨b, 0, none⟩)] w (Wrote B b t1 w))) :
    Calls Tryd.prog 66 #[.pointer (some ⟨q, 0, none⟩), .pointer (some ⟨b, 0, none⟩)] w (Wrote B b (outL y ((t1 ++ [97, 115, 32] ++ s.data.toList ++ [32]) ++ (opS op).data.toList ++ [32])) w) := by
  have c0 : w.cell? ⟨q, 0, none⟩ = some (.pointer none) := hB.cell 0
  have c1 : w.cell? ⟨q, 1, none⟩ = some (.slice none 0 0) := hB.cell 1
  have c2 : w.cell? ⟨q, 2, none⟩ = some (.slice none 0 0) := hB.cell 2
  have c3 : w.cell? ⟨q, 3, none⟩ = some (.pointer none) := hB.cell 3
  have c4 : w.cell? ⟨q, 4, none⟩ = some (.pointer (some ⟨l, 0, none⟩)) := hB.cell 4
  have c5 : w.cell? ⟨q, 5, none⟩ = some (.pointer (some ⟨r, 0, none⟩)) := hB.cell 5
  have HB := Lib.hid hB
  have HR := Lib.hid hr
  have hos := opS_len op
  clear hB hr
  have HL1 := Lib.hid hL1
  have HP1 := Lib.hid hp1
  clear hL1 hp1
  have hz3 : ∀ n : Nat, n + 3 ≤ 70368744177664 → n + (⟨#[97, 115, 32]⟩ : ByteArray).size ≤ 70368744177664 := fun _ h => h
  have HZ3 := Lib.hid hz3
  clear hz3
  go_enter Tryd.func66, Tryd.ntmps66
  go_wp2_with fail
  refine wp_loop_rounds 1 ?_
  rw [rounds_succ]
  go_wp2_with fail
  refine wp_loop_rounds 1 ?_
  rw [rounds_succ]
  go_wp2_with fail
  with_reducible refine (hL.out).mono ?_
  rintro e1 w1 ⟨rfl, h1, hb1⟩
  clear c0 c1 c2 c3 c4 c5
  have d7 : w1.cell? ⟨q, 7, none⟩ = some (.int .i64 op) := (hb1.cell (p := ⟨q, 7, none⟩) hq).trans (HB.out.cell 7)
  have d6 : w1.cell? ⟨q, 6, none⟩ = some (.slice (some ⟨L, 0, none⟩) 1 1) := (hb1.cell (p := ⟨q, 6, none⟩) hq).trans (HB.out.cell 6)
  have d5 : w1.cell? ⟨q, 5, none⟩ = some (.pointer (some ⟨r, 0, none⟩)) := (hb1.cell (p := ⟨q, 5, none⟩) hq).trans (HB.out.cell 5)
  have a0 : w1.cell? ⟨L, 0, none⟩ = some (.pointer (some ⟨p, 0, none⟩)) := (hb1.cell (p := ⟨L, 0, none⟩) hLB).trans (HL1.out.cell 0)
  go_wp2_with fail
  refine wp_loop_rounds 2 ?_
  rw [rounds_succ]
  have has := Lib.hid (wStr B b _ ⟨#[97, 115, 32]⟩ w1 h1 (HZ3.out _ (by omega)))
  go_wp2_with fail
  with_reducible refine (has.out).mono ?_
  rintro e5 w5 ⟨rfl, h5, hb5'⟩
  have hb5 := hb1.trans hb5'
  clear a0 d7 d6 d5
  have e0 : w5.cell? ⟨p, 0, none⟩ = some (.string s) := (hb5.cell (p := ⟨p, 0, none⟩) hpB).trans (HP1.out.cell 0)
  have hpn := Lib.hid (pat_name B b p _ s w5 h5 (by simp only [List.length_append, List.length_cons, List.length_nil]; omega) hs hpB e0)
  clear e0
  go_wp2_with fail
  with_reducible refine (hpn.out).mono ?_
  rintro e6 w6 ⟨rfl, h6, hb6'⟩
  have hb6 := hb5.trans hb6'
  have hsp6 := Lib.hid (wByte B b _ 32 32 w6 (by decide) h6 (by simp only [List.length_append, List.length_cons, List.length_nil, size_list]; omega))
  go_wp2_with fail
  with_reducible refine (hsp6.out).mono ?_
  rintro e7 w7 ⟨rfl, h7, hb7'⟩
  have hb7 := hb6.trans hb7'
  have d7 : w7.cell? ⟨q, 7, none⟩ = some (.int .i64 op) := (hb7.cell (p := ⟨q, 7, none⟩) hq).trans (HB.out.cell 7)
  have d5 : w7.cell? ⟨q, 5, none⟩ = some (.pointer (some ⟨r, 0, none⟩)) := (hb7.cell (p := ⟨q, 5, none⟩) hq).trans (HB.out.cell 5)
  go_wp2_with fail
  rw [rounds_succ]
  go_wp2_with fail
  with_reducible refine (op_any op _ ho1 ho2).mono ?_
  rintro e8 w8 ⟨rfl, rfl⟩
  have hre := bin_rest B b q r op y _ w7 h7 ho1 ho2 (HR.out.below hb7) (by simp only [List.length_append, List.length_cons, List.length_nil, size_list]; omega)
  go_wp2_with fail
  with_reducible refine (hre.out).mono ?_
  rintro e9 w9 ⟨rfl, hb9', hre2⟩
  have hb9 := hb7.trans hb9'
  clear d7 d5
  have d5 : w9.cell? ⟨q, 5, none⟩ = some (.pointer (some ⟨r, 0, none⟩)) := (hb9.cell (p := ⟨q, 5, none⟩) hq).trans (HB.out.cell 5)
  go_wp2_with fail
  with_reducible refine (hre2.out).mono ?_
  rintro e10 w10 ⟨rfl, hb10', hre3⟩
  have hb10 := hb9.trans hb10'
  clear d5
  have d5 : w10.cell? ⟨q, 5, none⟩ = some (.pointer (some ⟨r, 0, none⟩)) := (hb10.cell (p := ⟨q, 5, none⟩) hq).trans (HB.out.cell 5)
  go_wp2_with fail
  with_reducible refine (hre3.out).mono ?_
  rintro e11 w11 ⟨rfl, h11, hb11⟩
  go_wp2_with fail
  go_end0
  exact ⟨rfl, h11, hb10.trans hb11⟩
set_option maxHeartbeats 8000000 in
theorem bin_other_bare (B b q l r op : Nat) (y : Leaf) (t1 : List UInt8) (w : World) (ho1 : 1 ≤ op) (ho2 : op ≤ 24) (ho : ((op : Int) != 2) = true) (hq : q < B) (hB : Blk w q 119 (bcells (.pointer none) (.pointer (some ⟨l, 0, none⟩)) (.pointer (some ⟨r, 0, none⟩)) (.slice none 0 0) op))
    (hr : QIs w B r y) (hlen : t1.length + y.wt + 12 ≤ 70368744177664)
    (hL : Hid (Calls Tryd.prog 66 #[.pointer (some ⟨l, 0, none⟩), .pointer (some ⟨b, 0, none⟩)] w (Wrote B b t1 w))) :
    Calls Tryd.prog 66 #[.pointer (some ⟨q, 0, none⟩), .pointer (some ⟨b, 0, none⟩)] w (Wrote B b (outL y ((t1 ++ [32]) ++ (opS op).data.toList ++ [32])) w) := by
  have c0 : w.cell? ⟨q, 0, none⟩ = some (.pointer none) := hB.cell 0
  have c1 : w.cell? ⟨q, 1, none⟩ = some (.slice none 0 0) := hB.cell 1
  have c2 : w.cell? ⟨q, 2, none⟩ = some (.slice none 0 0) := hB.cell 2
  have c3 : w.cell? ⟨q, 3, none⟩ = some (.pointer none) := hB.cell 3
  have c4 : w.cell? ⟨q, 4, none⟩ = some (.pointer (some ⟨l, 0, none⟩)) := hB.cell 4
  have c5 : w.cell? ⟨q, 5, none⟩ = some (.pointer (some ⟨r, 0, none⟩)) := hB.cell 5
  have HB := Lib.hid hB
  have HR := Lib.hid hr
  have hos := opS_len op
  clear hB hr
  go_enter Tryd.func66, Tryd.ntmps66
  go_wp2_with fail
  refine wp_loop_rounds 1 ?_
  rw [rounds_succ]
  go_wp2_with fail
  refine wp_loop_rounds 1 ?_
  rw [rounds_succ]
  go_wp2_with fail
  with_reducible refine (hL.out).mono ?_
  rintro e1 w1 ⟨rfl, h1, hb1⟩
  clear c0 c1 c2 c3 c4 c5
  have d7 : w1.cell? ⟨q, 7, none⟩ = some (.int .i64 op) := (hb1.cell (p := ⟨q, 7, none⟩) hq).trans (HB.out.cell 7)
  have d6 : w1.cell? ⟨q, 6, none⟩ = some (.slice none 0 0) := (hb1.cell (p := ⟨q, 6, none⟩) hq).trans (HB.out.cell 6)
  have d5 : w1.cell? ⟨q, 5, none⟩ = some (.pointer (some ⟨r, 0, none⟩)) := (hb1.cell (p := ⟨q, 5, none⟩) hq).trans (HB.out.cell 5)
  have hsp := Lib.hid (wByte B b _ 32 32 w1 (by decide) h1 (by omega))
  go_wp2_with fail
  with_reducible refine (hsp.out).mono ?_
  rintro e2 w2 ⟨rfl, h2, hb2'⟩
  have hb2 := hb1.trans hb2'
  clear d7 d6 d5
  have d7 : w2.cell? ⟨q, 7, none⟩ = some (.int .i64 op) := (hb2.cell (p := ⟨q, 7, none⟩) hq).trans (HB.out.cell 7)
  have d6 : w2.cell? ⟨q, 6, none⟩ = some (.slice none 0 0) := (hb2.cell (p := ⟨q, 6, none⟩) hq).trans (HB.out.cell 6)
  have d5 : w2.cell? ⟨q, 5, none⟩ = some (.pointer (some ⟨r, 0, none⟩)) := (hb2.cell (p := ⟨q, 5, none⟩) hq).trans (HB.out.cell 5)
  go_wp2_with fail
  refine wp_loop_rounds 1 ?_
  rw [rounds_succ]
  go_wp2_with fail
  with_reducible refine (op_any op _ ho1 ho2).mono ?_
  rintro e8 w8 ⟨rfl, rfl⟩
  have hre := bin_rest B b q r op y _ w2 h2 ho1 ho2 (HR.out.below hb2) (by rw [List.length_append]; simp only [List.length_cons, List.length_nil]; omega)
  go_wp2_with fail
  with_reducible refine (hre.out).mono ?_
  rintro e9 w9 ⟨rfl, hb9', hre2⟩
  have hb9 := hb2.trans hb9'
  clear d7 d6 d5
  have d5 : w9.cell? ⟨q, 5, none⟩ = some (.pointer (some ⟨r, 0, none⟩)) := (hb9.cell (p := ⟨q, 5, none⟩) hq).trans (HB.out.cell 5)
  go_wp2_with fail
  with_reducible refine (hre2.out).mono ?_
  rintro e10 w10 ⟨rfl, hb10', hre3⟩
  have hb10 := hb9.trans hb10'
  clear d5
  have d5 : w10.cell? ⟨q, 5, none⟩ = some (.pointer (some ⟨r, 0, none⟩)) := (hb10.cell (p := ⟨q, 5, none⟩) hq).trans (HB.out.cell 5)
  go_wp2_with fail
  with_reducible refine (hre3.out).mono ?_
  rintro e11 w11 ⟨rfl, h11, hb11⟩
  go_wp2_with fail
  go_end0
  exact ⟨rfl, h11, hb10.trans hb11⟩
set_option maxHeartbeats 8000000 in
theorem bin_other_pat (B b q l r op : Nat) (y : Leaf) (t1 : List UInt8) (w : World) (L p : Nat) (s : ByteArray) (hs : s.size ≠ 0) (hLB : L < B) (hpB : p < B) (hL1 : Blk w L 123 #[.pointer (some ⟨p, 0, none⟩)]) (hp1 : Blk w p 126 #[.string s, .slice none 0 0, .slice none 0 0]) (ho1 : 1 ≤ op) (ho2 : op ≤ 24) (ho : ((op : Int) != 2) = true) (hq : q < B) (hB : Blk w q 119 (bcells (.pointer none) (.pointer (some ⟨l, 0, none⟩)) (.pointer (some ⟨r, 0, none⟩)) (.slice (some ⟨L, 0, none⟩) 1 1) op))
    (hr : QIs w B r y) (hlen : t1.length + s.size + y.wt + 12 ≤ 70368744177664)
    (hL : Hid (Calls Tryd.prog 66 #[.pointer (some ⟨l, 0, none⟩), .pointer (some ⟨b, 0, none⟩)] w (Wrote B b t1 w))) :
    Calls Tryd.prog 66 #[.pointer (some ⟨q, 0, none⟩), .pointer (some ⟨b, 0, none⟩)] w (Wrote B b (outL y (((t1 ++ [32]) ++ [97, 115, 32] ++ s.data.toList ++ [32]) ++ (opS op).data.toList ++ [32])) w) := by
  have c0 : w.cell? ⟨q, 0, none⟩ = some (.pointer none) := hB.cell 0
  have c1 : w.cell? ⟨q, 1, none⟩ = some (.slice none 0 0) := hB.cell 1
  have c2 : w.cell? ⟨q, 2, none⟩ = some (.slice none 0 0) := hB.cell 2
  have c3 : w.cell? ⟨q, 3, none⟩ = some (.pointer none) := hB.cell 3
  have c4 : w.cell? ⟨q, 4, none⟩ = some (.pointer (some ⟨l, 0, none⟩)) := hB.cell 4
  have c5 : w.cell? ⟨q, 5, none⟩ = some (.pointer (some ⟨r, 0, none⟩)) := hB.cell 5
  have HB := Lib.hid hB
  have HR := Lib.hid hr
  have hos := opS_len op
  clear hB hr
  have HL1 := Lib.hid hL1
  have HP1 := Lib.hid hp1
  clear hL1 hp1
  have hz3 : ∀ n : Nat, n + 3 ≤ 70368744177664 → n + (⟨#[97, 115, 32]⟩ : ByteArray).size ≤ 70368744177664 := fun _ h => h
  have HZ3 := Lib.hid hz3
  clear hz3
  go_enter Tryd.func66, Tryd.ntmps66
  go_wp2_with fail
  refine wp_loop_rounds 1 ?_
  rw [rounds_succ]
  go_wp2_with fail
  refine wp_loop_rounds 1 ?_
  rw [rounds_succ]
  go_wp2_with fail
  with_reducible refine (hL.out).mono ?_
  rintro e1 w1 ⟨rfl, h1, hb1⟩
  clear c0 c1 c2 c3 c4 c5
  have d7 : w1.cell? ⟨q, 7, none⟩ = some (.int .i64 op) := (hb1.cell (p := ⟨q, 7, none⟩) hq).trans (HB.out.cell 7)
  have d6 : w1.cell? ⟨q, 6, none⟩ = some (.slice (some ⟨L, 0, none⟩) 1 1) := (hb1.cell (p := ⟨q, 6, none⟩) hq).trans (HB.out.cell 6)
  have d5 : w1.cell? ⟨q, 5, none⟩ = some (.pointer (some ⟨r, 0, none⟩)) := (hb1.cell (p := ⟨q, 5, none⟩) hq).trans (HB.out.cell 5)
  have hsp := Lib.hid (wByte B b _ 32 32 w1 (by decide) h1 (by omega))
  go_wp2_with fail
  with_reducible refine (hsp.out).mono ?_
  rintro e2 w2 ⟨rfl, h2, hb2'⟩
  have hb2 := hb1.trans hb2'
  clear d7 d6 d5
  have d7 : w2.cell? ⟨q, 7, none⟩ = some (.int .i64 op) := (hb2.cell (p := ⟨q, 7, none⟩) hq).trans (HB.out.cell 7)
  have d6 : w2.cell? ⟨q, 6, none⟩ = some (.slice (some ⟨L, 0, none⟩) 1 1) := (hb2.cell (p := ⟨q, 6, none⟩) hq).trans (HB.out.cell 6)
  have d5 : w2.cell? ⟨q, 5, none⟩ = some (.pointer (some ⟨r, 0, none⟩)) := (hb2.cell (p := ⟨q, 5, none⟩) hq).trans (HB.out.cell 5)
  have a0 : w2.cell? ⟨L, 0, none⟩ = some (.pointer (some ⟨p, 0, none⟩)) := (hb2.cell (p := ⟨L, 0, none⟩) hLB).trans (HL1.out.cell 0)
  go_wp2_with fail
  refine wp_loop_rounds 2 ?_
  rw [rounds_succ]
  have has := Lib.hid (wStr B b _ ⟨#[97, 115, 32]⟩ w2 h2 (HZ3.out _ (by rw [List.length_append]; simp only [List.length_cons, List.length_nil]; omega)))
  go_wp2_with fail
  with_reducible refine (has.out).mono ?_
  rintro e5 w5 ⟨rfl, h5, hb5'⟩
  have hb5 := hb2.trans hb5'
  clear a0 d7 d6 d5
  have e0 : w5.cell? ⟨p, 0, none⟩ = some (.string s) := (hb5.cell (p := ⟨p, 0, none⟩) hpB).trans (HP1.out.cell 0)
  have hpn := Lib.hid (pat_name B b p _ s w5 h5 (by simp only [List.length_append, List.length_cons, List.length_nil]; omega) hs hpB e0)
  clear e0
  go_wp2_with fail
  with_reducible refine (hpn.out).mono ?_
  rintro e6 w6 ⟨rfl, h6, hb6'⟩
  have hb6 := hb5.trans hb6'
  have hsp6 := Lib.hid (wByte B b _ 32 32 w6 (by decide) h6 (by simp only [List.length_append, List.length_cons, List.length_nil, size_list]; omega))
  go_wp2_with fail
  with_reducible refine (hsp6.out).mono ?_
  rintro e7 w7 ⟨rfl, h7, hb7'⟩
  have hb7 := hb6.trans hb7'
  have d7 : w7.cell? ⟨q, 7, none⟩ = some (.int .i64 op) := (hb7.cell (p := ⟨q, 7, none⟩) hq).trans (HB.out.cell 7)
  have d5 : w7.cell? ⟨q, 5, none⟩ = some (.pointer (some ⟨r, 0, none⟩)) := (hb7.cell (p := ⟨q, 5, none⟩) hq).trans (HB.out.cell 5)
  go_wp2_with fail
  rw [rounds_succ]
  go_wp2_with fail
  with_reducible refine (op_any op _ ho1 ho2).mono ?_
  rintro e8 w8 ⟨rfl, rfl⟩
  have hre := bin_rest B b q r op y _ w7 h7 ho1 ho2 (HR.out.below hb7) (by simp only [List.length_append, List.length_cons, List.length_nil, size_list]; omega)
  go_wp2_with fail
  with_reducible refine (hre.out).mono ?_
  rintro e9 w9 ⟨rfl, hb9', hre2⟩
  have hb9 := hb7.trans hb9'
  clear d7 d5
  have d5 : w9.cell? ⟨q, 5, none⟩ = some (.pointer (some ⟨r, 0, none⟩)) := (hb9.cell (p := ⟨q, 5, none⟩) hq).trans (HB.out.cell 5)
  go_wp2_with fail
  with_reducible refine (hre2.out).mono ?_
  rintro e10 w10 ⟨rfl, hb10', hre3⟩
  have hb10 := hb9.trans hb10'
  clear d5
  have d5 : w10.cell? ⟨q, 5, none⟩ = some (.pointer (some ⟨r, 0, none⟩)) := (hb10.cell (p := ⟨q, 5, none⟩) hq).trans (HB.out.cell 5)
  go_wp2_with fail
  with_reducible refine (hre3.out).mono ?_
  rintro e11 w11 ⟨rfl, h11, hb11⟩
  go_wp2_with fail
  go_end0
  exact ⟨rfl, h11, hb10.trans hb11⟩
theorem query_any (B b : Nat) (t : Qu) : ∀ (q : Nat) (l : List UInt8) (w : World), Bd B b l w → QuIs w B q t → l.length + t.wt + 12 ≤ 70368744177664 →
    Calls Tryd.prog 66 #[.pointer (some ⟨q, 0, none⟩), .pointer (some ⟨b, 0, none⟩)] w (Wrote B b (outQ t l) w) := by
  induction t with
  | nothing => intro q l w h hx hl; exact query_nothing B b q l w h hx.1 hx.2
  | leaf x => intro q l w h hx hl; exact query_leaf B b q x l w h hx (by simp only [Qu.wt] at hl; omega)
  | bin a op pat y ih =>
    intro q l w h hx hl
    obtain ⟨hq, ⟨o1, o2⟩, lq, r, P, hB, hA, hr, hp⟩ := hx
    have hlen := outQ_len a l
    simp only [Qu.wt] at hl
    have hL := Lib.hid (ih lq l w h hA (by omega))
    show Calls _ _ _ _ (Wrote B b (outL y (outP pat (sepT op (outQ a l)) ++ (opS op).data.toList ++ [32])) w)
    by_cases hc : op = 2
    · have e1 : sepT op (outQ a l) = outQ a l := by unfold sepT; rw [if_pos hc]
      rw [e1]
      cases pat with
      | none => obtain rfl : P = .slice none 0 0 := hp; exact bin_comma_bare B b q lq r op y (outQ a l) w o1 o2 (by subst hc; rfl) hq hB hr (by simp only [wtP] at hl; omega) hL
      | some s =>
        obtain ⟨hs, L, p, rfl, hLB, hpB, hL1, hp1⟩ := hp
        exact bin_comma_pat B b q lq r op y (outQ a l) w L p s hs hLB hpB hL1 hp1 o1 o2 (by subst hc; rfl) hq hB hr (by simp only [wtP] at hl; omega) hL
    · have e1 : sepT op (outQ a l) = outQ a l ++ [32] := by unfold sepT; rw [if_neg hc]
      rw [e1]
      have hcb : ((op : Int) != 2) = true := by rw [bne_iff_ne]; omega
      cases pat with
      | none => obtain rfl : P = .slice none 0 0 := hp; exact bin_other_bare B b q lq r op y (outQ a l) w o1 o2 hcb hq hB hr (by simp only [wtP] at hl; omega) hL
      | some s =>
        obtain ⟨hs, L, p, rfl, hLB, hpB, hL1, hp1⟩ := hp
        exact bin_other_pat B b q lq r op y (outQ a l) w L p s hs hLB hpB hL1 hp1 o1 o2 hcb hq hB hr (by simp only [wtP] at hl; omega) hL
end Go.Proofs.YtooalmhelfaodaaDoor
