/- (*encoder).encodeString on printable text: a quote, the text, a quote. -/
import Derived.Test.YtooalmhelfaodaaDoorLeaf
import Derived.Deep.LoopGhost
import Derived.StillTailTactics
namespace Go.Proofs.YtooalmhelfaodaaDoor
open Go.RowKit
set_option maxRecDepth 100000
set_option linter.unusedVariables false
def WroteK (B b : Nat) (l : List UInt8) (w : World) (v : Value) (e : Ending) (w' : World) : Prop := e = .returned v ∧ Bd B b l w' ∧ Below B w w' ∧ Lib.OthersKept 5 (some b) w w'
theorem wStrK (B b : Nat) (l : List UInt8) (s : ByteArray) (w : World) (h : Bd B b l w) (hl : l.length + s.size ≤ 70368744177664) :
    Calls Tryd.prog 59 #[.pointer (some ⟨b, 0, none⟩), .string s] w (WroteK B b (l ++ s.data.toList) w (.tuple #[.int .i64 s.size, .nilIface])) := by
  refine (writeString_k B b _ s w h.1 (by rw [Lib.byteCells_length]; omega) h.2).mono ?_
  rintro e w' ⟨rfl, h1, h2, h3⟩
  refine ⟨rfl, ⟨?_, Nat.le_trans h.2 h2.size⟩, h2, h3⟩
  rw [Lib.byteCells_append]
  exact Or.inr h1
theorem wByteK (B b : Nat) (l : List UInt8) (x : UInt8) (c : Int) (w : World) (hx : c = (x.toNat : Int)) (h : Bd B b l w) (hl : l.length + 1 ≤ 70368744177664) :
    Calls Tryd.prog 70 #[.pointer (some ⟨b, 0, none⟩), .int .u8 c] w (WroteK B b (l ++ [x]) w .nilIface) := by
  refine (writeByte_k B b _ c w h.1 (by rw [Lib.byteCells_length]; omega) h.2).mono ?_
  rintro e w' ⟨rfl, h1, h2, h3⟩
  refine ⟨rfl, ⟨?_, Nat.le_trans h.2 h2.size⟩, h2, h3⟩
  rw [Lib.byteCells_append]
  subst hx
  exact Or.inr h1
theorem Blk.keptB {w w' : World} {b g : Nat} {t : TypeId} {cs : Array Value} (h : Blk w g t cs) (hk : Lib.OthersKept 5 (some b) w w') (ht : t ≠ 5) (hg : g ≠ b) : Blk w' g t cs :=
  hk g _ h (by intro e; injection e with e; exact hg e) (fun c fz e => by injection e with _ e; exact ht e)
def Prn (s : ByteArray) : Prop := ∀ i (h : i < s.size), 32 ≤ s[i].toNat ∧ s[i].toNat ≤ 126 ∧ s[i].toNat ≠ 34 ∧ s[i].toNat ≠ 92
theorem meth_wb (a : Addr) (w : World) : (method 307 93 (.pointer (some a)) "WriteByte").run Tryd.prog w = .ok (70, .pointer (some a)) w := by kernel_rfl
theorem meth_ws (a : Addr) (w : World) : (method 307 93 (.pointer (some a)) "WriteString").run Tryd.prog w = .ok (59, .pointer (some a)) w := by kernel_rfl
theorem nil_wb (a : Addr) (w : World) : (nilAhead 307 93 (.pointer (some a)) "WriteByte").run Tryd.prog w = .ok (some false) w := by kernel_rfl
theorem nil_ws (a : Addr) (w : World) : (nilAhead 307 93 (.pointer (some a)) "WriteString").run Tryd.prog w = .ok (some false) w := by kernel_rfl
theorem extract_all (s : ByteArray) : s.extract 0 s.size = s := by
  apply WideShapes.bytes_inj
  rw [Lib.extract_data]
  simp
  exact List.take_of_length_le (by rw [size_list]; exact Nat.le_refl _)
set_option maxHeartbeats 2000000 in
theorem encP (B b e : Nat) (cs : Array Value) (l : List UInt8) (s : ByteArray) (w : World) (h : Bd B b l w) (hE : Blk w e 162 cs) (h0 : cs[0]? = some (.iface 93 (.pointer (some ⟨b, 0, none⟩)))) (heb : e ≠ b) (hs : Prn s) (hl : l.length + s.size + 2 ≤ 70368744177664) :
    Calls Tryd.prog 94 #[.pointer (some ⟨e, 0, none⟩), .string s] w (Wrote B b (l ++ [34] ++ s.data.toList ++ [34]) w) := by
  have c0 : w.cell? ⟨e, 0, none⟩ = some (.iface 93 (.pointer (some ⟨b, 0, none⟩))) := (hE.cell 0).trans h0
  have HE := Lib.hid hE
  have H0 := Lib.hid h0
  have HS := Lib.hid hs
  have HEB := Lib.hid heb
  have hq := Lib.hid (wByteK B b l 34 34 w (by decide) h (by omega))
  have m1 := fun a w => meth_wb a w
  have m2 := fun a w => meth_ws a w
  have m3 := fun a w => nil_wb a w
  have m4 := fun a w => nil_ws a w
  clear hE h0 hs heb h
  go_enter Tryd.func94, Tryd.ntmps94
  go_wp2_with fail
  with_reducible refine (hq.out).mono ?_
  rintro e1 w1 ⟨rfl, h1, hb1, hk1⟩
  have HE1 := Lib.hid (HE.out.keptB hk1 (by decide) HEB.out)
  have HB1 := Lib.hid h1
  clear c0 h1 hk1 HE hq
  go_wp2_with fail
  go_loop [4, 5] (fun st i => ∃ j : Nat, st = .int .i64 0 ∧ i = .int .i64 j ∧ j ≤ s.size) (fun _ i => s.size - (intOf i).toNat)
  case atStart => exact ⟨0, rfl, rfl, Nat.zero_le _⟩
  case round =>
    obtain ⟨j, rfl, rfl, hj⟩ := hrel
    by_cases hlt : j < s.size
    · obtain ⟨p1, p2, p3, p4⟩ := HS.out j hlt
      obtain ⟨x, hx⟩ : ∃ x : Nat, Hid (s[j].toNat = x) := ⟨_, Lib.hid rfl⟩
      rw [hx.out] at p1 p2 p3 p4
      have hX : Hid (decide ((s[j].toNat : Int) < 128) = true ∧ decide (32 ≤ (s[j].toNat : Int)) = true ∧ decide ((s[j].toNat : Int) ≤ 126) = true ∧ ((s[j].toNat : Int) != 34) = true ∧ ((s[j].toNat : Int) != 92) = true) := by
        rw [hx.out]
        exact ⟨decide_eq_true (by omega), decide_eq_true (by omega), decide_eq_true (by omega), by rw [bne_iff_ne]; omega, by rw [bne_iff_ne]; omega⟩
      obtain ⟨q1, q2, q3, q4, q5⟩ := hX.out
      clear p1 p2 p3 p4 hx
      have i0 : (0 : Int) ≤ (j : Int) := by omega
      have i1 : (j : Int) < (s.size : Int) := by omega
      go_wp2_with fail
      go_round
      case rel => exact ⟨j + 1, rfl, by go_num, by omega⟩
      case measure => simp [intOf]; omega
    · have hjn : j = s.size := by omega
      subst hjn
      have c1 : w1.cell? ⟨e, 0, none⟩ = some (.iface 93 (.pointer (some ⟨b, 0, none⟩))) := (HE1.out.cell 0).trans H0.out
      by_cases hz : 0 < s.size
      · have hw := Lib.hid (wStrK B b _ s w1.drew (show Bd B b _ w1.drew from HB1.out) (by simp only [List.length_append, List.length_cons, List.length_nil]; omega))
        have hex := extract_all s
        go_wp2_with fail
        go_still_tail 9, (by kernel_rfl)
        change wpList _ _ _ _ _ w1.drew
        go_wp2_with fail
        with_reducible refine (hw.out).mono ?_
        rintro e2 w2 ⟨rfl, h2, hb2, hk2⟩
        have c2 : w2.cell? ⟨e, 0, none⟩ = some (.iface 93 (.pointer (some ⟨b, 0, none⟩))) := ((Blk.keptB HE1.out.drew hk2 (by decide) HEB.out).cell 0).trans H0.out
        have hq := Lib.hid (wByteK B b _ 34 34 w2 (by decide) h2 (by simp only [List.length_append, List.length_cons, List.length_nil, size_list]; omega))
        clear h2 hk2 hw c1 hex
        go_wp2_with fail
        with_reducible refine (hq.out).mono ?_
        rintro e3 w3 ⟨rfl, h3, hb3, hk3⟩
        go_wp2_with fail
        go_end0
        exact ⟨rfl, h3, ((hb1.drew).trans hb2).trans hb3⟩
      · have hz0 : s.data.toList = [] := List.eq_nil_of_length_eq_zero (by rw [size_list]; omega)
        have hq := Lib.hid (wByteK B b _ 34 34 w1 (by decide) HB1.out (by simp only [List.length_append, List.length_cons, List.length_nil]; omega))
        have HZ := Lib.hid hz0
        clear hz0
        go_wp2_with fail
        with_reducible refine (hq.out).mono ?_
        rintro e3 w3 ⟨rfl, h3, hb3, hk3⟩
        go_wp2_with fail
        go_end0
        exact ⟨rfl, by rw [HZ.out, List.append_nil]; exact h3, hb1.trans hb3⟩
end Go.Proofs.YtooalmhelfaodaaDoor
