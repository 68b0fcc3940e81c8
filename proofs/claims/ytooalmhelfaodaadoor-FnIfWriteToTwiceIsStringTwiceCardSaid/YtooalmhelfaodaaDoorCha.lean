/- Chains: String of a query, the writer behind a prefix, the laws' small helpers. -/
import Derived.Test.YtooalmhelfaodaaDoorTree2
namespace Go.Proofs.YtooalmhelfaodaaDoor
open Go.RowKit
set_option maxRecDepth 100000
set_option linter.unusedVariables false
set_option maxHeartbeats 1000000 in
theorem strQ (q : Nat) (t : Qu) (w : World) (hx : QuIs w w.heap.size q t) (hl : t.wt + 12 ≤ 70368744177664) :
    Calls Tryd.prog 45 #[.pointer (some ⟨q, 0, none⟩)] w fun r w' => r = .returned (.string ⟨(outQ t []).toArray⟩) ∧ Below w.heap.size w w' := by
  have hb0 : Below w.heap.size w (w.alloc (.cells #[.pointer none, .slice none 0 0] 95)) := (Below.refl _ _).alloc (Nat.le_refl _) _
  have hK := Lib.hid (query_any w.heap.size w.heap.size t q [] _ (Bd.fresh w) (hx.below hb0) (by simpa using hl))
  go_enter Tryd.func45, Tryd.ntmps45
  go_wp2_with fail
  with_reducible refine (hK.out).mono ?_
  rintro e1 w1 ⟨rfl, h1, hb1⟩
  go_wp2_with fail
  with_reducible refine (bStr _ _ _ _ h1).mono ?_
  rintro e2 w2 ⟨rfl, h2, hb2⟩
  go_wp2_with fail
  go_ret
  exact ⟨rfl, (hb0.trans hb1).trans hb2⟩
set_option maxHeartbeats 1000000 in
theorem afterQ (q : Nat) (t : Qu) (s : ByteArray) (w : World) (hx : QuIs w w.heap.size q t) (hl : s.size + t.wt + 12 ≤ 70368744177664) :
    Calls Tryd.prog 42 #[.string s, .pointer (some ⟨q, 0, none⟩)] w fun r w' => r = .returned (.string ⟨(outQ t s.data.toList).toArray⟩) ∧ Below w.heap.size w w' := by
  have hb0 : Below w.heap.size w (w.alloc (.cells #[.pointer none, .slice none 0 0] 95)) := (Below.refl _ _).alloc (Nat.le_refl _) _
  have hS := Lib.hid (wStr w.heap.size w.heap.size [] s _ (Bd.fresh w) (by simp; omega))
  go_enter Tryd.func42, Tryd.ntmps42
  go_wp2_with fail
  with_reducible refine (hS.out).mono ?_
  rintro e1 w1 ⟨rfl, h1, hb1⟩
  go_wp2_with fail
  with_reducible refine (query_any _ _ t q _ _ h1 ((hx.below hb0).below hb1) (by simpa [size_list] using hl)).mono ?_
  rintro e2 w2 ⟨rfl, h2, hb2⟩
  go_wp2_with fail
  with_reducible refine (bStr _ _ _ _ h2).mono ?_
  rintro e3 w3 ⟨rfl, h3, hb3⟩
  go_wp2_with fail
  go_ret
  exact ⟨rfl, ((hb0.trans hb1).trans hb2).trans hb3⟩
/-- the leaf of a kind, and the text beside it -/
def zzL (k : Nat) (s : ByteArray) : Leaf :=
  match k % 6 with
  | 0 => .ident
  | 1 => .null
  | 2 => .tru
  | 3 => .fls
  | 4 => .num s
  | _ => .idx (if s.size = 0 then ⟨#[120]⟩ else s)
def zzS (k : Nat) (s : ByteArray) : ByteArray :=
  match k % 6 with
  | 0 => ⟨#[46]⟩
  | 1 => ⟨#[110, 117, 108, 108]⟩
  | 2 => ⟨#[116, 114, 117, 101]⟩
  | 3 => ⟨#[102, 97, 108, 115, 101]⟩
  | 4 => s
  | _ => ⟨(46 :: (if s.size = 0 then (⟨#[120]⟩ : ByteArray) else s).data.toList).toArray⟩
theorem dot_app (s : ByteArray) : (⟨#[46]⟩ : ByteArray) ++ s = ⟨(46 :: s.data.toList).toArray⟩ := WideShapes.bytes_inj (by simp)
theorem ret_str2 {p : Value} {a b : ByteArray} (h : a = b) : Ending.returned (.tuple #[p, .string a]) = .returned (.tuple #[p, .string b]) := by rw [h]
def Leafed (k : Nat) (s : ByteArray) (w : World) (e : Ending) (w' : World) : Prop := ∃ q, e = .returned (.tuple #[.pointer (some ⟨q, 0, none⟩), .string (zzS k s)]) ∧ w.heap.size ≤ q ∧ QIs w' w'.heap.size q (zzL k s) ∧ Below w.heap.size w w'
set_option maxHeartbeats 2000000 in
theorem leaf63 (k : Nat) (s : ByteArray) (w : World) (hk : k ≤ 255) (hs : s.size ≤ 70368744177664) :
    Calls Tryd.prog 63 #[.int .u8 k, .string s] w (Leafed k s w) := by
  obtain ⟨r, hr⟩ : ∃ r, Hid (k % 6 = r) := ⟨_, Lib.hid rfl⟩
  have ht : Int.tmod (k : Int) 6 = (r : Int) := by rw [← hr.out]; rfl
  have hr6 : r < 6 := by rw [← hr.out]; omega
  have hL : ∀ r', r = r' → k % 6 = r' := fun r' e => by rw [hr.out]; exact e
  have HL := Lib.hid hL
  clear hL hr
  rcases (show r = 0 ∨ r = 1 ∨ r = 2 ∨ r = 3 ∨ r = 4 ∨ r = 5 by omega) with h | h | h | h | h | h
  · have e1 : zzL k s = .ident := by unfold zzL; rw [HL.out _ h]; rfl
    have e2 : zzS k s = ⟨#[46]⟩ := by unfold zzS; rw [HL.out _ h]; rfl
    subst h
    have E1 := Lib.hid e1
    have E2 := Lib.hid e2
    clear e1 e2
    go_enter Tryd.func63, Tryd.ntmps63
    go_wp2_with fail
    refine bodyPost_ret (v := .tuple #[.pointer (some ⟨w.heap.size + 1, 0, none⟩), .string ⟨#[46]⟩]) (by simp [results, Tryd.results63, go_sem]) rfl ⟨w.heap.size + 1, by rw [E2.out], by omega, ?_, ((Below.refl _ _).alloc (Nat.le_refl _) _).alloc (by simp) _⟩
    rw [E1.out]
    exact ⟨by simp, w.heap.size, Blk.at_ _ _ (by simp), by simp; omega, (Blk.new w _ _).alloc _⟩
  · have e1 : zzL k s = .null := by unfold zzL; rw [HL.out _ h]; rfl
    have e2 : zzS k s = ⟨#[110, 117, 108, 108]⟩ := by unfold zzS; rw [HL.out _ h]; rfl
    subst h
    have E1 := Lib.hid e1
    have E2 := Lib.hid e2
    clear e1 e2
    go_enter Tryd.func63, Tryd.ntmps63
    go_wp2_with fail
    refine bodyPost_ret (v := .tuple #[.pointer (some ⟨w.heap.size + 1, 0, none⟩), .string ⟨#[110, 117, 108, 108]⟩]) (by simp [results, Tryd.results63, go_sem]) rfl ⟨w.heap.size + 1, by rw [E2.out], by omega, ?_, ((Below.refl _ _).alloc (Nat.le_refl _) _).alloc (by simp) _⟩
    rw [E1.out]
    exact ⟨by simp, w.heap.size, Blk.at_ _ _ (by simp), by simp; omega, (Blk.new w _ _).alloc _⟩
  · have e1 : zzL k s = .tru := by unfold zzL; rw [HL.out _ h]; rfl
    have e2 : zzS k s = ⟨#[116, 114, 117, 101]⟩ := by unfold zzS; rw [HL.out _ h]; rfl
    subst h
    have E1 := Lib.hid e1
    have E2 := Lib.hid e2
    clear e1 e2
    go_enter Tryd.func63, Tryd.ntmps63
    go_wp2_with fail
    refine bodyPost_ret (v := .tuple #[.pointer (some ⟨w.heap.size + 1, 0, none⟩), .string ⟨#[116, 114, 117, 101]⟩]) (by simp [results, Tryd.results63, go_sem]) rfl ⟨w.heap.size + 1, by rw [E2.out], by omega, ?_, ((Below.refl _ _).alloc (Nat.le_refl _) _).alloc (by simp) _⟩
    rw [E1.out]
    exact ⟨by simp, w.heap.size, Blk.at_ _ _ (by simp), by simp; omega, (Blk.new w _ _).alloc _⟩
  · have e1 : zzL k s = .fls := by unfold zzL; rw [HL.out _ h]; rfl
    have e2 : zzS k s = ⟨#[102, 97, 108, 115, 101]⟩ := by unfold zzS; rw [HL.out _ h]; rfl
    subst h
    have E1 := Lib.hid e1
    have E2 := Lib.hid e2
    clear e1 e2
    go_enter Tryd.func63, Tryd.ntmps63
    go_wp2_with fail
    refine bodyPost_ret (v := .tuple #[.pointer (some ⟨w.heap.size + 1, 0, none⟩), .string ⟨#[102, 97, 108, 115, 101]⟩]) (by simp [results, Tryd.results63, go_sem]) rfl ⟨w.heap.size + 1, by rw [E2.out], by omega, ?_, ((Below.refl _ _).alloc (Nat.le_refl _) _).alloc (by simp) _⟩
    rw [E1.out]
    exact ⟨by simp, w.heap.size, Blk.at_ _ _ (by simp), by simp; omega, (Blk.new w _ _).alloc _⟩
  · have e1 : zzL k s = .num s := by unfold zzL; rw [HL.out _ h]; rfl
    have e2 : zzS k s = s := by unfold zzS; rw [HL.out _ h]; rfl
    subst h
    have E1 := Lib.hid e1
    have E2 := Lib.hid e2
    clear e1 e2
    go_enter Tryd.func63, Tryd.ntmps63
    go_wp2_with fail
    refine bodyPost_ret (v := .tuple #[.pointer (some ⟨w.heap.size + 1, 0, none⟩), .string s]) (by simp [results, Tryd.results63, go_sem]) rfl ⟨w.heap.size + 1, by rw [E2.out], by omega, ?_, ((Below.refl _ _).alloc (Nat.le_refl _) _).alloc (by simp) _⟩
    rw [E1.out]
    exact ⟨by simp, w.heap.size, Blk.at_ _ _ (by simp), by simp; omega, (Blk.new w _ _).alloc _⟩
  · have e1 : zzL k s = .idx (if s.size = 0 then ⟨#[120]⟩ else s) := by unfold zzL; rw [HL.out _ h]; rfl
    have e2 : zzS k s = ⟨(46 :: (if s.size = 0 then (⟨#[120]⟩ : ByteArray) else s).data.toList).toArray⟩ := by unfold zzS; rw [HL.out _ h]; rfl
    subst h
    by_cases hs0 : s.size = 0
    · rw [if_pos hs0] at e1 e2
      have hse : s = ⟨#[]⟩ := by
        obtain ⟨d⟩ := s
        have : d.size = 0 := hs0
        rw [Array.eq_empty_of_size_eq_zero this]
      have E1 := Lib.hid e1
      have E2 := Lib.hid e2
      clear e1 e2 hs0
      subst hse
      go_enter Tryd.func63, Tryd.ntmps63
      go_wp2_with fail
      refine bodyPost_ret (v := .tuple #[.pointer (some ⟨w.heap.size + 1 + 1, 0, none⟩), .string (⟨#[46]⟩ ++ ⟨#[120]⟩)]) (by simp [results, Tryd.results63, go_sem]) rfl ⟨w.heap.size + 1 + 1, by rw [E2.out]; exact ret_str2 (dot_app _), by omega, ?_, (((Below.refl _ _).alloc (Nat.le_refl _) _).alloc (by simp) _).alloc (by simp; omega) _⟩
      rw [E1.out]
      exact ⟨by simp, w.heap.size + 1, Blk.at_ _ _ (by simp), by decide, by simp, w.heap.size, by simp; omega, (Blk.at_ _ _ (by simp)).alloc _, ((Blk.new w _ _).alloc _).alloc _⟩
    · rw [if_neg hs0] at e1 e2
      obtain ⟨k1, k2⟩ := size_ne hs0
      have E1 := Lib.hid e1
      have E2 := Lib.hid e2
      clear e1 e2
      go_enter Tryd.func63, Tryd.ntmps63
      go_wp2_with fail
      refine bodyPost_ret (v := .tuple #[.pointer (some ⟨w.heap.size + 1 + 1, 0, none⟩), .string (⟨#[46]⟩ ++ s)]) (by simp [results, Tryd.results63, go_sem]) rfl ⟨w.heap.size + 1 + 1, by rw [E2.out]; exact ret_str2 (dot_app _), by omega, ?_, (((Below.refl _ _).alloc (Nat.le_refl _) _).alloc (by simp) _).alloc (by simp; omega) _⟩
      rw [E1.out]
      exact ⟨by simp, w.heap.size + 1, Blk.at_ _ _ (by simp), hs0, by simp, w.heap.size, by simp; omega, (Blk.at_ _ _ (by simp)).alloc _, ((Blk.new w _ _).alloc _).alloc _⟩
/-- the text at a place, or the empty one -/
def txt (xs : List ByteArray) (i : Nat) : ByteArray := xs[i]?.getD ⟨#[]⟩
def TxtRd (w : World) (B : Nat) (A : Option Addr) (xs : List ByteArray) : Prop := ∀ i s, xs[i]? = some s → ∃ g o, A = some ⟨g, o, none⟩ ∧ g < B ∧ w.cell? ⟨g, o + i, none⟩ = some (.string s)
theorem TxtRd.below {w w' : World} {B : Nat} {A : Option Addr} {xs : List ByteArray} (hb : Below B w w') (h : TxtRd w B A xs) : TxtRd w' B A xs := fun i s hi => by
  obtain ⟨g, o, h1, h2, h3⟩ := h i s hi
  exact ⟨g, o, h1, h2, (hb.cell (p := ⟨g, o + i, none⟩) h2).trans h3⟩
theorem textAt63 (B : Nat) (A : Option Addr) (c i : Nat) (xs : List ByteArray) (w : World) (hx : TxtRd w B A xs) (hB : B ≤ w.heap.size) (hn : xs.length ≤ 10000000) (hi : i ≤ 10000000) :
    Calls Tryd.prog 64 #[.slice A xs.length c, .int .i64 i] w fun e w' => e = .returned (.string (txt xs i)) ∧ w = w' := by
  have i0 : (0 : Int) ≤ i := by omega
  by_cases h : i < xs.length
  · have e1 : txt xs i = xs[i] := by unfold txt; rw [List.getElem?_eq_getElem h]; rfl
    obtain ⟨g, o, rfl, hg, c1⟩ := hx i xs[i] (List.getElem?_eq_getElem h)
    have hgl : g < w.heap.size := by omega
    have i1 : (i : Int) < xs.length := by omega
    rw [e1]
    generalize xs[i] = s at *
    clear hx e1
    go_enter Tryd.func64, Tryd.ntmps64
    go_wp2_with fail
    go_ret
    exact ⟨rfl, rfl⟩
  · have e1 : txt xs i = ⟨#[]⟩ := by unfold txt; rw [List.getElem?_eq_none (by omega)]; rfl
    rw [e1]
    have i1 : ¬ (i : Int) < xs.length := by omega
    clear hx e1
    go_enter Tryd.func64, Tryd.ntmps64
    go_wp2_with fail
    go_ret
    exact ⟨rfl, rfl⟩
end Go.Proofs.YtooalmhelfaodaaDoor
