/- What (*ObjectKeyVal).writeTo and String write. -/
import Derived.Test.YtooalmhelfaodaaDoorKv
namespace Go.Proofs.YtooalmhelfaodaaDoor
open Go.RowKit
set_option maxRecDepth 100000
set_option linter.unusedVariables false
theorem size_ne {s : ByteArray} (h : s.size ≠ 0) : s.toList.isEmpty = false ∧ (!s.toList.isEmpty) = true := by
  have hl : s.toList.length = s.size := by rw [Lib.toList_data]; exact size_list s
  cases hs : s.toList with
  | nil => rw [hs] at hl; exact absurd hl.symm h
  | cons a r => exact ⟨rfl, rfl⟩
set_option maxHeartbeats 2000000 in
theorem kv_name_none (B b e : Nat) (key : ByteArray) (p : Value) (l : List UInt8) (w : World) (he : e < B) (h : Bd B b l w) (hk : key.size ≠ 0) (hl : l.length + key.size + 0 ≤ 70368744177664)
    (hB : Blk w e 89 #[.string key, .pointer none, p, .pointer none]) :
    Calls Tryd.prog 54 #[.pointer (some ⟨e, 0, none⟩), .pointer (some ⟨b, 0, none⟩)] w (Wrote B b (l ++ key.data.toList) w) := by
  have c0 : w.cell? ⟨e, 0, none⟩ = some (.string key) := hB.cell 0
  have c1 : w.cell? ⟨e, 1, none⟩ = some (.pointer none) := hB.cell 1
  have c2 : w.cell? ⟨e, 2, none⟩ = some (p) := hB.cell 2
  have c3 : w.cell? ⟨e, 3, none⟩ = some (.pointer none) := hB.cell 3
  clear hB
  obtain ⟨k1, k2⟩ := size_ne hk
  go_enter Tryd.func54, Tryd.ntmps54
  go_wp2_with fail
  with_reducible refine (wStr B b l key _ h (by omega)).mono ?_
  rintro e1 w1 ⟨rfl, h1, hb1⟩
  obtain ⟨hc, hf⟩ := bcell hb1
  rw [← hc e 1 he] at c1
  rw [← hc e 2 he] at c2
  rw [← hc e 3 he] at c3
  clear hc hf
  go_wp2_with fail
  go_end0
  exact ⟨rfl, h1, hb1⟩
set_option maxHeartbeats 2000000 in
theorem kv_name_some (B b e : Nat) (key : ByteArray) (p : Value) (l : List UInt8) (w : World) (he : e < B) (h : Bd B b l w) (hk : key.size ≠ 0) (y : Leaf) (r : Nat) (hy : QIs w B r y) (hyp : y.plain = true) (hl : l.length + key.size + (y.wt + 2) ≤ 70368744177664)
    (hB : Blk w e 89 #[.string key, .pointer none, p, .pointer (some ⟨r, 0, none⟩)]) :
    Calls Tryd.prog 54 #[.pointer (some ⟨e, 0, none⟩), .pointer (some ⟨b, 0, none⟩)] w (Wrote B b (outL y ((l ++ key.data.toList) ++ [58, 32])) w) := by
  have c0 : w.cell? ⟨e, 0, none⟩ = some (.string key) := hB.cell 0
  have c1 : w.cell? ⟨e, 1, none⟩ = some (.pointer none) := hB.cell 1
  have c2 : w.cell? ⟨e, 2, none⟩ = some (p) := hB.cell 2
  have c3 : w.cell? ⟨e, 3, none⟩ = some (.pointer (some ⟨r, 0, none⟩)) := hB.cell 3
  clear hB
  obtain ⟨k1, k2⟩ := size_ne hk
  have hsz : ∀ n : Nat, n + 2 ≤ 70368744177664 → n + (⟨#[58, 32]⟩ : ByteArray).size ≤ 70368744177664 := fun _ h => h
  have HSZ := Lib.hid hsz
  clear hsz
  go_enter Tryd.func54, Tryd.ntmps54
  go_wp2_with fail
  with_reducible refine (wStr B b l key _ h (by omega)).mono ?_
  rintro e1 w1 ⟨rfl, h1, hb1⟩
  obtain ⟨hc, hf⟩ := bcell hb1
  rw [← hc e 1 he] at c1
  rw [← hc e 2 he] at c2
  rw [← hc e 3 he] at c3
  clear hc hf
  go_wp2_with fail
  with_reducible refine (wStr B b _ ⟨#[58, 32]⟩ _ h1 (HSZ.out _ (by simp only [List.length_append, size_list]; omega))).mono ?_
  rintro e2 w2 ⟨rfl, h2, hb2⟩
  obtain ⟨hc, hf⟩ := bcell hb2
  rw [← hc e 3 he] at c3
  clear hc hf
  go_wp2_with fail
  with_reducible refine (query_plain B b r y _ _ h2 (hy.below (hb1.trans hb2)) hyp (by show ((l ++ key.data.toList) ++ [58, 32]).length + _ ≤ _; simp only [List.length_append, size_list, List.length_cons, List.length_nil]; omega)).mono ?_
  rintro e3 w3 ⟨rfl, h3, hb3⟩
  go_wp2_with fail
  go_end0
  exact ⟨rfl, h3, ((hb1.trans hb2).trans hb3)⟩
set_option maxHeartbeats 2000000 in
theorem kv_none_none (B b e : Nat) (l : List UInt8) (w : World) (he : e < B) (h : Bd B b l w) (hl : l.length + 0 + 0 ≤ 70368744177664)
    (hB : Blk w e 89 #[.string ⟨#[]⟩, .pointer none, .pointer none, .pointer none]) :
    Calls Tryd.prog 54 #[.pointer (some ⟨e, 0, none⟩), .pointer (some ⟨b, 0, none⟩)] w (Wrote B b l w) := by
  have c0 : w.cell? ⟨e, 0, none⟩ = some (.string ⟨#[]⟩) := hB.cell 0
  have c1 : w.cell? ⟨e, 1, none⟩ = some (.pointer none) := hB.cell 1
  have c2 : w.cell? ⟨e, 2, none⟩ = some (.pointer none) := hB.cell 2
  have c3 : w.cell? ⟨e, 3, none⟩ = some (.pointer none) := hB.cell 3
  clear hB
  go_enter Tryd.func54, Tryd.ntmps54
  go_wp2_with fail
  go_end0
  exact ⟨rfl, h, Below.refl _ _⟩
set_option maxHeartbeats 2000000 in
theorem kv_none_some (B b e : Nat) (l : List UInt8) (w : World) (he : e < B) (h : Bd B b l w) (y : Leaf) (r : Nat) (hy : QIs w B r y) (hyp : y.plain = true) (hl : l.length + 0 + (y.wt + 2) ≤ 70368744177664)
    (hB : Blk w e 89 #[.string ⟨#[]⟩, .pointer none, .pointer none, .pointer (some ⟨r, 0, none⟩)]) :
    Calls Tryd.prog 54 #[.pointer (some ⟨e, 0, none⟩), .pointer (some ⟨b, 0, none⟩)] w (Wrote B b (outL y (l ++ [58, 32])) w) := by
  have c0 : w.cell? ⟨e, 0, none⟩ = some (.string ⟨#[]⟩) := hB.cell 0
  have c1 : w.cell? ⟨e, 1, none⟩ = some (.pointer none) := hB.cell 1
  have c2 : w.cell? ⟨e, 2, none⟩ = some (.pointer none) := hB.cell 2
  have c3 : w.cell? ⟨e, 3, none⟩ = some (.pointer (some ⟨r, 0, none⟩)) := hB.cell 3
  clear hB
  have hsz : ∀ n : Nat, n + 2 ≤ 70368744177664 → n + (⟨#[58, 32]⟩ : ByteArray).size ≤ 70368744177664 := fun _ h => h
  have HSZ := Lib.hid hsz
  clear hsz
  go_enter Tryd.func54, Tryd.ntmps54
  go_wp2_with fail
  with_reducible refine (wStr B b _ ⟨#[58, 32]⟩ _ h (HSZ.out _ (by skip; omega))).mono ?_
  rintro e1 w1 ⟨rfl, h1, hb1⟩
  obtain ⟨hc, hf⟩ := bcell hb1
  rw [← hc e 3 he] at c3
  clear hc hf
  go_wp2_with fail
  with_reducible refine (query_plain B b r y _ _ h1 (hy.below hb1) hyp (by show (l ++ [58, 32]).length + _ ≤ _; simp only [List.length_append, List.length_cons, List.length_nil]; omega)).mono ?_
  rintro e2 w2 ⟨rfl, h2, hb2⟩
  go_wp2_with fail
  go_end0
  exact ⟨rfl, h2, (hb1.trans hb2)⟩
set_option maxHeartbeats 2000000 in
theorem kv_query_none (B b e : Nat) (l : List UInt8) (w : World) (he : e < B) (h : Bd B b l w) (x : Leaf) (q : Nat) (hx : QIs w B q x) (hxp : x.plain = true) (hl : l.length + (x.wt + 2) + 0 ≤ 70368744177664)
    (hB : Blk w e 89 #[.string ⟨#[]⟩, .pointer none, .pointer (some ⟨q, 0, none⟩), .pointer none]) :
    Calls Tryd.prog 54 #[.pointer (some ⟨e, 0, none⟩), .pointer (some ⟨b, 0, none⟩)] w (Wrote B b (outL x (l ++ [40]) ++ [41]) w) := by
  have c0 : w.cell? ⟨e, 0, none⟩ = some (.string ⟨#[]⟩) := hB.cell 0
  have c1 : w.cell? ⟨e, 1, none⟩ = some (.pointer none) := hB.cell 1
  have c2 : w.cell? ⟨e, 2, none⟩ = some (.pointer (some ⟨q, 0, none⟩)) := hB.cell 2
  have c3 : w.cell? ⟨e, 3, none⟩ = some (.pointer none) := hB.cell 3
  clear hB
  have hw1 := outL_len x (l ++ [40])
  simp only [List.length_append, List.length_cons, List.length_nil] at hw1
  go_enter Tryd.func54, Tryd.ntmps54
  go_wp2_with fail
  with_reducible refine (wByte B b l 40 _ _ (by decide) h (by omega)).mono ?_
  rintro e1 w1 ⟨rfl, h1, hb1⟩
  obtain ⟨hc, hf⟩ := bcell hb1
  rw [← hc e 1 he] at c1
  rw [← hc e 2 he] at c2
  rw [← hc e 3 he] at c3
  clear hc hf
  go_wp2_with fail
  with_reducible refine (query_plain B b q x _ _ h1 (hx.below hb1) hxp (by simp; omega)).mono ?_
  rintro e2 w2 ⟨rfl, h2, hb2⟩
  obtain ⟨hc, hf⟩ := bcell hb2
  rw [← hc e 1 he] at c1
  rw [← hc e 2 he] at c2
  rw [← hc e 3 he] at c3
  clear hc hf
  go_wp2_with fail
  with_reducible refine (wByte B b _ 41 _ _ (by decide) h2 (by omega)).mono ?_
  rintro e3 w3 ⟨rfl, h3, hb3⟩
  obtain ⟨hc, hf⟩ := bcell hb3
  rw [← hc e 1 he] at c1
  rw [← hc e 2 he] at c2
  rw [← hc e 3 he] at c3
  clear hc hf
  go_wp2_with fail
  go_end0
  exact ⟨rfl, h3, ((hb1.trans hb2).trans hb3)⟩
set_option maxHeartbeats 2000000 in
theorem kv_query_some (B b e : Nat) (l : List UInt8) (w : World) (he : e < B) (h : Bd B b l w) (x : Leaf) (q : Nat) (hx : QIs w B q x) (hxp : x.plain = true) (y : Leaf) (r : Nat) (hy : QIs w B r y) (hyp : y.plain = true) (hl : l.length + (x.wt + 2) + (y.wt + 2) ≤ 70368744177664)
    (hB : Blk w e 89 #[.string ⟨#[]⟩, .pointer none, .pointer (some ⟨q, 0, none⟩), .pointer (some ⟨r, 0, none⟩)]) :
    Calls Tryd.prog 54 #[.pointer (some ⟨e, 0, none⟩), .pointer (some ⟨b, 0, none⟩)] w (Wrote B b (outL y ((outL x (l ++ [40]) ++ [41]) ++ [58, 32])) w) := by
  have c0 : w.cell? ⟨e, 0, none⟩ = some (.string ⟨#[]⟩) := hB.cell 0
  have c1 : w.cell? ⟨e, 1, none⟩ = some (.pointer none) := hB.cell 1
  have c2 : w.cell? ⟨e, 2, none⟩ = some (.pointer (some ⟨q, 0, none⟩)) := hB.cell 2
  have c3 : w.cell? ⟨e, 3, none⟩ = some (.pointer (some ⟨r, 0, none⟩)) := hB.cell 3
  clear hB
  have hw1 := outL_len x (l ++ [40])
  simp only [List.length_append, List.length_cons, List.length_nil] at hw1
  have hsz : ∀ n : Nat, n + 2 ≤ 70368744177664 → n + (⟨#[58, 32]⟩ : ByteArray).size ≤ 70368744177664 := fun _ h => h
  have HSZ := Lib.hid hsz
  clear hsz
  go_enter Tryd.func54, Tryd.ntmps54
  go_wp2_with fail
  with_reducible refine (wByte B b l 40 _ _ (by decide) h (by omega)).mono ?_
  rintro e1 w1 ⟨rfl, h1, hb1⟩
  obtain ⟨hc, hf⟩ := bcell hb1
  rw [← hc e 1 he] at c1
  rw [← hc e 2 he] at c2
  rw [← hc e 3 he] at c3
  clear hc hf
  go_wp2_with fail
  with_reducible refine (query_plain B b q x _ _ h1 (hx.below hb1) hxp (by simp; omega)).mono ?_
  rintro e2 w2 ⟨rfl, h2, hb2⟩
  obtain ⟨hc, hf⟩ := bcell hb2
  rw [← hc e 1 he] at c1
  rw [← hc e 2 he] at c2
  rw [← hc e 3 he] at c3
  clear hc hf
  go_wp2_with fail
  with_reducible refine (wByte B b _ 41 _ _ (by decide) h2 (by omega)).mono ?_
  rintro e3 w3 ⟨rfl, h3, hb3⟩
  obtain ⟨hc, hf⟩ := bcell hb3
  rw [← hc e 1 he] at c1
  rw [← hc e 2 he] at c2
  rw [← hc e 3 he] at c3
  clear hc hf
  go_wp2_with fail
  with_reducible refine (wStr B b _ ⟨#[58, 32]⟩ _ h3 (HSZ.out _ (by simp only [List.length_append, List.length_cons, List.length_nil]; omega))).mono ?_
  rintro e4 w4 ⟨rfl, h4, hb4⟩
  obtain ⟨hc, hf⟩ := bcell hb4
  rw [← hc e 3 he] at c3
  clear hc hf
  go_wp2_with fail
  with_reducible refine (query_plain B b r y _ _ h4 (hy.below (((hb1.trans hb2).trans hb3).trans hb4)) hyp (by show ((outL x (l ++ [40]) ++ [41]) ++ [58, 32]).length + _ ≤ _; simp only [List.length_append, List.length_cons, List.length_nil]; omega)).mono ?_
  rintro e5 w5 ⟨rfl, h5, hb5⟩
  go_wp2_with fail
  go_end0
  exact ⟨rfl, h5, ((((hb1.trans hb2).trans hb3).trans hb4).trans hb5)⟩
/-- a pair, whatever it holds -/
theorem kv_any (B b e : Nat) (key : ByteArray) (kq val : Option Leaf) (l : List UInt8) (w : World) (h : Bd B b l w) (hx : KvIs w B e key kq val) (hl : l.length + key.size + wtO kq + wtO val + 8 ≤ 70368744177664) :
    Calls Tryd.prog 54 #[.pointer (some ⟨e, 0, none⟩), .pointer (some ⟨b, 0, none⟩)] w (Wrote B b (outKV key kq val l) w) := by
  obtain ⟨he, p, v, hB, hp, hv⟩ := hx
  by_cases hk : key.size = 0
  · obtain rfl := eq_empty hk
    cases kq with
    | none =>
      obtain rfl : p = .pointer none := hp
      cases val with
      | none => obtain rfl : v = .pointer none := hv; exact kv_none_none B b e l w he h (by omega) hB
      | some y => obtain ⟨hy, r, rfl, hr⟩ := hv; exact kv_none_some B b e l w he h y r hr hy (by simp only [wtO] at hl; omega) hB
    | some x =>
      obtain ⟨hx, q, rfl, hq⟩ := hp
      cases val with
      | none => obtain rfl : v = .pointer none := hv; exact kv_query_none B b e l w he h x q hq hx (by simp only [wtO] at hl; omega) hB
      | some y => obtain ⟨hy, r, rfl, hr⟩ := hv; exact kv_query_some B b e l w he h x q hq hx y r hr hy (by simp only [wtO] at hl; omega) hB
  · have e1 : outK key kq l = l ++ key.data.toList := by unfold outK; rw [if_pos hk]
    cases val with
    | none =>
      obtain rfl : v = .pointer none := hv
      show Calls _ _ _ _ (Wrote B b (outK key kq l) w)
      rw [e1]; exact kv_name_none B b e key p l w he h hk (by omega) hB
    | some y =>
      obtain ⟨hy, r, rfl, hr⟩ := hv
      show Calls _ _ _ _ (Wrote B b (outL y (outK key kq l ++ [58, 32])) w)
      rw [e1]; exact kv_name_some B b e key p l w he h hk y r hr hy (by simp only [wtO] at hl; omega) hB
set_option maxHeartbeats 1000000 in
theorem kvString (e : Nat) (key : ByteArray) (kq val : Option Leaf) (w : World) (hx : KvIs w w.heap.size e key kq val) (hl : key.size + wtO kq + wtO val + 8 ≤ 70368744177664) :
    Calls Tryd.prog 17 #[.pointer (some ⟨e, 0, none⟩)] w fun r w' => r = .returned (.string ⟨(outKV key kq val []).toArray⟩) ∧ Below w.heap.size w w' := by
  have hb0 : Below w.heap.size w (w.alloc (.cells #[.pointer none, .slice none 0 0] 95)) := (Below.refl _ _).alloc (Nat.le_refl _) _
  have hK := Lib.hid (kv_any w.heap.size w.heap.size e key kq val [] _ (Bd.fresh w) (hx.below hb0) (by simpa using hl))
  go_enter Tryd.func17, Tryd.ntmps17
  go_wp2_with fail
  with_reducible refine (hK.out).mono ?_
  rintro e1 w1 ⟨rfl, h1, hb1⟩
  go_wp2_with fail
  with_reducible refine (bStr _ _ _ _ h1).mono ?_
  rintro e2 w2 ⟨rfl, h2, hb2⟩
  go_wp2_with fail
  go_ret
  exact ⟨rfl, (hb0.trans hb1).trans hb2⟩
set_option maxHeartbeats 1000000 in
theorem kvWrite (e : Nat) (key s : ByteArray) (kq val : Option Leaf) (w : World) (hx : KvIs w w.heap.size e key kq val) (hl : s.size + key.size + wtO kq + wtO val + 8 ≤ 70368744177664) :
    Calls Tryd.prog 22 #[.pointer (some ⟨e, 0, none⟩), .string s] w fun r w' => r = .returned (.string ⟨(outKV key kq val s.data.toList).toArray⟩) ∧ Below w.heap.size w w' := by
  have hb0 : Below w.heap.size w (w.alloc (.cells #[.pointer none, .slice none 0 0] 95)) := (Below.refl _ _).alloc (Nat.le_refl _) _
  have hS := Lib.hid (wStr w.heap.size w.heap.size [] s _ (Bd.fresh w) (by simp; omega))
  go_enter Tryd.func22, Tryd.ntmps22
  go_wp2_with fail
  with_reducible refine (hS.out).mono ?_
  rintro e1 w1 ⟨rfl, h1, hb1⟩
  go_wp2_with fail
  with_reducible refine (kv_any _ _ e key kq val _ _ h1 ((hx.below hb0).below hb1) (by simpa [size_list] using hl)).mono ?_
  rintro e2 w2 ⟨rfl, h2, hb2⟩
  go_wp2_with fail
  with_reducible refine (bStr _ _ _ _ h2).mono ?_
  rintro e3 w3 ⟨rfl, h3, hb3⟩
  go_wp2_with fail
  go_ret
  exact ⟨rfl, ((hb0.trans hb1).trans hb2).trans hb3⟩
end Go.Proofs.YtooalmhelfaodaaDoor
