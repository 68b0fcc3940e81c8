/- n001_56: the small queries of the laws, built; the bounds on their texts, some bool. -/
import Derived.Test.YtooalmhelfaodaaDoorZzc
import Derived.Test.YtooalmhelfaodaaDoorCha
namespace Go.Proofs.YtooalmhelfaodaaDoor
open Go.RowKit
set_option maxRecDepth 100000
set_option linter.unusedVariables false
set_option linter.unusedSimpArgs false
def zz2 (s : ByteArray) : ByteArray := ⟨#[122, 95]⟩ ++ s
def zz3 (s : ByteArray) : ByteArray := ⟨#[36, 122, 95]⟩ ++ s
theorem zz2_size (s : ByteArray) : (zz2 s).size = s.size + 2 := by unfold zz2; rw [ByteArray.size_append]; show 2 + s.size = _; omega
theorem zz3_size (s : ByteArray) : (zz3 s).size = s.size + 3 := by unfold zz3; rw [ByteArray.size_append]; show 3 + s.size = _; omega
def atomQ (k : Int) (s : ByteArray) : Qu :=
  if k = 1 then .leaf .tru else if k = 2 then .leaf .fls else if k = 3 then .leaf .ident else if k = 4 then .leaf (.num s)
  else if k = 5 then .leaf (.func (zz2 s)) else if k = 6 then .leaf (.brk (zz3 s)) else if k = 7 then .leaf (.idx (zz2 s)) else if k = 8 then .bin (.leaf (.num s)) 1 none .ident else .leaf .null
theorem atomQ_wt (k : Int) (s : ByteArray) : (atomQ k s).wt ≤ s.size + 32 := by
  have h2 := zz2_size s
  have h3 := zz3_size s
  unfold atomQ
  repeat' split
  all_goals simp only [Qu.wt, Leaf.wt, wtP]
  all_goals omega
def Atomed (k : Int) (s : ByteArray) (w : World) (e : Ending) (w' : World) : Prop := ∃ q, e = .returned (.pointer (some ⟨q, 0, none⟩)) ∧ QuIs w' w'.heap.size q (atomQ k s) ∧ Below w.heap.size w w'
theorem termQ56 (t : Nat) (w : World) : Calls Tryd.prog 67 #[.pointer (some ⟨t, 0, none⟩)] w fun e w' => e = .returned (.pointer (some ⟨w.heap.size, 0, none⟩)) ∧ w' = w.alloc (.cells (qcells t) 119) := by
  go_enter Tryd.func67, Tryd.ntmps67
  go_wp2_with fail
  go_ret
  exact ⟨rfl, rfl⟩
set_option maxHeartbeats 2000000 in
theorem atom_1 (s : ByteArray) (w : World) (hs : s.size ≤ 1048576) : Calls Tryd.prog 44 #[.agg #[.int .i64 1, .string s]] w (Atomed 1 s w) := by
  have hq := Lib.hid (show atomQ 1 s = .leaf .tru by unfold atomQ; simp)
  go_enter Tryd.func44, Tryd.ntmps44
  go_wp2_with fail
  with_reducible refine (termQ56 _ _).mono ?_
  rintro e1 w1 ⟨rfl, rfl⟩
  go_wp2_with fail
  go_ret
  refine ⟨_, rfl, ?_, ((((Below.refl _ _).alloc (by first | exact Nat.le_refl _ | (simp; done) | (simp; omega)) _).alloc (by first | exact Nat.le_refl _ | (simp; done) | (simp; omega)) _).alloc (by first | exact Nat.le_refl _ | (simp; done) | (simp; omega)) _)⟩
  rw [hq.out]
  exact ⟨by simp, w.heap.size + 1, Blk.at_ _ _ (by simp), by simp, (Blk.at_ _ _ (by simp)).alloc _⟩
set_option maxHeartbeats 2000000 in
theorem atom_2 (s : ByteArray) (w : World) (hs : s.size ≤ 1048576) : Calls Tryd.prog 44 #[.agg #[.int .i64 2, .string s]] w (Atomed 2 s w) := by
  have hq := Lib.hid (show atomQ 2 s = .leaf .fls by unfold atomQ; simp)
  go_enter Tryd.func44, Tryd.ntmps44
  go_wp2_with fail
  with_reducible refine (termQ56 _ _).mono ?_
  rintro e1 w1 ⟨rfl, rfl⟩
  go_wp2_with fail
  go_ret
  refine ⟨_, rfl, ?_, ((((Below.refl _ _).alloc (by first | exact Nat.le_refl _ | (simp; done) | (simp; omega)) _).alloc (by first | exact Nat.le_refl _ | (simp; done) | (simp; omega)) _).alloc (by first | exact Nat.le_refl _ | (simp; done) | (simp; omega)) _)⟩
  rw [hq.out]
  exact ⟨by simp, w.heap.size + 1, Blk.at_ _ _ (by simp), by simp, (Blk.at_ _ _ (by simp)).alloc _⟩
set_option maxHeartbeats 2000000 in
theorem atom_3 (s : ByteArray) (w : World) (hs : s.size ≤ 1048576) : Calls Tryd.prog 44 #[.agg #[.int .i64 3, .string s]] w (Atomed 3 s w) := by
  have hq := Lib.hid (show atomQ 3 s = .leaf .ident by unfold atomQ; simp)
  go_enter Tryd.func44, Tryd.ntmps44
  go_wp2_with fail
  with_reducible refine (termQ56 _ _).mono ?_
  rintro e1 w1 ⟨rfl, rfl⟩
  go_wp2_with fail
  go_ret
  refine ⟨_, rfl, ?_, ((((Below.refl _ _).alloc (by first | exact Nat.le_refl _ | (simp; done) | (simp; omega)) _).alloc (by first | exact Nat.le_refl _ | (simp; done) | (simp; omega)) _).alloc (by first | exact Nat.le_refl _ | (simp; done) | (simp; omega)) _)⟩
  rw [hq.out]
  exact ⟨by simp, w.heap.size + 1, Blk.at_ _ _ (by simp), by simp, (Blk.at_ _ _ (by simp)).alloc _⟩
set_option maxHeartbeats 2000000 in
theorem atom_4 (s : ByteArray) (w : World) (hs : s.size ≤ 1048576) : Calls Tryd.prog 44 #[.agg #[.int .i64 4, .string s]] w (Atomed 4 s w) := by
  have hq := Lib.hid (show atomQ 4 s = .leaf (.num s) by unfold atomQ; simp)
  go_enter Tryd.func44, Tryd.ntmps44
  go_wp2_with fail
  with_reducible refine (termQ56 _ _).mono ?_
  rintro e1 w1 ⟨rfl, rfl⟩
  go_wp2_with fail
  go_ret
  refine ⟨_, rfl, ?_, ((((Below.refl _ _).alloc (by first | exact Nat.le_refl _ | (simp; done) | (simp; omega)) _).alloc (by first | exact Nat.le_refl _ | (simp; done) | (simp; omega)) _).alloc (by first | exact Nat.le_refl _ | (simp; done) | (simp; omega)) _)⟩
  rw [hq.out]
  exact ⟨by simp, w.heap.size + 1, Blk.at_ _ _ (by simp), by simp, (Blk.at_ _ _ (by simp)).alloc _⟩
set_option maxHeartbeats 2000000 in
theorem atom_5 (s : ByteArray) (w : World) (hs : s.size ≤ 1048576) : Calls Tryd.prog 44 #[.agg #[.int .i64 5, .string s]] w (Atomed 5 s w) := by
  have hq := Lib.hid (show atomQ 5 s = .leaf (.func (zz2 s)) by unfold atomQ; simp)
  go_enter Tryd.func44, Tryd.ntmps44
  go_wp2_with fail
  with_reducible refine (termQ56 _ _).mono ?_
  rintro e1 w1 ⟨rfl, rfl⟩
  go_wp2_with fail
  go_ret
  refine ⟨_, rfl, ?_, (((((Below.refl _ _).alloc (by first | exact Nat.le_refl _ | (simp; done) | (simp; omega)) _).alloc (by first | exact Nat.le_refl _ | (simp; done) | (simp; omega)) _).alloc (by first | exact Nat.le_refl _ | (simp; done) | (simp; omega)) _).alloc (by first | exact Nat.le_refl _ | (simp; done) | (simp; omega)) _)⟩
  rw [hq.out]
  exact ⟨by simp, w.heap.size + 1 + 1, Blk.at_ _ _ (by simp), by simp, w.heap.size + 1, by simp, (Blk.at_ _ _ (by simp)).alloc _, ((Blk.at_ _ _ (by simp)).alloc _).alloc _⟩
set_option maxHeartbeats 2000000 in
theorem atom_6 (s : ByteArray) (w : World) (hs : s.size ≤ 1048576) : Calls Tryd.prog 44 #[.agg #[.int .i64 6, .string s]] w (Atomed 6 s w) := by
  have hq := Lib.hid (show atomQ 6 s = .leaf (.brk (zz3 s)) by unfold atomQ; simp)
  go_enter Tryd.func44, Tryd.ntmps44
  go_wp2_with fail
  with_reducible refine (termQ56 _ _).mono ?_
  rintro e1 w1 ⟨rfl, rfl⟩
  go_wp2_with fail
  go_ret
  refine ⟨_, rfl, ?_, ((((Below.refl _ _).alloc (by first | exact Nat.le_refl _ | (simp; done) | (simp; omega)) _).alloc (by first | exact Nat.le_refl _ | (simp; done) | (simp; omega)) _).alloc (by first | exact Nat.le_refl _ | (simp; done) | (simp; omega)) _)⟩
  rw [hq.out]
  exact ⟨by simp, w.heap.size + 1, Blk.at_ _ _ (by simp), by simp, (Blk.at_ _ _ (by simp)).alloc _⟩
set_option maxHeartbeats 2000000 in
theorem atom_7 (s : ByteArray) (w : World) (hs : s.size ≤ 1048576) : Calls Tryd.prog 44 #[.agg #[.int .i64 7, .string s]] w (Atomed 7 s w) := by
  have hq := Lib.hid (show atomQ 7 s = .leaf (.idx (zz2 s)) by unfold atomQ; simp)
  go_enter Tryd.func44, Tryd.ntmps44
  go_wp2_with fail
  with_reducible refine (termQ56 _ _).mono ?_
  rintro e1 w1 ⟨rfl, rfl⟩
  go_wp2_with fail
  go_ret
  refine ⟨_, rfl, ?_, (((((Below.refl _ _).alloc (by first | exact Nat.le_refl _ | (simp; done) | (simp; omega)) _).alloc (by first | exact Nat.le_refl _ | (simp; done) | (simp; omega)) _).alloc (by first | exact Nat.le_refl _ | (simp; done) | (simp; omega)) _).alloc (by first | exact Nat.le_refl _ | (simp; done) | (simp; omega)) _)⟩
  rw [hq.out]
  exact ⟨by simp, w.heap.size + 1 + 1, Blk.at_ _ _ (by simp), by rw [zz2_size]; omega, by simp, w.heap.size + 1, by simp, (Blk.at_ _ _ (by simp)).alloc _, ((Blk.at_ _ _ (by simp)).alloc _).alloc _⟩
set_option maxHeartbeats 2000000 in
theorem atom_8 (s : ByteArray) (w : World) (hs : s.size ≤ 1048576) : Calls Tryd.prog 44 #[.agg #[.int .i64 8, .string s]] w (Atomed 8 s w) := by
  have hq := Lib.hid (show atomQ 8 s = .bin (.leaf (.num s)) 1 none .ident by unfold atomQ; simp)
  go_enter Tryd.func44, Tryd.ntmps44
  go_wp2_with fail
  with_reducible refine (termQ56 _ _).mono ?_
  rintro e1 w1 ⟨rfl, rfl⟩
  go_wp2_with fail
  with_reducible refine (termQ56 _ _).mono ?_
  rintro e2 w2 ⟨rfl, rfl⟩
  go_wp2_with fail
  go_ret
  refine ⟨_, rfl, ?_, (((((((Below.refl _ _).alloc (by first | exact Nat.le_refl _ | (simp; done) | (simp; omega)) _).alloc (by first | exact Nat.le_refl _ | (simp; done) | (simp; omega)) _).alloc (by first | exact Nat.le_refl _ | (simp; done) | (simp; omega)) _).alloc (by first | exact Nat.le_refl _ | (simp; done) | (simp; omega)) _).alloc (by first | exact Nat.le_refl _ | (simp; done) | (simp; omega)) _).alloc (by first | exact Nat.le_refl _ | (simp; done) | (simp; omega)) _)⟩
  rw [hq.out]
  exact ⟨by simp, ⟨by omega, by omega⟩, w.heap.size + 1 + 1, w.heap.size + 1 + 1 + 1 + 1, _, Blk.at_ _ _ (by simp), ⟨by simp, w.heap.size + 1, (((Blk.at_ _ _ (by simp)).alloc _).alloc _).alloc _, by simp, ((((Blk.at_ _ _ (by simp)).alloc _).alloc _).alloc _).alloc _⟩, ⟨by simp, w.heap.size + 1 + 1 + 1, (Blk.at_ _ _ (by simp)).alloc _, by simp, ((Blk.at_ _ _ (by simp)).alloc _).alloc _⟩, rfl⟩
set_option maxHeartbeats 2000000 in
theorem atom_else (k : Int) (h1 : k ≠ 1) (h2 : k ≠ 2) (h3 : k ≠ 3) (h4 : k ≠ 4) (h5 : k ≠ 5) (h6 : k ≠ 6) (h7 : k ≠ 7) (h8 : k ≠ 8) (s : ByteArray) (w : World) (hs : s.size ≤ 1048576) : Calls Tryd.prog 44 #[.agg #[.int .i64 k, .string s]] w (Atomed k s w) := by
  have hq := Lib.hid (show atomQ k s = .leaf .null by unfold atomQ; simp [h1, h2, h3, h4, h5, h6, h7, h8])
  have b1 : (k == 1) = false := by rw [beq_eq_false_iff_ne]; exact h1
  have b2 : (k == 2) = false := by rw [beq_eq_false_iff_ne]; exact h2
  have b3 : (k == 3) = false := by rw [beq_eq_false_iff_ne]; exact h3
  have b4 : (k == 4) = false := by rw [beq_eq_false_iff_ne]; exact h4
  have b5 : (k == 5) = false := by rw [beq_eq_false_iff_ne]; exact h5
  have b6 : (k == 6) = false := by rw [beq_eq_false_iff_ne]; exact h6
  have b7 : (k == 7) = false := by rw [beq_eq_false_iff_ne]; exact h7
  have b8 : (k == 8) = false := by rw [beq_eq_false_iff_ne]; exact h8
  clear h1 h2 h3 h4 h5 h6 h7 h8
  go_enter Tryd.func44, Tryd.ntmps44
  go_wp2_with fail
  with_reducible refine (termQ56 _ _).mono ?_
  rintro e1 w1 ⟨rfl, rfl⟩
  go_wp2_with fail
  go_ret
  refine ⟨_, rfl, ?_, ((((Below.refl _ _).alloc (by first | exact Nat.le_refl _ | (simp; done) | (simp; omega)) _).alloc (by first | exact Nat.le_refl _ | (simp; done) | (simp; omega)) _).alloc (by first | exact Nat.le_refl _ | (simp; done) | (simp; omega)) _)⟩
  rw [hq.out]
  exact ⟨by simp, w.heap.size + 1, Blk.at_ _ _ (by simp), by simp, (Blk.at_ _ _ (by simp)).alloc _⟩
theorem atom_any (k : Int) (s : ByteArray) (w : World) (hs : s.size ≤ 1048576) : Calls Tryd.prog 44 #[.agg #[.int .i64 k, .string s]] w (Atomed k s w) := by
  by_cases h1 : k = 1
  · subst h1; exact atom_1 s w hs
  by_cases h2 : k = 2
  · subst h2; exact atom_2 s w hs
  by_cases h3 : k = 3
  · subst h3; exact atom_3 s w hs
  by_cases h4 : k = 4
  · subst h4; exact atom_4 s w hs
  by_cases h5 : k = 5
  · subst h5; exact atom_5 s w hs
  by_cases h6 : k = 6
  · subst h6; exact atom_6 s w hs
  by_cases h7 : k = 7
  · subst h7; exact atom_7 s w hs
  by_cases h8 : k = 8
  · subst h8; exact atom_8 s w hs
  exact atom_else k h1 h2 h3 h4 h5 h6 h7 h8 s w hs
end Go.Proofs.YtooalmhelfaodaaDoor
