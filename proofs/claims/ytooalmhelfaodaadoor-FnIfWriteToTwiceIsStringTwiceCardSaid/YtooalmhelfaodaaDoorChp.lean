/- What chains write, on plain lists: behind a prefix, and as flat text. -/
import Derived.Test.YtooalmhelfaodaaDoorCha
namespace Go.Proofs.YtooalmhelfaodaaDoor
open Go.RowKit
set_option linter.unusedVariables false
theorem sepT_nil (op : Nat) (l : List UInt8) : sepT op l = l ++ sepT op [] := by
  unfold sepT
  split <;> simp
theorem outP_nil (pat : Option ByteArray) (l : List UInt8) : outP pat l = l ++ outP pat [] := by
  cases pat with
  | none => simp [outP]
  | some s => simp [outP]
theorem gap_blank (m : List UInt8) : gap (m ++ [32]) = [] := by
  unfold gap fuse
  simp
theorem gap_nil : gap ([] : List UInt8) = [] := by
  unfold gap fuse
  simp
/-- the gap ahead of a leaf -/
def gpL (x : Leaf) (l : List UInt8) : List UInt8 := match x with
  | .idx _ => gap l
  | _ => []
theorem outL_pre (x : Leaf) (l : List UInt8) : outL x l = l ++ gpL x l ++ outL x [] := by
  cases x <;> simp [outL, gpL, gap_nil]
theorem outL_blank (x : Leaf) (m : List UInt8) : outL x (m ++ [32]) = m ++ [32] ++ outL x [] := by
  rw [outL_pre]
  cases x <;> simp [gpL, gap_blank]
/-- what a binary node writes behind its left side -/
def tlB (op : Nat) (pat : Option ByteArray) (b : Leaf) : List UInt8 := sepT op [] ++ outP pat [] ++ (opS op).data.toList ++ [32] ++ outL b []
theorem outQ_bin (a : Qu) (op : Nat) (pat : Option ByteArray) (b : Leaf) (l : List UInt8) : outQ (.bin a op pat b) l = outQ a l ++ tlB op pat b := by
  show outL b (outP pat (sepT op (outQ a l)) ++ (opS op).data.toList ++ [32]) = _
  rw [outL_blank, outP_nil, sepT_nil]
  unfold tlB
  simp only [List.append_assoc]
def gpQ : Qu → List UInt8 → List UInt8
  | .nothing, _ => []
  | .leaf x, l => gpL x l
  | .bin a _ _ _, l => gpQ a l
theorem outQ_pre (t : Qu) (l : List UInt8) : outQ t l = l ++ gpQ t l ++ outQ t [] := by
  induction t with
  | nothing => simp [outQ, gpQ]
  | leaf x => exact outL_pre x l
  | bin a op pat b ih =>
    rw [outQ_bin, outQ_bin, ih]
    simp only [gpQ, List.append_assoc]
theorem zzL_out (k : Nat) (s : ByteArray) : outL (zzL k s) [] = (zzS k s).data.toList := by
  unfold zzL zzS
  have h6 : k % 6 < 6 := Nat.mod_lt _ (by omega)
  rcases (show k % 6 = 0 ∨ k % 6 = 1 ∨ k % 6 = 2 ∨ k % 6 = 3 ∨ k % 6 = 4 ∨ k % 6 = 5 by omega) with h | h | h | h | h | h
  all_goals
    rw [h]
    simp [outL, gap_nil]
/-- the three ways in which the laws spell what stands between two leaves -/
theorem tlB_pat (s : ByteArray) (b : Leaf) : tlB 1 (some s) b = [32, 97, 115, 32] ++ s.data.toList ++ [32, 124, 32] ++ outL b [] := by
  simp [tlB, sepT, outP, opS]
theorem tlB_comma (b : Leaf) : tlB 2 none b = [44, 32] ++ outL b [] := by
  simp [tlB, sepT, outP, opS]
theorem tlB_op (op : Nat) (b : Leaf) (h : op ≠ 2) : tlB op none b = [32] ++ (opS op).data.toList ++ [32] ++ outL b [] := by
  simp [tlB, sepT, outP, h]
end Go.Proofs.YtooalmhelfaodaaDoor
