/- The law's own helpers for one pair: its bytes, what buildKV makes, what kvModel says. -/
import Derived.Test.YtooalmhelfaodaaDoorKvw
namespace Go.Proofs.YtooalmhelfaodaaDoor
open Go.RowKit
set_option maxRecDepth 100000
set_option linter.unusedVariables false
theorem ret_bool {a b : Bool} (h : a = b) : Ending.returned (.bool a) = .returned (.bool b) := by rw [h]
theorem ret_int {k : IntKind} {a b : Int} (h : a = b) : Ending.returned (.int k a) = .returned (.int k b) := by rw [h]
theorem ret_str {a b : ByteArray} (h : a.data.toList = b.data.toList) : Ending.returned (.string a) = .returned (.string b) := by rw [WideShapes.bytes_inj h]
def kvV (k n v : ByteArray) (km vm : Int) : Array Value := #[.agg #[.string k, .int .i64 km, .string n, .int .i64 vm, .string v]]
def keyS (km : Int) (k : ByteArray) : ByteArray := if km = 0 then k else ⟨#[]⟩
def keyQ (km : Int) (n : ByteArray) : Option Leaf := if km = 1 then some (.num n) else none
def valL (vm : Int) (v : ByteArray) : Option Leaf := if vm = 1 then some (.num v) else if vm = 2 then some .null else if vm = 3 then some .tru else if vm = 4 then some .fls else if vm = 5 then some .ident else none
def kvT (k n v : ByteArray) (km vm : Int) (l : List UInt8) : List UInt8 := outKV (keyS km k) (keyQ km n) (valL vm v) l
theorem keyS_le (km : Int) (k : ByteArray) : (keyS km k).size ≤ k.size := by unfold keyS; split; exact Nat.le_refl _; exact Nat.zero_le _
theorem keyQ_le (km : Int) (n : ByteArray) : wtO (keyQ km n) ≤ n.size + 8 := by unfold keyQ; split; exact Nat.le_refl _; exact Nat.zero_le _
theorem valL_le (vm : Int) (v : ByteArray) : wtO (valL vm v) ≤ v.size + 8 := by
  unfold valL
  by_cases h1 : vm = 1
  · rw [if_pos h1]; exact Nat.le_refl _
  rw [if_neg h1]
  by_cases h2 : vm = 2
  · rw [if_pos h2]; show 8 ≤ _; omega
  rw [if_neg h2]
  by_cases h3 : vm = 3
  · rw [if_pos h3]; show 8 ≤ _; omega
  rw [if_neg h3]
  by_cases h4 : vm = 4
  · rw [if_pos h4]; show 8 ≤ _; omega
  rw [if_neg h4]
  by_cases h5 : vm = 5
  · rw [if_pos h5]; show 8 ≤ _; omega
  rw [if_neg h5]; exact Nat.zero_le _
set_option maxHeartbeats 1000000 in
theorem zzb_table (k n v : ByteArray) (km vm : Int) (w : World) :
    Calls Tryd.prog 14 #[.agg #[.string k, .int .i64 km, .string n, .int .i64 vm, .string v]] w fun e w' => e = .returned (.bool (decide (k.size + n.size + v.size ≤ 1048576))) ∧ Below w.heap.size w w' := by
  go_enter Tryd.func14, Tryd.ntmps14
  go_wp2
  all_goals (go_ret; exact ⟨ret_bool (by first | (symm; apply decide_eq_true; omega) | (symm; apply decide_eq_false; omega)), (Below.refl _ _).alloc (Nat.le_refl _) _⟩)
set_option maxHeartbeats 1000000 in
theorem zzb_agrees (k n v : ByteArray) (km vm : Int) (w : World) :
    Calls Tryd.prog 19 #[.agg #[.string k, .int .i64 km, .string n, .int .i64 vm, .string v]] w fun e w' => e = .returned (.bool (decide (k.size + n.size + v.size ≤ 1048576))) ∧ Below w.heap.size w w' := by
  go_enter Tryd.func19, Tryd.ntmps19
  go_wp2
  all_goals (go_ret; exact ⟨ret_bool (by first | (symm; apply decide_eq_true; omega) | (symm; apply decide_eq_false; omega)), (Below.refl _ _).alloc (Nat.le_refl _) _⟩)
set_option maxHeartbeats 1000000 in
theorem zzb_writes (k n v s : ByteArray) (km vm : Int) (w : World) :
    Calls Tryd.prog 21 #[.agg #[.string k, .int .i64 km, .string n, .int .i64 vm, .string v], .string s] w fun e w' => e = .returned (.bool (decide (k.size + n.size + v.size + s.size ≤ 1048576))) ∧ Below w.heap.size w w' := by
  go_enter Tryd.func21, Tryd.ntmps21
  go_wp2
  all_goals (go_ret; exact ⟨ret_bool (by first | (symm; apply decide_eq_true; omega) | (symm; apply decide_eq_false; omega)), (Below.refl _ _).alloc (Nat.le_refl _) _⟩)
set_option maxHeartbeats 1000000 in
theorem kvBytes_any (k n v : ByteArray) (km vm : Int) (w : World) (h : k.size + n.size + v.size ≤ 1048576) :
    Calls Tryd.prog 15 #[.agg #[.string k, .int .i64 km, .string n, .int .i64 vm, .string v]] w fun e w' => e = .returned (.int .i64 ((k.size + n.size + v.size + 64 : Nat) : Int)) ∧ Below w.heap.size w w' := by
  go_enter Tryd.func15, Tryd.ntmps15
  go_wp2
  go_ret
  exact ⟨ret_int (by show ((k.size : Int) + n.size + v.size + 64) = _; omega), (Below.refl _ _).alloc (Nat.le_refl _) _⟩
theorem three (km : Int) : km = 0 ∨ km = 1 ∨ (km ≠ 0 ∧ km ≠ 1) := by omega
theorem six (vm : Int) : vm = 1 ∨ vm = 2 ∨ vm = 3 ∨ vm = 4 ∨ vm = 5 ∨ (vm ≠ 1 ∧ vm ≠ 2 ∧ vm ≠ 3 ∧ vm ≠ 4 ∧ vm ≠ 5) := by omega
/-- what the pair holds where the call has made it -/
def Made (k n v : ByteArray) (km vm : Int) (w : World) (e : Ending) (w' : World) : Prop := ∃ g, e = .returned (.pointer (some ⟨g, 0, none⟩)) ∧ w.heap.size ≤ g ∧ KvIs w' w'.heap.size g (keyS km k) (keyQ km n) (valL vm v) ∧ Below w.heap.size w w'
theorem numQ_any (s : ByteArray) (w : World) :
    Calls Tryd.prog 52 #[.string s] w fun e w' => e = .returned (.pointer (some ⟨w.heap.size + 1, 0, none⟩)) ∧ w' = (w.alloc (.cells (tcells 10 (.pointer none) (.pointer none) s ⟨#[]⟩) 139)).alloc (.cells (qcells w.heap.size) 119) := by
  go_enter Tryd.func52, Tryd.ntmps52
  go_wp2
  go_ret
  exact ⟨rfl, rfl⟩
theorem litQ_any (t : Int) (w : World) :
    Calls Tryd.prog 53 #[.int .i64 t] w fun e w' => e = .returned (.pointer (some ⟨w.heap.size + 1, 0, none⟩)) ∧ w' = (w.alloc (.cells (tcells t (.pointer none) (.pointer none) ⟨#[]⟩ ⟨#[]⟩) 139)).alloc (.cells (qcells w.heap.size) 119) := by
  go_enter Tryd.func53, Tryd.ntmps53
  go_wp2
  go_ret
  exact ⟨rfl, rfl⟩
end Go.Proofs.YtooalmhelfaodaaDoor
