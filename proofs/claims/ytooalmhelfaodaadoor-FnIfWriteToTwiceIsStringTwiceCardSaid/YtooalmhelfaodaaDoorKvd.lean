/- What valText and kvModel say. -/
import Derived.Test.YtooalmhelfaodaaDoorKvc
namespace Go.Proofs.YtooalmhelfaodaaDoor
open Go.RowKit
set_option maxRecDepth 100000
set_option linter.unusedVariables false
theorem outL_plain {x : Leaf} (h : x.plain = true) (l : List UInt8) : outL x l = l ++ outL x [] := by
  cases x <;> simp [outL, Leaf.plain] at h ⊢
theorem valL_plain {vm : Int} {v : ByteArray} {x : Leaf} (h : valL vm v = some x) : x.plain = true := by
  unfold valL at h
  repeat (split at h; (injection h with h; subst h; rfl))
  cases h
theorem keyQ_plain {km : Int} {n : ByteArray} {x : Leaf} (h : keyQ km n = some x) : x.plain = true := by
  unfold keyQ at h
  split at h
  · injection h with h; subst h; rfl
  · cases h
theorem outK_app (km : Int) (k n : ByteArray) (l : List UInt8) : outK (keyS km k) (keyQ km n) l = l ++ outK (keyS km k) (keyQ km n) [] := by
  unfold outK
  by_cases h : (keyS km k).size ≠ 0
  · rw [if_pos h, if_pos h]; rfl
  · rw [if_neg h, if_neg h]
    cases hq : keyQ km n with
    | none => simp
    | some x =>
      have hp := keyQ_plain hq
      show outL x (l ++ [40]) ++ [41] = l ++ (outL x ([] ++ [40]) ++ [41])
      rw [outL_plain hp, outL_plain hp ([] ++ [40])]
      simp
theorem kvT_app (k n v : ByteArray) (km vm : Int) (l : List UInt8) : kvT k n v km vm l = l ++ kvT k n v km vm [] := by
  unfold kvT outKV
  cases hv : valL vm v with
  | none => exact outK_app km k n l
  | some x =>
    have hp := valL_plain hv
    show outL x (outK (keyS km k) (keyQ km n) l ++ [58, 32]) = l ++ outL x (outK (keyS km k) (keyQ km n) [] ++ [58, 32])
    rw [outL_plain hp, outL_plain hp (outK (keyS km k) (keyQ km n) [] ++ [58, 32]), outK_app]
    simp
def valT : Option Leaf → List UInt8
  | none => []
  | some x => outL x []
def valB : Option Leaf → Bool
  | none => false
  | some _ => true
theorem ret_two {a b : ByteArray} {c : Bool} (h : a.data.toList = b.data.toList) : Ending.returned (.tuple #[.string a, .bool c]) = .returned (.tuple #[.string b, .bool c]) := by rw [WideShapes.bytes_inj h]
set_option maxHeartbeats 1000000 in
theorem valText_1 (k n v : ByteArray) (km : Int) (w : World) :
    Calls Tryd.prog 57 #[.agg #[.string k, .int .i64 km, .string n, .int .i64 1, .string v]] w fun e w' => e = .returned (.tuple #[.string ⟨(valT (valL 1 v)).toArray⟩, .bool (valB (valL 1 v))]) ∧ Below w.heap.size w w' := by
  have eV : valL 1 v = some (.num v) := rfl
  rw [eV]
  clear eV
  go_enter Tryd.func57, Tryd.ntmps57
  go_wp2
  go_ret2
  exact ⟨ret_two (by rfl), (Below.refl _ _).alloc (Nat.le_refl _) _⟩
set_option maxHeartbeats 1000000 in
theorem valText_2 (k n v : ByteArray) (km : Int) (w : World) :
    Calls Tryd.prog 57 #[.agg #[.string k, .int .i64 km, .string n, .int .i64 2, .string v]] w fun e w' => e = .returned (.tuple #[.string ⟨(valT (valL 2 v)).toArray⟩, .bool (valB (valL 2 v))]) ∧ Below w.heap.size w w' := by
  have eV : valL 2 v = some .null := rfl
  rw [eV]
  clear eV
  go_enter Tryd.func57, Tryd.ntmps57
  go_wp2
  go_ret2
  exact ⟨ret_two (by rfl), (Below.refl _ _).alloc (Nat.le_refl _) _⟩
set_option maxHeartbeats 1000000 in
theorem valText_3 (k n v : ByteArray) (km : Int) (w : World) :
    Calls Tryd.prog 57 #[.agg #[.string k, .int .i64 km, .string n, .int .i64 3, .string v]] w fun e w' => e = .returned (.tuple #[.string ⟨(valT (valL 3 v)).toArray⟩, .bool (valB (valL 3 v))]) ∧ Below w.heap.size w w' := by
  have eV : valL 3 v = some .tru := rfl
  rw [eV]
  clear eV
  go_enter Tryd.func57, Tryd.ntmps57
  go_wp2
  go_ret2
  exact ⟨ret_two (by rfl), (Below.refl _ _).alloc (Nat.le_refl _) _⟩
set_option maxHeartbeats 1000000 in
theorem valText_4 (k n v : ByteArray) (km : Int) (w : World) :
    Calls Tryd.prog 57 #[.agg #[.string k, .int .i64 km, .string n, .int .i64 4, .string v]] w fun e w' => e = .returned (.tuple #[.string ⟨(valT (valL 4 v)).toArray⟩, .bool (valB (valL 4 v))]) ∧ Below w.heap.size w w' := by
  have eV : valL 4 v = some .fls := rfl
  rw [eV]
  clear eV
  go_enter Tryd.func57, Tryd.ntmps57
  go_wp2
  go_ret2
  exact ⟨ret_two (by rfl), (Below.refl _ _).alloc (Nat.le_refl _) _⟩
set_option maxHeartbeats 1000000 in
theorem valText_5 (k n v : ByteArray) (km : Int) (w : World) :
    Calls Tryd.prog 57 #[.agg #[.string k, .int .i64 km, .string n, .int .i64 5, .string v]] w fun e w' => e = .returned (.tuple #[.string ⟨(valT (valL 5 v)).toArray⟩, .bool (valB (valL 5 v))]) ∧ Below w.heap.size w w' := by
  have eV : valL 5 v = some .ident := rfl
  rw [eV]
  clear eV
  go_enter Tryd.func57, Tryd.ntmps57
  go_wp2
  go_ret2
  exact ⟨ret_two (by rfl), (Below.refl _ _).alloc (Nat.le_refl _) _⟩
set_option maxHeartbeats 1000000 in
theorem valText_vm (k n v : ByteArray) (km : Int) (w : World) (vm : Int) (v1 : vm ≠ 1) (v2 : vm ≠ 2) (v3 : vm ≠ 3) (v4 : vm ≠ 4) (v5 : vm ≠ 5) :
    Calls Tryd.prog 57 #[.agg #[.string k, .int .i64 km, .string n, .int .i64 vm, .string v]] w fun e w' => e = .returned (.tuple #[.string ⟨(valT (valL vm v)).toArray⟩, .bool (valB (valL vm v))]) ∧ Below w.heap.size w w' := by
  have eV : valL vm v = none := by unfold valL; rw [if_neg v1, if_neg v2, if_neg v3, if_neg v4, if_neg v5]
  rw [eV]
  clear eV
  go_enter Tryd.func57, Tryd.ntmps57
  go_wp2
  go_ret2
  exact ⟨ret_two (by rfl), (Below.refl _ _).alloc (Nat.le_refl _) _⟩
theorem valText_any (k n v : ByteArray) (km vm : Int) (w : World) :
    Calls Tryd.prog 57 #[.agg #[.string k, .int .i64 km, .string n, .int .i64 vm, .string v]] w fun e w' => e = .returned (.tuple #[.string ⟨(valT (valL vm v)).toArray⟩, .bool (valB (valL vm v))]) ∧ Below w.heap.size w w' := by
  rcases six vm with rfl | rfl | rfl | rfl | rfl | ⟨v1, v2, v3, v4, v5⟩
  · exact valText_1 k n v km w
  · exact valText_2 k n v km w
  · exact valText_3 k n v km w
  · exact valText_4 k n v km w
  · exact valText_5 k n v km w
  · exact valText_vm k n v km w vm v1 v2 v3 v4 v5
theorem keyText_any (k n v : ByteArray) (km vm : Int) (w : World) (hs : k.size + n.size + v.size ≤ 1048576) :
    Calls Tryd.prog 56 #[.agg #[.string k, .int .i64 km, .string n, .int .i64 vm, .string v]] w fun e w' => e = .returned (.string ⟨(outK (keyS km k) (keyQ km n) []).toArray⟩) ∧ Below w.heap.size w w' := by
  rcases three km with rfl | rfl | ⟨k0, k1⟩
  · exact keyText_0 k n v vm w hs
  · exact keyText_1 k n v vm w hs
  · exact keyText_km k n v vm w km k0 k1 hs
theorem valT_len (vm : Int) (v : ByteArray) : (valT (valL vm v)).length ≤ v.size + 8 := by
  have h := valL_le vm v
  cases hv : valL vm v with
  | none => exact Nat.zero_le _
  | some x => rw [hv] at h; have := outL_len x []; simp only [valT, wtO, List.length_nil] at *; omega
set_option maxHeartbeats 1000000 in
theorem kvModel_aux (k n v K T : ByteArray) (km vm : Int) (c : Bool) (w : World) (hK : K.size ≤ 2000000) (hT : T.size ≤ 2000000)
    (h1 : Hid (∀ w, Calls Tryd.prog 56 #[.agg #[.string k, .int .i64 km, .string n, .int .i64 vm, .string v]] w fun e w' => e = .returned (.string K) ∧ Below w.heap.size w w'))
    (h2 : Hid (∀ w, Calls Tryd.prog 57 #[.agg #[.string k, .int .i64 km, .string n, .int .i64 vm, .string v]] w fun e w' => e = .returned (.tuple #[.string T, .bool c]) ∧ Below w.heap.size w w')) :
    Calls Tryd.prog 18 #[.agg #[.string k, .int .i64 km, .string n, .int .i64 vm, .string v]] w fun e w' => e = .returned (.string (bif c then K ++ ⟨#[58, 32]⟩ ++ T else K)) ∧ Below w.heap.size w w' := by
  cases c
  all_goals
    go_enter Tryd.func18, Tryd.ntmps18
    go_wp2_with fail
    with_reducible refine (h1.out _).mono ?_
    rintro e1 w1 ⟨rfl, hb1⟩
    obtain ⟨hc, hf⟩ := bcell hb1
    have d0 : w1.cell? ⟨w.heap.size, 0, none⟩ = some (.string k) := by rw [hc _ _ (by simp)]; simp [go_sem]
    have d1 : w1.cell? ⟨w.heap.size, 1, none⟩ = some (.int .i64 km) := by rw [hc _ _ (by simp)]; simp [go_sem]
    have d2 : w1.cell? ⟨w.heap.size, 2, none⟩ = some (.string n) := by rw [hc _ _ (by simp)]; simp [go_sem]
    have d3 : w1.cell? ⟨w.heap.size, 3, none⟩ = some (.int .i64 vm) := by rw [hc _ _ (by simp)]; simp [go_sem]
    have d4 : w1.cell? ⟨w.heap.size, 4, none⟩ = some (.string v) := by rw [hc _ _ (by simp)]; simp [go_sem]
    have hb1' : Below w.heap.size w w1 := ((Below.refl _ _).alloc (Nat.le_refl _) _).trans (hb1.mono (by simp))
    have hs1 := hb1'.size
    clear hc hf hb1
    go_wp2_with fail
    with_reducible refine (h2.out _).mono ?_
    rintro e2 w2 ⟨rfl, hb2⟩
    go_wp2_with fail
    go_ret
    exact ⟨rfl, hb1'.trans (hb2.mono hs1)⟩
theorem kvModel_any (k n v : ByteArray) (km vm : Int) (w : World) (hs : k.size + n.size + v.size ≤ 1048576) :
    Calls Tryd.prog 18 #[.agg #[.string k, .int .i64 km, .string n, .int .i64 vm, .string v]] w fun e w' => e = .returned (.string ⟨(kvT k n v km vm []).toArray⟩) ∧ Below w.heap.size w w' := by
  have l1 := outK_len (keyS km k) (keyQ km n) []
  have l2 := keyS_le km k
  have l3 := keyQ_le km n
  have l4 := valT_len vm v
  simp only [List.length_nil] at l1
  refine (kvModel_aux k n v _ _ km vm _ w (by show (outK (keyS km k) (keyQ km n) []).toArray.size ≤ _; simp; omega) (by show (valT (valL vm v)).toArray.size ≤ _; simp; omega) (Lib.hid fun w => keyText_any k n v km vm w hs) (Lib.hid fun w => valText_any k n v km vm w)).mono ?_
  rintro e w' ⟨rfl, hb⟩
  refine ⟨ret_str ?_, hb⟩
  unfold kvT outKV
  cases hv : valL vm v with
  | none => rfl
  | some x =>
    have hp := valL_plain hv
    show ((⟨(outK (keyS km k) (keyQ km n) []).toArray⟩ : ByteArray) ++ ⟨#[58, 32]⟩ ++ ⟨(outL x []).toArray⟩).data.toList = outL x (outK (keyS km k) (keyQ km n) [] ++ [58, 32])
    rw [outL_plain hp (outK (keyS km k) (keyQ km n) [] ++ [58, 32])]
    simp [ByteArray.data_append]
end Go.Proofs.YtooalmhelfaodaaDoor
