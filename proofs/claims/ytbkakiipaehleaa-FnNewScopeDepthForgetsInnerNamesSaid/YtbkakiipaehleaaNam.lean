/- The laws' own helpers over names: they end with some answer and turn nothing; what the compiler's readers read. -/
import Derived.Test.YtbkakiipaehleaaVar
namespace Go.Proofs.Ytbkakiipaehleaa
open Go.RowKit
set_option maxRecDepth 100000
set_option linter.unusedVariables false
def SomeBool (w : World) (e : Ending) (w' : World) : Prop := ∃ b : Bool, e = .returned (.bool b) ∧ w = w'
def SomeInt (w : World) (e : Ending) (w' : World) : Prop := ∃ m : Int, e = .returned (.int .i64 m) ∧ w = w'
def vStrs (xs : List ByteArray) : List Value := xs.map Value.string
theorem vStrs_at (xs : List ByteArray) (j : Nat) (h : j < xs.length) : (vStrs xs)[j]? = some (.string xs[j]) := by simp [vStrs, h]
set_option maxHeartbeats 2000000 in
theorem zzb_FnCreateVariableCountsUp (A : Option Addr) (c : Nat) (xs : List ByteArray) (w : World) (hx : RdAt w w.heap.size A (vStrs xs)) (hn : xs.length ≤ 9223372036854775807) :
    Calls Try.prog 21 #[.slice A xs.length c] w (SomeBool w) := by
  have HX := Lib.hid hx
  clear hx
  by_cases h0 : xs.length ≤ 1048576
  · go_enter Try.func21, Try.ntmps21
    go_wp2_with fail
    go_loop [3, 4] (fun s i => ∃ (m : Int) (j : Nat), i = .int .i64 j ∧ j ≤ xs.length ∧ s = .int .i64 m) (fun _ i => xs.length - (intOf i).toNat)
    case atStart => exact ⟨_, 0, rfl, by omega, rfl⟩
    case round =>
      obtain ⟨m, j, rfl, hj, rfl⟩ := hrel
      by_cases hlt : j < xs.length
      · obtain ⟨g, o, rfl, hg, c0⟩ := HX.out j _ (vStrs_at xs j hlt)
        go_wp2_with fail
        all_goals first
          | (go_round
             case rel => exact ⟨_, j + 1, by go_num, by omega, rfl⟩
             case measure => simp [intOf]; omega)
          | (go_ret
             exact ⟨_, rfl, rfl⟩)
      · go_wp2_with fail
        go_ret
        exact ⟨_, rfl, rfl⟩
  · go_enter Try.func21, Try.ntmps21
    go_wp2_with fail
    go_ret
    exact ⟨_, rfl, rfl⟩
set_option maxHeartbeats 2000000 in
theorem zzb_FnPushVariableIdempotent (A : Option Addr) (c : Nat) (xs : List ByteArray) (w : World) (hx : RdAt w w.heap.size A (vStrs xs)) (hn : xs.length ≤ 9223372036854775807) :
    Calls Try.prog 43 #[.slice A xs.length c] w (SomeBool w) := by
  have HX := Lib.hid hx
  clear hx
  by_cases h0 : xs.length ≤ 1048576
  · go_enter Try.func43, Try.ntmps43
    go_wp2_with fail
    go_loop [3, 4] (fun s i => ∃ (m : Int) (j : Nat), i = .int .i64 j ∧ j ≤ xs.length ∧ s = .int .i64 m) (fun _ i => xs.length - (intOf i).toNat)
    case atStart => exact ⟨_, 0, rfl, by omega, rfl⟩
    case round =>
      obtain ⟨m, j, rfl, hj, rfl⟩ := hrel
      by_cases hlt : j < xs.length
      · obtain ⟨g, o, rfl, hg, c0⟩ := HX.out j _ (vStrs_at xs j hlt)
        go_wp2_with fail
        all_goals first
          | (go_round
             case rel => exact ⟨_, j + 1, by go_num, by omega, rfl⟩
             case measure => simp [intOf]; omega)
          | (go_ret
             exact ⟨_, rfl, rfl⟩)
      · go_wp2_with fail
        go_ret
        exact ⟨_, rfl, rfl⟩
  · go_enter Try.func43, Try.ntmps43
    go_wp2_with fail
    go_ret
    exact ⟨_, rfl, rfl⟩
set_option maxHeartbeats 2000000 in
theorem zzb_FnPushVariableDedupRank (A : Option Addr) (c : Nat) (xs : List ByteArray) (w : World) (hx : RdAt w w.heap.size A (vStrs xs)) (hn : xs.length ≤ 9223372036854775807) :
    Calls Try.prog 46 #[.slice A xs.length c] w (SomeBool w) := by
  have HX := Lib.hid hx
  clear hx
  by_cases h0 : xs.length ≤ 1048576
  · go_enter Try.func46, Try.ntmps46
    go_wp2_with fail
    go_loop [3, 4] (fun s i => ∃ (m : Int) (j : Nat), i = .int .i64 j ∧ j ≤ xs.length ∧ s = .int .i64 m) (fun _ i => xs.length - (intOf i).toNat)
    case atStart => exact ⟨_, 0, rfl, by omega, rfl⟩
    case round =>
      obtain ⟨m, j, rfl, hj, rfl⟩ := hrel
      by_cases hlt : j < xs.length
      · obtain ⟨g, o, rfl, hg, c0⟩ := HX.out j _ (vStrs_at xs j hlt)
        go_wp2_with fail
        all_goals first
          | (go_round
             case rel => exact ⟨_, j + 1, by go_num, by omega, rfl⟩
             case measure => simp [intOf]; omega)
          | (go_ret
             exact ⟨_, rfl, rfl⟩)
      · go_wp2_with fail
        go_ret
        exact ⟨_, rfl, rfl⟩
  · go_enter Try.func46, Try.ntmps46
    go_wp2_with fail
    go_ret
    exact ⟨_, rfl, rfl⟩
set_option maxHeartbeats 2000000 in
theorem lawBytes_any (t : Int) (A : Option Addr) (c : Nat) (xs : List ByteArray) (w : World) (hx : RdAt w w.heap.size A (vStrs xs)) (hn : xs.length ≤ 1048576) :
    Calls Try.prog 22 #[.int .i64 t, .slice A xs.length c] w (SomeInt w) := by
  have HX := Lib.hid hx
  clear hx
  go_enter Try.func22, Try.ntmps22
  go_wp2_with fail
  go_loop [0, 5] (fun s i => ∃ (m : Int) (j : Nat), i = .int .i64 j ∧ j ≤ xs.length ∧ s = .int .i64 m) (fun _ i => xs.length - (intOf i).toNat)
  case atStart => exact ⟨_, 0, rfl, by omega, rfl⟩
  case round =>
    obtain ⟨m, j, rfl, hj, rfl⟩ := hrel
    by_cases hlt : j < xs.length
    · obtain ⟨g, o, rfl, hg, c0⟩ := HX.out j _ (vStrs_at xs j hlt)
      by_cases hm : 1048576 < m
      all_goals
        go_wp2_with fail
        all_goals first
          | (go_round
             case rel => exact ⟨_, j + 1, by go_num, by omega, rfl⟩
             case measure => simp [intOf]; omega)
          | (go_ret
             exact ⟨_, rfl, rfl⟩)
    · go_wp2_with fail
      go_ret
      exact ⟨_, rfl, rfl⟩
set_option maxHeartbeats 1000000 in
theorem zz_create (base C SL S k : Nat) (V F : Value) (id d n : Int) (ps : List Value) (name : ByteArray) (w : World) (ht : Top w C SL S) (hS : Blk w S 127 #[V, F, .int .i64 id, .int .i64 d, .int .i64 n]) (hown : w.ownsRow base 153 1 V k ps) (hb : base ≤ S) (hk : k ≤ 10000000) (hn0 : 0 ≤ n) (hn1 : n ≤ 10000000) :
    Calls Try.prog 25 #[.pointer (some ⟨C, 0, none⟩), .string name] w (Created base S k F id d n ps name w) := by
  have hSl := hS.lt
  have hbx : Below base w (w.alloc (.cells #[.int .i64 0, .int .i64 0] 45)) := (Below.refl _ _).alloc (by omega) _
  have hkx : Lib.OthersKept 153 (some S) w (w.alloc (.cells #[.int .i64 0, .int .i64 0] 45)) := (Lib.OthersKept.refl _ _ w).alloc _
  have hc := Lib.hid (create_any base C SL S k V F id d n ps name (w.alloc (.cells #[.int .i64 0, .int .i64 0] 45)) ⟨(World.cell?_alloc_lt w _ _ (World.block_lt_of_cell? w _ ht.c)).trans ht.c, (World.cell?_alloc_lt w _ _ (World.block_lt_of_cell? w _ ht.l)).trans ht.l⟩ (hS.alloc _) (hown.alloc _) hb hk hn0 hn1)
  have hr := Blk.new w 45 #[.int .i64 0, .int .i64 0]
  clear hS hown ht
  go_enter Try.func25, Try.ntmps25
  go_wp2_with fail
  with_reducible refine (hc.out).mono ?_
  rintro e w1 ⟨g, cap, p, rfl, h1, h2, h3, h4, h5, h6⟩
  have hr1 := hr.kept h5 (by intro e; injection e with e; omega) (by decide)
  have r0 : w1.cell? ⟨w.heap.size, 0, none⟩ = some (.int .i64 0) := hr1.cell 0
  have r1 : w1.cell? ⟨w.heap.size, 1, none⟩ = some (.int .i64 0) := hr1.cell 1
  have q0 := hr1.frozen 0
  have q1 := hr1.frozen 1
  have nR1 := own_blk_ne h2 hr1 (by decide)
  have H1 := Lib.hid h1
  have H2 := Lib.hid h2
  have H3 := Lib.hid h3
  simp at h6
  clear h1 h2 h3 hr hr1
  go_wp2_with fail
  refine bodyPost_ret (v := .agg #[.int .i64 id, .int .i64 n]) (by simp [results, Try.results25, go_sem, r0, r1]) rfl ?_
  refine ⟨g, cap, p, rfl, (H1.out.far (p := ⟨w.heap.size, 0, none⟩) (by show S ≠ w.heap.size; omega) _).far (p := ⟨w.heap.size, 1, none⟩) (by show S ≠ w.heap.size; omega) _, owns_far (owns_far H2.out (p := ⟨w.heap.size, 0, none⟩) nR1 _) (p := ⟨w.heap.size, 1, none⟩) nR1 _, (H3.out.far (p := ⟨w.heap.size, 0, none⟩) (by show p ≠ w.heap.size; omega) _).far (p := ⟨w.heap.size, 1, none⟩) (by show p ≠ w.heap.size; omega) _, ((hbx.trans h4).setCell (p := ⟨w.heap.size, 0, none⟩) (by show base ≤ w.heap.size; omega) _).setCell (p := ⟨w.heap.size, 1, none⟩) (by show base ≤ w.heap.size; omega) _, ?_, by omega⟩
  intro i o hi hne3 hcc
  have h1 := (hkx.trans h5) i o hi hne3 hcc
  have hil : i < w.heap.size := (Array.getElem?_eq_some_iff.1 hi).1
  rw [Below.heap_setCell _ _ _ _ (by show i ≠ w.heap.size; omega), Below.heap_setCell _ _ _ _ (by show i ≠ w.heap.size; omega)]
  exact h1
theorem topVars (C SL S : Nat) (A : Option Addr) (k cap : Nat) (w : World) (ht : Top w C SL S) (c0 : w.cell? ⟨S, 0, none⟩ = some (.slice A k cap)) :
    Calls Try.prog 26 #[.pointer (some ⟨C, 0, none⟩)] w fun e w' => e = .returned (.int .i64 k) ∧ ∃ n, w' = w.drewN n := by
  obtain ⟨t1, t2⟩ := ht
  go_enter Try.func26, Try.ntmps26
  go_wp2_with fail
  go_quiet (fail)
  go_wp2_with fail
  go_ret
  exact ⟨rfl, _, rfl⟩
theorem topCnt (C SL S : Nat) (n : Int) (w : World) (ht : Top w C SL S) (c0 : w.cell? ⟨S, 4, none⟩ = some (.int .i64 n)) :
    Calls Try.prog 27 #[.pointer (some ⟨C, 0, none⟩)] w fun e w' => e = .returned (.int .i64 n) ∧ ∃ n, w' = w.drewN n := by
  obtain ⟨t1, t2⟩ := ht
  go_enter Try.func27, Try.ntmps27
  go_wp2_with fail
  go_quiet (fail)
  go_wp2_with fail
  go_ret
  exact ⟨rfl, _, rfl⟩
end Go.Proofs.Ytbkakiipaehleaa
