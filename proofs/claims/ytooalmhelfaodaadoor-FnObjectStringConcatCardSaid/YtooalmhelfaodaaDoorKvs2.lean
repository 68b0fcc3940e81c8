/- Lists of pair descriptions: their bytes beside a text, beside a second list; kvsBytes. -/
import Derived.Test.YtooalmhelfaodaaDoorKvs
namespace Go.Proofs.YtooalmhelfaodaaDoor
open Go.RowKit
set_option maxRecDepth 100000
set_option linter.unusedVariables false
set_option maxHeartbeats 4000000 in
theorem zzs_write (A : Option Addr) (c B : Nat) (xs : List KVd) (s : ByteArray) (w : World) (hx : KvsAt w B A xs) (hn : xs.length ≤ 9223372036854775807) :
    Calls Tryd.prog 28 #[.slice A xs.length c, .string s] w fun e w' => e = .returned (.bool (decide (xs.length + tot xs + s.size ≤ 1048576))) ∧ w = w' := by
  have HX := Lib.hid hx
  clear hx
  obtain ⟨P, hP⟩ : ∃ P : Bool, Hid (P = decide (xs.length + tot xs + s.size ≤ 1048576)) := ⟨_, Lib.hid rfl⟩
  rw [← hP.out]
  by_cases h0 : xs.length ≤ 1048576
  · go_enter Tryd.func28, Tryd.ntmps28
    go_wp2_with fail
    go_loop [5, 6] (fun s i => ∃ (m : Int) (j : Nat), i = .int .i64 j ∧ j ≤ xs.length ∧ s = .int .i64 m ∧ Hid (m = ((xs.length + tot (xs.take j) : Nat) : Int)) ∧ 0 ≤ m ∧ m ≤ 1048576) (fun _ i => xs.length - (intOf i).toNat)
    case atStart => exact ⟨xs.length, 0, rfl, by omega, rfl, by show _ = _; simp [tot], by omega, by omega⟩
    case round =>
      obtain ⟨m, j, rfl, hj, rfl, hm, hm0, hm1⟩ := hrel
      by_cases hlt : j < xs.length
      · obtain ⟨g, o, rfl, hg, c0, c1, c2, c3, c4⟩ := HX.out j _ (List.getElem?_eq_getElem hlt)
        have HS := Lib.hid (tot_succ xs j hlt)
        have HT := Lib.hid (tot_take xs (j + 1))
        obtain ⟨x, hxx⟩ : ∃ x, Hid (xs[j] = x) := ⟨_, Lib.hid rfl⟩
        have HS' : Hid (tot (xs.take (j + 1)) = tot (xs.take j) + (x.k.size + x.n.size + x.v.size)) := by have h := HS.out; rw [hxx.out] at h; exact h
        rw [hxx.out] at c0 c1 c2 c3 c4
        clear HS hxx
        go_wp2_with fail
        all_goals first
          | (go_round
             case rel => exact ⟨m + x.k.size + x.n.size + x.v.size, j + 1, by go_num, by omega, by go_num, (by show _ = _; have := HS'.out; have := hm.out; omega), by omega, by omega⟩
             case measure => simp [intOf]; omega)
          | (go_ret
             refine ⟨ret_bool ?_, rfl⟩
             rw [hP.out]; symm; apply decide_eq_false
             have := HS'.out; have := hm.out; have := HT.out; omega)
      · have h1 : Hid (m = ((xs.length + tot xs : Nat) : Int)) := by have h1 := hm.out; rw [List.take_of_length_le (by omega)] at h1; exact h1
        clear hm
        go_wp2_with fail
        all_goals
          go_ret
          refine ⟨ret_bool ?_, rfl⟩
          rw [hP.out]; symm
          first
            | (apply decide_eq_true; have := h1.out; omega)
            | (apply decide_eq_false; have := h1.out; omega)
  · go_enter Tryd.func28, Tryd.ntmps28
    go_wp2_with fail
    go_ret
    refine ⟨ret_bool ?_, rfl⟩
    rw [hP.out]; symm; apply decide_eq_false; omega
set_option maxHeartbeats 8000000 in
theorem zzs_concat (A A2 : Option Addr) (c c2 B : Nat) (xs ys : List KVd) (w : World) (hx : KvsAt w B A xs) (hy : KvsAt w B A2 ys) (hn : xs.length ≤ 9223372036854775807) (hn2 : ys.length ≤ 9223372036854775807) :
    Calls Tryd.prog 47 #[.slice A xs.length c, .slice A2 ys.length c2] w fun e w' => e = .returned (.bool (decide (xs.length + tot xs + (ys.length + tot ys) ≤ 1048576))) ∧ w = w' := by
  have HX := Lib.hid hx
  have HY := Lib.hid hy
  clear hx hy
  obtain ⟨P, hP⟩ : ∃ P : Bool, Hid (P = decide (xs.length + tot xs + (ys.length + tot ys) ≤ 1048576)) := ⟨_, Lib.hid rfl⟩
  rw [← hP.out]
  by_cases h0 : xs.length ≤ 1048576
  · go_enter Tryd.func47, Tryd.ntmps47
    go_wp2_with fail
    go_loop [5, 6] (fun s i => ∃ (m : Int) (j : Nat), i = .int .i64 j ∧ j ≤ xs.length ∧ s = .int .i64 m ∧ Hid (m = ((xs.length + tot (xs.take j) : Nat) : Int)) ∧ 0 ≤ m ∧ m ≤ 1048576) (fun _ i => xs.length - (intOf i).toNat)
    case atStart => exact ⟨xs.length, 0, rfl, by omega, rfl, by show _ = _; simp [tot], by omega, by omega⟩
    case round =>
      obtain ⟨m, j, rfl, hj, rfl, hm, hm0, hm1⟩ := hrel
      by_cases hlt : j < xs.length
      · obtain ⟨g, o, rfl, hg, c0, c1, c2, c3, c4⟩ := HX.out j _ (List.getElem?_eq_getElem hlt)
        have HS := Lib.hid (tot_succ xs j hlt)
        have HT := Lib.hid (tot_take xs (j + 1))
        obtain ⟨x, hxx⟩ : ∃ x, Hid (xs[j] = x) := ⟨_, Lib.hid rfl⟩
        have HS' : Hid (tot (xs.take (j + 1)) = tot (xs.take j) + (x.k.size + x.n.size + x.v.size)) := by have h := HS.out; rw [hxx.out] at h; exact h
        rw [hxx.out] at c0 c1 c2 c3 c4
        clear HS hxx
        go_wp2_with fail
        all_goals first
          | (go_round
             case rel => exact ⟨m + x.k.size + x.n.size + x.v.size, j + 1, by go_num, by omega, by go_num, (by show _ = _; have := HS'.out; have := hm.out; omega), by omega, by omega⟩
             case measure => simp [intOf]; omega)
          | (go_ret
             refine ⟨ret_bool ?_, rfl⟩
             rw [hP.out]; symm; apply decide_eq_false
             have := HS'.out; have := hm.out; have := HT.out; omega)
      · have h1 : Hid (m = ((xs.length + tot xs : Nat) : Int)) := by have h1 := hm.out; rw [List.take_of_length_le (by omega)] at h1; exact h1
        clear hm
        obtain ⟨M, hM⟩ : ∃ M : Nat, Hid (xs.length + tot xs = M) := ⟨_, Lib.hid rfl⟩
        rw [hM.out] at h1 hP
        by_cases hys : ys.length ≤ 1048576
        · by_cases hsum : m + ys.length ≤ 1048576
          · go_wp2_with fail
            go_loop [5, 7] (fun s i => ∃ (m2 : Int) (j : Nat), i = .int .i64 j ∧ j ≤ ys.length ∧ s = .int .i64 m2 ∧ Hid (m2 = ((M + (ys.length + tot (ys.take j)) : Nat) : Int)) ∧ 0 ≤ m2 ∧ m2 ≤ 1048576) (fun _ i => ys.length - (intOf i).toNat)
            case atStart => exact ⟨m + ys.length, 0, rfl, by omega, rfl, by show _ = _; have := h1.out; simp [tot]; omega, by omega, by omega⟩
            case round =>
              clear hlt hj hm0 hm1
              obtain ⟨m2, j, rfl, hj, rfl, hm, hm0, hm1⟩ := hrel
              by_cases hlt : j < ys.length
              · obtain ⟨g, o, rfl, hg, c0, c1, c2, c3, c4⟩ := HY.out j _ (List.getElem?_eq_getElem hlt)
                have HS := Lib.hid (tot_succ ys j hlt)
                have HT := Lib.hid (tot_take ys (j + 1))
                obtain ⟨x, hxx⟩ : ∃ x, Hid (ys[j] = x) := ⟨_, Lib.hid rfl⟩
                have HS' : Hid (tot (ys.take (j + 1)) = tot (ys.take j) + (x.k.size + x.n.size + x.v.size)) := by have h := HS.out; rw [hxx.out] at h; exact h
                rw [hxx.out] at c0 c1 c2 c3 c4
                clear HS hxx
                go_wp2_with fail
                all_goals first
                  | (go_round
                     case rel => exact ⟨m2 + x.k.size + x.n.size + x.v.size, j + 1, by go_num, by omega, by go_num, (by show _ = _; have := HS'.out; have := hm.out; omega), by omega, by omega⟩
                     case measure => simp [intOf]; omega)
                  | (go_ret
                     refine ⟨ret_bool ?_, rfl⟩
                     rw [hP.out]; symm; apply decide_eq_false
                     have := HS'.out; have := hm.out; have := HT.out; omega)
              · have h2 : Hid (m2 = ((M + (ys.length + tot ys) : Nat) : Int)) := by have h1 := hm.out; rw [List.take_of_length_le (by omega)] at h1; exact h1
                clear hm
                go_wp2_with fail
                go_ret
                refine ⟨ret_bool ?_, rfl⟩
                rw [hP.out]; symm; apply decide_eq_true; have := h2.out; omega
          · go_wp2_with fail
            go_ret
            refine ⟨ret_bool ?_, rfl⟩
            rw [hP.out]; symm; apply decide_eq_false; have := h1.out; omega
        · go_wp2_with fail
          go_ret
          refine ⟨ret_bool ?_, rfl⟩
          rw [hP.out]; symm; apply decide_eq_false; omega
  · go_enter Tryd.func47, Tryd.ntmps47
    go_wp2_with fail
    go_ret
    refine ⟨ret_bool ?_, rfl⟩
    rw [hP.out]; symm; apply decide_eq_false; omega
def kvsN (xs : List KVd) : Int := if tot xs + 64 * xs.length ≤ 1048576 then ((tot xs + 64 * xs.length : Nat) : Int) else 1073741824
set_option maxHeartbeats 4000000 in
theorem kvsBytes_any (A : Option Addr) (c : Nat) (xs : List KVd) (w : World) (hx : KvsAt w w.heap.size A xs) (hn : xs.length ≤ 1048576) (ht : tot xs ≤ 1048576) :
    Calls Tryd.prog 24 #[.slice A xs.length c] w fun e w' => e = .returned (.int .i64 (kvsN xs)) ∧ Below w.heap.size w w' := by
  have HX := Lib.hid hx
  clear hx
  obtain ⟨P, hP⟩ : ∃ P : Int, Hid (P = kvsN xs) := ⟨_, Lib.hid rfl⟩
  rw [← hP.out]
  go_enter Tryd.func24, Tryd.ntmps24
  go_wp2_with fail
  go_loopw [3, 4] (fun s i wr => ∃ (m : Int) (j : Nat), i = .int .i64 j ∧ j ≤ xs.length ∧ s = .int .i64 m ∧ Hid (m = ((tot (xs.take j) + 64 * j : Nat) : Int)) ∧ 0 ≤ m ∧ m ≤ 1048576 ∧ Below w.heap.size w wr) (fun _ i _ => xs.length - (intOf i).toNat)
  case atStart => exact ⟨0, 0, rfl, by omega, rfl, by show _ = _; simp [tot], by omega, by omega, Below.refl _ _⟩
  case round =>
    obtain ⟨m, j, rfl, hj, rfl, hm, hm0, hm1, hbw⟩ := hrel
    by_cases hlt : j < xs.length
    · obtain ⟨g, o, rfl, hg, C⟩ := (KvsAt.below hbw HX.out) j _ (List.getElem?_eq_getElem hlt)
      have HS := Lib.hid (tot_succ xs j hlt)
      have HT := Lib.hid (tot_take xs (j + 1))
      obtain ⟨x, hxx⟩ : ∃ x, Hid (xs[j] = x) := ⟨_, Lib.hid rfl⟩
      have HS' : Hid (tot (xs.take (j + 1)) = tot (xs.take j) + (x.k.size + x.n.size + x.v.size)) := by have h := HS.out; rw [hxx.out] at h; exact h
      rw [hxx.out] at C
      obtain ⟨c0, c1, c2, c3, c4⟩ := C
      have hsm : x.k.size + x.n.size + x.v.size ≤ 1048576 := by have := HS'.out; have := HT.out; omega
      obtain ⟨q, hq, hkb⟩ : ∃ q : Int, Hid (q = ((x.k.size + x.n.size + x.v.size + 64 : Nat) : Int)) ∧ Hid (∀ w, Calls Tryd.prog 15 #[.agg #[.string x.k, .int .i64 x.km, .string x.n, .int .i64 x.vm, .string x.v]] w fun e w' => e = .returned (.int .i64 q) ∧ Below w.heap.size w w') := ⟨_, Lib.hid rfl, Lib.hid fun w => kvBytes_any x.k x.n x.v x.km x.vm w hsm⟩
      have hq0 : 64 ≤ q := by have := hq.out; omega
      have hq1 : q ≤ 2000000 := by have := hq.out; omega
      clear HS hxx hsm
      go_wp2_with fail
      with_reducible refine (hkb.out _).mono ?_
      rintro e1 w1 ⟨rfl, hb1⟩
      have hb2 := hbw.trans (hb1.mono hbw.size)
      clear c0 c1 c2 c3 c4
      go_wp2_with fail
      all_goals first
        | (go_roundw
           case rel => exact ⟨m + q, j + 1, by go_num, by omega, by go_num, (by show _ = _; have := HS'.out; have := hm.out; have := hq.out; omega), by omega, by omega, hb2⟩
           case measure => simp [intOf]; omega)
        | (go_ret
           refine ⟨ret_int ?_, hb2⟩
           rw [hP.out]; unfold kvsN; rw [if_neg (by have := HS'.out; have := hm.out; have := HT.out; have := hq.out; omega)])
    · have h1 : Hid (m = ((tot xs + 64 * xs.length : Nat) : Int)) := by have h1 := hm.out; rw [List.take_of_length_le (by omega), show j = xs.length by omega] at h1; exact h1
      clear hm
      go_wp2_with fail
      go_ret
      refine ⟨ret_int ?_, hbw⟩
      rw [hP.out]; unfold kvsN; rw [if_pos (by have := h1.out; omega)]; exact h1.out
end Go.Proofs.YtooalmhelfaodaaDoor
