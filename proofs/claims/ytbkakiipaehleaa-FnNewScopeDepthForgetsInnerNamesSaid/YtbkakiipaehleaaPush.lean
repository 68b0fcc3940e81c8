/- pushVariable: the variable of that name and depth that is there, or a new one. -/
import Derived.Test.YtbkakiipaehleaaLawE
namespace Go.Proofs.Ytbkakiipaehleaa
open Go.RowKit
set_option maxRecDepth 100000
set_option linter.unusedVariables false
structure Vr where
  name : ByteArray
  a : Int
  b : Int
  d : Int
/-- the pointers lead to these variables -/
def VarsIs (w : World) (ps : List Value) (vs : List Vr) : Prop := ps.length = vs.length ∧ ∀ (i : Nat) (v : Vr), vs[i]? = some v → ∃ p : Nat, ps[i]? = some (Value.pointer (some ⟨p, 0, none⟩)) ∧ Blk w p 155 #[.string v.name, .int .i64 v.a, .int .i64 v.b, .int .i64 v.d]
theorem VarsIs.below {w w' : World} {ps : List Value} {vs : List Vr} (h : VarsIs w ps vs) (hb : Below w.heap.size w w') : VarsIs w' ps vs :=
  ⟨h.1, fun i v hv => by
    obtain ⟨p, h1, h2⟩ := h.2 i v hv
    exact ⟨p, h1, h2.below hb h2.lt⟩⟩
theorem VarsIs.kept {w w' : World} {ps : List Value} {vs : List Vr} {S : Nat} {cs : Array Value} (h : VarsIs w ps vs) (hS : Blk w S 127 cs) (hk : Lib.OthersKept 153 (some S) w w') : VarsIs w' ps vs :=
  ⟨h.1, fun i v hv => by
    obtain ⟨p, h1, h2⟩ := h.2 i v hv
    exact ⟨p, h1, h2.kept hk (fun e => h2.ne_ hS (by decide) (by injection e)) (by decide)⟩⟩
theorem VarsIs.snoc {w : World} {ps : List Value} {vs : List Vr} {p : Nat} {v : Vr} (h : VarsIs w ps vs) (hp : Blk w p 155 #[.string v.name, .int .i64 v.a, .int .i64 v.b, .int .i64 v.d]) : VarsIs w (ps ++ [.pointer (some ⟨p, 0, none⟩)]) (vs ++ [v]) := by
  refine ⟨by simp [h.1], fun i u hu => ?_⟩
  by_cases hi : i < vs.length
  · rw [List.getElem?_append_left hi] at hu
    obtain ⟨q, h1, h2⟩ := h.2 i u hu
    exact ⟨q, by rw [List.getElem?_append_left (by rw [h.1]; exact hi)]; exact h1, h2⟩
  · have hlt := lt_of_some hu
    simp at hlt
    have hie : i = vs.length := by omega
    subst hie
    simp at hu
    subst hu
    exact ⟨p, by rw [← h.1]; simp, hp⟩
theorem St.belowAll {w w' : World} {C : Nat} {cc : Array Value} {V : Value} {d n : Int} {k : Nat} {ps : List Value} (h : St w C cc V d n k ps) (hb : Below w.heap.size w w') : St w' C cc V d n k ps :=
  ⟨h.c.below hb h.c.lt, h.l.below hb h.l.lt, h.s.below hb h.s.lt, owns_below h.o hb⟩
/-- the variable that pushVariable finds: the first of that name and depth -/
def hit (nm : ByteArray) (d : Int) (v : Vr) : Bool := (v.name.toList == nm.toList) && (v.d == d)
set_option maxHeartbeats 8000000 in
theorem push_loop (C SL S k i : Nat) (A : Option Addr) (cap : Nat) (F : Value) (id d n : Int) (ps : List Value) (vs : List Vr) (nm : ByteArray) (w : World) (ht : Top w C SL S) (hS : Blk w S 127 #[.slice A k cap, F, .int .i64 id, .int .i64 d, .int .i64 n])
    (hA : ∀ j u, ps[j]? = some u → ∃ g, A = some ⟨g, 0, none⟩ ∧ w.cell? ⟨g, j, none⟩ = some u) (hv : VarsIs w ps vs) (hk : vs.length = k) (hk1 : k ≤ 10000000) (v : Vr) (hi : vs[i]? = some v) (hh : hit nm d v = true) (hno : ∀ j u, j < i → vs[j]? = some u → hit nm d u = false) :
    Calls Try.prog 84 #[.pointer (some ⟨C, 0, none⟩), .string nm] w fun e w' => e = .returned (.agg #[.int .i64 v.a, .int .i64 v.b]) ∧ Below w.heap.size w w' := by
  obtain ⟨t1, t2⟩ := ht
  have c0 : w.cell? ⟨S, 0, none⟩ = some (.slice A k cap) := hS.cell 0
  have c3 : w.cell? ⟨S, 3, none⟩ = some (.int .i64 d) := hS.cell 3
  have hSl := hS.lt
  have hCl : C < w.heap.size := World.block_lt_of_cell? w _ t1
  have hLl : SL < w.heap.size := World.block_lt_of_cell? w _ t2
  have hik : i < k := by have := lt_of_some hi; omega
  have HA := Lib.hid hA
  have HV := Lib.hid hv
  have HI := Lib.hid hi
  have HH := Lib.hid hh
  have HN := Lib.hid hno
  have HK := Lib.hid hk
  clear hA hv hi hh hno hk hS
  have hb0 : Below w.heap.size w (w.alloc (.cells #[.int .i64 0, .int .i64 0] 45)) := (Below.refl _ _).alloc (Nat.le_refl _) _
  go_enter Try.func84, Try.ntmps84
  go_wp2_with fail
  go_quiet (fail)
  go_wp2_with fail
  go_loopw [25] (fun x wr => ∃ (j m : Nat), x = .int .i64 j ∧ j ≤ i ∧ wr = (w.alloc (.cells #[.int .i64 0, .int .i64 0] 45)).drewN m) (fun x _ => i - (intOf x).toNat)
  case atStart => exact ⟨0, nq, rfl, by omega, rfl⟩
  case round =>
    obtain ⟨j, m, rfl, hj, rfl⟩ := hrel
    obtain ⟨u, hu⟩ : ∃ u, (vs[j]? = some u) := ⟨_, List.getElem?_eq_getElem (by have := HK.out; omega)⟩
    obtain ⟨p, hp1, hp2⟩ := HV.out.2 j u hu
    obtain ⟨g, rfl, hg⟩ := HA.out j _ hp1
    have hpl := hp2.lt
    have hgl : g < w.heap.size := World.block_lt_of_cell? w _ hg
    have x0 : w.cell? ⟨p, 0, none⟩ = some (.string u.name) := hp2.cell 0
    have x1 : w.cell? ⟨p, 1, none⟩ = some (.int .i64 u.a) := hp2.cell 1
    have x2 : w.cell? ⟨p, 2, none⟩ = some (.int .i64 u.b) := hp2.cell 2
    have x3 : w.cell? ⟨p, 3, none⟩ = some (.int .i64 u.d) := hp2.cell 3
    have HU := Lib.hid hu
    clear hp1 hp2 hu
    have j0 : (0 : Int) ≤ j := by omega
    have j1 : (j : Int) < k := by omega
    by_cases hji : j < i
    · have hf := HN.out j u hji HU.out
      unfold hit at hf
      by_cases hnm : (u.name.toList == nm.toList) = true
      · have hd : (u.d == d) = false := by rw [hnm] at hf; simpa using hf
        clear hf
        go_wp2_with fail
        go_quiet (fail)
        go_wp2_with fail
        go_roundw
        case rel => exact ⟨j + 1, _, by go_num, by omega, rfl⟩
        case measure => simp [intOf]; omega
      · rw [Bool.not_eq_true] at hnm
        clear hf
        go_wp2_with fail
        go_quiet (fail)
        go_wp2_with fail
        go_roundw
        case rel => exact ⟨j + 1, _, by go_num, by omega, rfl⟩
        case measure => simp [intOf]; omega
    · have hje : j = i := by omega
      have huv : u = v := by have h1 := HU.out; have h2 := HI.out; rw [hje, h2] at h1; injection h1 with h1; exact h1.symm
      subst huv
      have hf := HH.out
      unfold hit at hf
      rw [Bool.and_eq_true] at hf
      obtain ⟨hnm, hd⟩ := hf
      clear hje
      go_wp2_with fail
      go_quiet (fail)
      go_wp2_with fail
      refine bodyPost_ret (v := .agg #[.int .i64 u.a, .int .i64 u.b]) (by simp [results, Try.results84, go_sem]) rfl ?_
      refine ⟨rfl, ?_⟩
      exact ((below_drewN hb0 _).setCell (p := ⟨w.heap.size, 0, none⟩) (Nat.le_refl _) _).setCell (p := ⟨w.heap.size, 1, none⟩) (Nat.le_refl _) _
set_option maxHeartbeats 8000000 in
theorem push_new (base C SL S k : Nat) (A : Option Addr) (cap : Nat) (F : Value) (id d n : Int) (ps : List Value) (vs : List Vr) (nm : ByteArray) (w : World) (ht : Top w C SL S) (hS : Blk w S 127 #[.slice A k cap, F, .int .i64 id, .int .i64 d, .int .i64 n])
    (hA : ∀ j u, ps[j]? = some u → ∃ g, A = some ⟨g, 0, none⟩ ∧ w.cell? ⟨g, j, none⟩ = some u) (hv : VarsIs w ps vs) (hk : vs.length = k) (hk1 : k ≤ 10000000) (hno : ∀ (j : Nat) (u : Vr), vs[j]? = some u → hit nm d u = false)
    (hown : w.ownsRow base 153 1 (.slice A k cap) k ps) (hb : base ≤ S) (hn0 : 0 ≤ n) (hn1 : n ≤ 10000000) :
    Calls Try.prog 84 #[.pointer (some ⟨C, 0, none⟩), .string nm] w (Created base S k F id d n ps nm w) := by
  have hSl := hS.lt
  have hbx : Below base w (w.alloc (.cells #[.int .i64 0, .int .i64 0] 45)) := (Below.refl _ _).alloc (by omega) _
  have hkx : Lib.OthersKept 153 (some S) w (w.alloc (.cells #[.int .i64 0, .int .i64 0] 45)) := (Lib.OthersKept.refl _ _ w).alloc _
  have hc := Lib.hid fun m => create_any base C SL S k (.slice A k cap) F id d n ps nm ((w.alloc (.cells #[.int .i64 0, .int .i64 0] 45)).drewN m) ⟨(World.cell?_alloc_lt w _ _ (World.block_lt_of_cell? w _ ht.c)).trans ht.c, (World.cell?_alloc_lt w _ _ (World.block_lt_of_cell? w _ ht.l)).trans ht.l⟩ (hS.alloc _) (hown.alloc _) hb hk1 hn0 hn1
  have hr := Lib.hid (Blk.new w 45 #[.int .i64 0, .int .i64 0])
  obtain ⟨t1, t2⟩ := ht
  have c0 : w.cell? ⟨S, 0, none⟩ = some (.slice A k cap) := hS.cell 0
  have c3 : w.cell? ⟨S, 3, none⟩ = some (.int .i64 d) := hS.cell 3
  have hCl : C < w.heap.size := World.block_lt_of_cell? w _ t1
  have hLl : SL < w.heap.size := World.block_lt_of_cell? w _ t2
  have HA := Lib.hid hA
  have HV := Lib.hid hv
  have HN := Lib.hid hno
  have HK := Lib.hid hk
  have HBX := Lib.hid hbx
  have HKX := Lib.hid hkx
  clear hA hv hno hk hS hown hbx hkx
  go_enter Try.func84, Try.ntmps84
  go_wp2_with fail
  go_quiet (fail)
  go_wp2_with fail
  go_loopw [25] (fun x wr => ∃ (j m : Nat), x = .int .i64 j ∧ j ≤ k ∧ wr = (w.alloc (.cells #[.int .i64 0, .int .i64 0] 45)).drewN m) (fun x _ => k - (intOf x).toNat)
  case atStart => exact ⟨0, nq, rfl, by omega, rfl⟩
  case round =>
    obtain ⟨j, m, rfl, hj, rfl⟩ := hrel
    by_cases hjk : j < k
    · obtain ⟨u, hu⟩ : ∃ u, (vs[j]? = some u) := ⟨_, List.getElem?_eq_getElem (by have := HK.out; omega)⟩
      obtain ⟨p, hp1, hp2⟩ := HV.out.2 j u hu
      obtain ⟨g, rfl, hg⟩ := HA.out j _ hp1
      have hpl := hp2.lt
      have hgl : g < w.heap.size := World.block_lt_of_cell? w _ hg
      have x0 : w.cell? ⟨p, 0, none⟩ = some (.string u.name) := hp2.cell 0
      have x1 : w.cell? ⟨p, 1, none⟩ = some (.int .i64 u.a) := hp2.cell 1
      have x2 : w.cell? ⟨p, 2, none⟩ = some (.int .i64 u.b) := hp2.cell 2
      have x3 : w.cell? ⟨p, 3, none⟩ = some (.int .i64 u.d) := hp2.cell 3
      have j0 : (0 : Int) ≤ j := by omega
      have j1 : (j : Int) < k := by omega
      have hf := HN.out j u hu
      clear hp1 hp2 hu
      unfold hit at hf
      by_cases hnm : (u.name.toList == nm.toList) = true
      · have hd : (u.d == d) = false := by rw [hnm] at hf; simpa using hf
        clear hf
        go_wp2_with fail
        go_quiet (fail)
        go_wp2_with fail
        go_roundw
        case rel => exact ⟨j + 1, _, by go_num, by omega, rfl⟩
        case measure => simp [intOf]; omega
      · rw [Bool.not_eq_true] at hnm
        clear hf
        go_wp2_with fail
        go_quiet (fail)
        go_wp2_with fail
        go_roundw
        case rel => exact ⟨j + 1, _, by go_num, by omega, rfl⟩
        case measure => simp [intOf]; omega
    · have hje : j = k := by omega
      subst hje
      go_wp2_with fail
      with_reducible refine (hc.out m).mono ?_
      rintro e w1 ⟨g, cap1, p, rfl, h1, h2, h3, h4, h5, h6⟩
      have hr1 := (hr.out.drewN m).kept h5 (by intro e; injection e with e; omega) (by decide)
      have r0 : w1.cell? ⟨w.heap.size, 0, none⟩ = some (.int .i64 0) := hr1.cell 0
      have r1 : w1.cell? ⟨w.heap.size, 1, none⟩ = some (.int .i64 0) := hr1.cell 1
      have q0 := hr1.frozen 0
      have q1 := hr1.frozen 1
      have nR1 := own_blk_ne h2 hr1 (by decide)
      have H1 := Lib.hid h1
      have H2 := Lib.hid h2
      have H3 := Lib.hid h3
      simp [World.drewN] at h6
      clear h1 h2 h3 hr1
      go_wp2_with fail
      refine bodyPost_ret (v := .agg #[.int .i64 id, .int .i64 n]) (by simp [results, Try.results84, go_sem, r0, r1]) rfl ?_
      refine ⟨g, cap1, p, rfl, (H1.out.far (p := ⟨w.heap.size, 0, none⟩) (by show S ≠ w.heap.size; omega) _).far (p := ⟨w.heap.size, 1, none⟩) (by show S ≠ w.heap.size; omega) _, owns_far (owns_far H2.out (p := ⟨w.heap.size, 0, none⟩) nR1 _) (p := ⟨w.heap.size, 1, none⟩) nR1 _, (H3.out.far (p := ⟨w.heap.size, 0, none⟩) (by show p ≠ w.heap.size; omega) _).far (p := ⟨w.heap.size, 1, none⟩) (by show p ≠ w.heap.size; omega) _, (((below_drewN HBX.out m).trans h4).setCell (p := ⟨w.heap.size, 0, none⟩) (by show base ≤ w.heap.size; omega) _).setCell (p := ⟨w.heap.size, 1, none⟩) (by show base ≤ w.heap.size; omega) _, ?_, by omega⟩
      intro i o hi hne3 hcc
      have h1 := (Lib.OthersKept.trans (show Lib.OthersKept 153 (some S) w ((w.alloc (.cells #[.int .i64 0, .int .i64 0] 45)).drewN m) from HKX.out) h5) i o hi hne3 hcc
      have hil : i < w.heap.size := (Array.getElem?_eq_some_iff.1 hi).1
      rw [Below.heap_setCell _ _ _ _ (by show i ≠ w.heap.size; omega), Below.heap_setCell _ _ _ _ (by show i ≠ w.heap.size; omega)]
      exact h1
end Go.Proofs.Ytbkakiipaehleaa
