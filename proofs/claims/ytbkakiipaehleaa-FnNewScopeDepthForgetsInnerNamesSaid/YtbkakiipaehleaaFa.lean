/- FnNewScopeDepthForgetsInnerNames: the compiler's variables at any depth: push, lookup; names; the copy of the operations. -/
import Derived.Test.YtbkakiipaehleaaLawG
import Derived.Laws.IdiomStrings
namespace Go.Proofs.Ytbkakiipaehleaa
open Go.RowKit
set_option maxRecDepth 100000
set_option linter.unusedVariables false
def nmB (k : Nat) : ByteArray := ⟨#[36, UInt8.ofNat (97 + k)]⟩
def nmZ : ByteArray := ⟨#[36, 122]⟩
theorem nm_ne (k : Nat) (h : k < 16) : nmB k ≠ nmZ := by
  intro e
  have : ∀ k < 16, UInt8.ofNat (97 + k) ≠ 122 := by decide
  apply this k h
  have := congrArg ByteArray.data e
  unfold nmB nmZ at this
  simpa using this
theorem toList_eq_iff {a b : ByteArray} : ((a.toList == b.toList) = true) ↔ a = b := by
  rw [beq_iff_eq, ByteArray.toList_eq, ByteArray.toList_eq]
  exact ⟨Go.WideShapes.bytes_inj, fun h => by rw [h]⟩
def PG (w : World) (C : Nat) (cc : Array Value) (d n : Int) (vs : List Vr) : Prop := ∃ V ps, St w C cc V d n vs.length ps ∧ VarsIs w ps vs
theorem PG.below {w w' : World} {C : Nat} {cc : Array Value} {d n : Int} {vs : List Vr} (h : PG w C cc d n vs) (hb : Below w.heap.size w w') : PG w' C cc d n vs := by
  obtain ⟨V, ps, h1, h2⟩ := h
  exact ⟨V, ps, h1.belowAll hb, h2.below hb⟩
theorem PG.alloc {w : World} {C : Nat} {cc : Array Value} {d n : Int} {vs : List Vr} (h : PG w C cc d n vs) (o : Obj) : PG (w.alloc o) C cc d n vs := h.below ((Below.refl _ _).alloc (Nat.le_refl _) _)
theorem PG.drewN {w : World} {C : Nat} {cc : Array Value} {d n : Int} {vs : List Vr} (h : PG w C cc d n vs) (m : Nat) : PG (w.drewN m) C cc d n vs := h.below (below_drewN (Below.refl _ _) m)
theorem PG.lt {w : World} {C : Nat} {cc : Array Value} {d n : Int} {vs : List Vr} (h : PG w C cc d n vs) : C + 3 < w.heap.size ∧ C + 2 < w.heap.size := by
  obtain ⟨V, ps, h1, h2⟩ := h
  exact ⟨h1.l.lt, h1.s.lt⟩
theorem PG.far {w : World} {C : Nat} {cc : Array Value} {d n : Int} {vs : List Vr} (h : PG w C cc d n vs) {b i : Nat} {cs : Array Value} (hb : Blk w b 45 cs) (u : Value) : PG (w.setCell ⟨b, i, none⟩ u) C cc d n vs := by
  obtain ⟨V, ps, h1, h2⟩ := h
  refine ⟨V, ps, h1.far hb u, h2.1, fun i v hv => ?_⟩
  obtain ⟨p, h3, h4⟩ := h2.2 i v hv
  exact ⟨p, h3, h4.far (h4.ne_ hb (by decide)) u⟩
/-- behind a push: the variable was there, or it is new and the last -/
def PushG (C : Nat) (cc : Array Value) (d n : Int) (vs : List Vr) (x : ByteArray) (w : World) (e : Ending) (w' : World) : Prop :=
  ∃ (a b n' : Int) (vs' : List Vr), e = .returned (.agg #[.int .i64 a, .int .i64 b]) ∧ PG w' C cc d n' vs' ∧ Below C w w' ∧ Lib.OthersKept 153 (some (C + 2)) w w' ∧
    ((n' = n ∧ vs' = vs ∧ ∃ v ∈ vs, v.name = x) ∨ (n' = n + 1 ∧ vs' = vs ++ [⟨x, 1, n, d⟩] ∧ a = 1 ∧ b = n))
theorem push_gen (C : Nat) (cc : Array Value) (d n : Int) (vs : List Vr) (x : ByteArray) (w : World) (h8 : cc[8]? = some (.slice (some ⟨C + 3, 0, none⟩) 1 1)) (hp : PG w C cc d n vs) (hn : vs.length ≤ 10000000) (hn0 : 0 ≤ n) (hn1 : n ≤ 10000000) :
    Calls Try.prog 84 #[.pointer (some ⟨C, 0, none⟩), .string x] w (PushG C cc d n vs x w) := by
  obtain ⟨V, ps, hst, hv⟩ := hp
  obtain ⟨A, cap, rfl, hA⟩ := own_open hst.o
  have hC := hst.c.lt
  by_cases hr : vs.findIdx (hit x d) < vs.length
  · have hg : hit x d vs[vs.findIdx (hit x d)] = true := List.findIdx_getElem (w := hr)
    refine (push_loop C (C + 3) (C + 2) vs.length (vs.findIdx (hit x d)) A cap _ 1 d n ps vs x w (hst.top h8) hst.s hA hv rfl hn vs[vs.findIdx (hit x d)] (List.getElem?_eq_getElem hr) hg (fun j u hj hu => ?_)).mono ?_
    · have hjl : j < vs.length := by omega
      rw [List.getElem?_eq_getElem hjl] at hu
      injection hu with hu
      subst hu
      have := List.not_of_lt_findIdx hj
      simpa using this
    · rintro e w' ⟨rfl, hb⟩
      refine ⟨_, _, n, vs, rfl, ⟨_, ps, hst.belowAll hb, hv.below hb⟩, hb.mono (by omega), fun k o hk _ _ => (hb.block k (Array.getElem?_eq_some_iff.1 hk).1).trans hk, Or.inl ⟨rfl, rfl, vs[vs.findIdx (hit x d)], List.getElem_mem hr, ?_⟩⟩
      unfold hit at hg
      rw [Bool.and_eq_true] at hg
      exact toList_eq_iff.1 hg.1
  · have hno : ∀ (j : Nat) (u : Vr), vs[j]? = some u → hit x d u = false := by
      intro j u hu
      have hjl := lt_of_some hu
      have h1 : j < vs.findIdx (hit x d) := by omega
      have := List.not_of_lt_findIdx h1
      rw [List.getElem?_eq_getElem hjl] at hu
      injection hu with hu
      subst hu
      simpa using this
    refine (push_new C C (C + 3) (C + 2) vs.length A cap _ 1 d n ps vs x w (hst.top h8) hst.s hA hv rfl hn hno hst.o (by omega) hn0 hn1).mono ?_
    rintro e w' ⟨g, cap', p, rfl, h1, h2, h3, h4, h5, h6⟩
    refine ⟨1, n, n + 1, vs ++ [⟨x, 1, n, d⟩], rfl, ⟨.slice (some ⟨g, 0, none⟩) (vs.length + 1) cap', ps ++ [.pointer (some ⟨p, 0, none⟩)], ?_, (hv.kept hst.s h5).snoc h3⟩, h4, h5, Or.inr ⟨rfl, rfl, rfl, rfl⟩⟩
    rw [List.length_append]
    exact hst.next h1 h2 h5
set_option maxHeartbeats 1000000 in
theorem zz_push58 (C : Nat) (cc : Array Value) (d n : Int) (vs : List Vr) (x : ByteArray) (w : World) (h8 : cc[8]? = some (.slice (some ⟨C + 3, 0, none⟩) 1 1)) (hp : PG w C cc d n vs) (hn : vs.length ≤ 10000000) (hn0 : 0 ≤ n) (hn1 : n ≤ 10000000) :
    Calls Try.prog 51 #[.pointer (some ⟨C, 0, none⟩), .string x] w (PushG C cc d n vs x w) := by
  have hSl := hp.lt.2
  have hbx : Below C w (w.alloc (.cells #[.int .i64 0, .int .i64 0] 45)) := (Below.refl _ _).alloc (by omega) _
  have hkx : Lib.OthersKept 153 (some (C + 2)) w (w.alloc (.cells #[.int .i64 0, .int .i64 0] 45)) := (Lib.OthersKept.refl _ _ w).alloc _
  have hc := Lib.hid (push_gen C cc d n vs x (w.alloc (.cells #[.int .i64 0, .int .i64 0] 45)) h8 (hp.alloc _) hn hn0 hn1)
  have hr := Blk.new w 45 #[.int .i64 0, .int .i64 0]
  clear hp h8
  go_enter Try.func51, Try.ntmps51
  go_wp2_with fail
  with_reducible refine (hc.out).mono ?_
  rintro e w1 ⟨a, b, n', vs', rfl, h1, h4, h5, h6⟩
  have hr1 := hr.kept h5 (by intro e; injection e with e; omega) (by decide)
  have r0 : w1.cell? ⟨w.heap.size, 0, none⟩ = some (.int .i64 0) := hr1.cell 0
  have r1 : w1.cell? ⟨w.heap.size, 1, none⟩ = some (.int .i64 0) := hr1.cell 1
  have q0 := hr1.frozen 0
  have q1 := hr1.frozen 1
  have H1 := Lib.hid h1
  have H6 := Lib.hid h6
  have HR := Lib.hid hr1
  clear h1 h6 hr hr1
  go_wp2_with fail
  refine bodyPost_ret (v := .agg #[.int .i64 a, .int .i64 b]) (by simp [results, Try.results51, go_sem, r0, r1]) rfl ?_
  refine ⟨a, b, n', vs', rfl, (H1.out.far HR.out _).far (HR.out.set_ 0 _) _, ((hbx.trans h4).setCell (p := ⟨w.heap.size, 0, none⟩) (by show C ≤ w.heap.size; omega) _).setCell (p := ⟨w.heap.size, 1, none⟩) (by show C ≤ w.heap.size; omega) _, ?_, H6.out⟩
  intro i o hi hne3 hcc
  have h1 := (hkx.trans h5) i o hi hne3 hcc
  have hil : i < w.heap.size := (Array.getElem?_eq_some_iff.1 hi).1
  rw [Below.heap_setCell _ _ _ _ (by show i ≠ w.heap.size; omega), Below.heap_setCell _ _ _ _ (by show i ≠ w.heap.size; omega)]
  exact h1
/-- behind lookupVariable -/
def Hit87 (a b : Int) (w : World) (e : Ending) (w' : World) : Prop := e = .returned (.tuple #[.agg #[.int .i64 a, .int .i64 b], .nilIface]) ∧ Below w.heap.size w w'
def Miss87 (w : World) (e : Ending) (w' : World) : Prop := ∃ p, e = .returned (.tuple #[.agg #[.int .i64 0, .int .i64 0], .iface 156 (.pointer (some p))]) ∧ Below w.heap.size w w'
set_option maxHeartbeats 8000000 in
theorem look_hit (C SL S k i : Nat) (A : Option Addr) (cap : Nat) (F : Value) (id d n : Int) (ps : List Value) (vs : List Vr) (nm : ByteArray) (w : World) (ht : Top w C SL S) (hS : Blk w S 127 #[.slice A k cap, F, .int .i64 id, .int .i64 d, .int .i64 n])
    (hA : ∀ j u, ps[j]? = some u → ∃ g, A = some ⟨g, 0, none⟩ ∧ w.cell? ⟨g, j, none⟩ = some u) (hv : VarsIs w ps vs) (hk : vs.length = k) (hk1 : k ≤ 10000000) (v : Vr) (hi : vs[i]? = some v) (hh : (v.name.toList == nm.toList) = true) (hno : ∀ j u, i < j → vs[j]? = some u → (u.name.toList == nm.toList) = false) :
    Calls Try.prog 87 #[.pointer (some ⟨C, 0, none⟩), .string nm] w (Hit87 v.a v.b w) := by
  obtain ⟨t1, t2⟩ := ht
  have c0 : w.cell? ⟨S, 0, none⟩ = some (.slice A k cap) := hS.cell 0
  have hSl := hS.lt
  have hCl : C < w.heap.size := World.block_lt_of_cell? w _ t1
  have hLl : SL < w.heap.size := World.block_lt_of_cell? w _ t2
  have hik : i < k := by have := lt_of_some hi; omega
  have HA := Lib.hid hA
  have HV := Lib.hid hv
  have HI := Lib.hid hi
  have HH := Lib.hid hh
  have HN := Lib.hid hno
  have HK := Lib.hid hk
  clear hA hv hi hh hno hk hS
  have hb0 : Below w.heap.size w (w.alloc (.cells #[.int .i64 0, .int .i64 0] 45)) := (Below.refl _ _).alloc (Nat.le_refl _) _
  go_enter Try.func87, Try.ntmps87
  go_wp2_with fail
  refine wp_loop_rounds 1 ?_
  rw [rounds_succ]
  go_wp2_with fail
  go_loop [8] (fun x => ∃ (j : Nat), x = .int .i64 j ∧ i ≤ j ∧ j < k) (fun x => (intOf x).toNat)
  case atStart => exact ⟨k - 1, by go_num, by omega, by omega⟩
  case round =>
    obtain ⟨j, rfl, hij, hjk⟩ := hrel
    obtain ⟨u, hu⟩ : ∃ u, (vs[j]? = some u) := ⟨_, List.getElem?_eq_getElem (by have := HK.out; omega)⟩
    obtain ⟨p, hp1, hp2⟩ := HV.out.2 j u hu
    obtain ⟨g, rfl, hg⟩ := HA.out j _ hp1
    have hpl := hp2.lt
    have hgl : g < w.heap.size := World.block_lt_of_cell? w _ hg
    have x0 : w.cell? ⟨p, 0, none⟩ = some (.string u.name) := hp2.cell 0
    have x1 : w.cell? ⟨p, 1, none⟩ = some (.int .i64 u.a) := hp2.cell 1
    have x2 : w.cell? ⟨p, 2, none⟩ = some (.int .i64 u.b) := hp2.cell 2
    have HU := Lib.hid hu
    clear hp1 hp2 hu
    have j0 : (0 : Int) ≤ j := by omega
    have j1 : (j : Int) < k := by omega
    by_cases hji : i < j
    · have hf := HN.out j u hji HU.out
      go_wp2_with fail
      go_round
      case rel => exact ⟨j - 1, by go_num, by omega, by omega⟩
      case measure => simp [intOf]; omega
    · have hje : j = i := by omega
      have huv : u = v := by have h1 := HU.out; have h2 := HI.out; rw [hje, h2] at h1; injection h1 with h1; exact h1.symm
      subst huv
      have hf := HH.out
      clear hje
      go_wp2_with fail
      refine bodyPost_ret (v := .tuple #[.agg #[.int .i64 u.a, .int .i64 u.b], .nilIface]) (by simp [results, Try.results87, go_sem]) rfl ?_
      refine ⟨rfl, ?_⟩
      exact (Below.refl _ _).alloc (Nat.le_refl _) _
set_option maxHeartbeats 8000000 in
theorem look_miss (C SL S k : Nat) (A : Option Addr) (cap : Nat) (F : Value) (id d n : Int) (ps : List Value) (vs : List Vr) (nm : ByteArray) (w : World) (ht : Top w C SL S) (hS : Blk w S 127 #[.slice A k cap, F, .int .i64 id, .int .i64 d, .int .i64 n])
    (hA : ∀ j u, ps[j]? = some u → ∃ g, A = some ⟨g, 0, none⟩ ∧ w.cell? ⟨g, j, none⟩ = some u) (hv : VarsIs w ps vs) (hk : vs.length = k) (hk1 : k ≤ 10000000) (hno : ∀ (j : Nat) (u : Vr), vs[j]? = some u → (u.name.toList == nm.toList) = false) :
    Calls Try.prog 87 #[.pointer (some ⟨C, 0, none⟩), .string nm] w (Miss87 w) := by
  obtain ⟨t1, t2⟩ := ht
  have c0 : w.cell? ⟨S, 0, none⟩ = some (.slice A k cap) := hS.cell 0
  have hSl := hS.lt
  have hCl : C < w.heap.size := World.block_lt_of_cell? w _ t1
  have hLl : SL < w.heap.size := World.block_lt_of_cell? w _ t2
  have HA := Lib.hid hA
  have HV := Lib.hid hv
  have HN := Lib.hid hno
  have HK := Lib.hid hk
  clear hA hv hno hk hS
  have hb0 : Below w.heap.size w (w.alloc (.cells #[.int .i64 0, .int .i64 0] 45)) := (Below.refl _ _).alloc (Nat.le_refl _) _
  go_enter Try.func87, Try.ntmps87
  go_wp2_with fail
  refine wp_loop_rounds 2 ?_
  rw [rounds_succ]
  go_wp2_with fail
  go_loop [8] (fun x => ∃ (j : Int), x = .int .i64 j ∧ (j = -1 ∨ ∃ m : Nat, j = m ∧ m < k)) (fun x => (intOf x + 1).toNat)
  case atStart => exact ⟨(k : Int) - 1, by go_num, by
    by_cases hz : k = 0
    · exact Or.inl (by omega)
    · exact Or.inr ⟨k - 1, by omega, by omega⟩⟩
  case round =>
    obtain ⟨j, rfl, rfl | ⟨m, rfl, hm⟩⟩ := hrel
    · go_wp2_with fail
      rw [rounds_succ]
      go_wp2_with fail
      refine bodyPost_ret (v := .tuple #[.agg #[.int .i64 0, .int .i64 0], .iface 156 (.pointer (some ⟨w.heap.size + 1, 0, none⟩))]) (by simp [results, Try.results87, go_sem]) rfl ?_
      refine ⟨_, rfl, ?_⟩
      exact hb0.alloc hb0.size _
    · obtain ⟨u, hu⟩ : ∃ u, (vs[m]? = some u) := ⟨_, List.getElem?_eq_getElem (by have := HK.out; omega)⟩
      obtain ⟨p, hp1, hp2⟩ := HV.out.2 m u hu
      obtain ⟨g, rfl, hg⟩ := HA.out m _ hp1
      have hpl := hp2.lt
      have hgl : g < w.heap.size := World.block_lt_of_cell? w _ hg
      have x0 : w.cell? ⟨p, 0, none⟩ = some (.string u.name) := hp2.cell 0
      have hf := HN.out m u hu
      clear hp1 hp2 hu
      have j0 : (0 : Int) ≤ m := by omega
      have j1 : (m : Int) < k := by omega
      go_wp2_with fail
      go_round
      case rel => exact ⟨(m : Int) - 1, by go_num, by
        by_cases hz : m = 0
        · exact Or.inl (by omega)
        · exact Or.inr ⟨m - 1, by omega, by omega⟩⟩
      case measure => simp [intOf] <;> omega
end Go.Proofs.Ytbkakiipaehleaa
