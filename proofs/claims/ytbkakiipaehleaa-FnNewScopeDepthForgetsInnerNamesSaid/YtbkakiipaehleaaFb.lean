/- FnNewScopeDepthForgetsInnerNames: the compiler of n001_58, its readers, names, newScopeDepth and what it returns. -/
import Derived.Test.YtbkakiipaehleaaFa
namespace Go.Proofs.Ytbkakiipaehleaa
open Go.RowKit
set_option maxRecDepth 100000
set_option linter.unusedVariables false
set_option maxHeartbeats 1000000 in
theorem newC58 (w : World) : Calls Try.prog 49 #[] w (NewC w) := by
  go_enter Try.func49, Try.ntmps49
  go_wp2
  go_ret
  exact ⟨_, rfl, (((Blk.new w _ _).alloc _).alloc _).alloc _, rfl, rfl, rfl, Blk.at_ _ _ (by simp), (Blk.at_ _ _ (by simp)).alloc _, ((((Below.refl _ _).alloc (Nat.le_refl _) _).alloc (by simp) _).alloc (by simp; omega) _).alloc (by simp; omega) _, by simp⟩
theorem top58 (C SL S : Nat) (w : World) (ht : Top w C SL S) : Calls Try.prog 50 #[.pointer (some ⟨C, 0, none⟩)] w fun e w' => e = .returned (.pointer (some ⟨S, 0, none⟩)) ∧ ∃ n, w' = w.drewN n := by
  obtain ⟨t1, t2⟩ := ht
  go_enter Try.func50, Try.ntmps50
  go_wp2_with fail
  go_quiet (fail)
  go_wp2_with fail
  go_ret
  exact ⟨rfl, _, rfl⟩
theorem cnt58 (S : Nat) (n : Int) (w : World) (c4 : w.cell? ⟨S, 4, none⟩ = some (.int .i64 n)) : Calls Try.prog 39 #[.pointer (some ⟨S, 0, none⟩)] w fun e w' => e = .returned (.int .i64 n) ∧ w = w' := by
  go_enter Try.func39, Try.ntmps39
  go_wp2_with fail
  go_ret
  exact ⟨rfl, rfl⟩
theorem name58 (k : Nat) (w : World) (hk : k < 16) : Calls Try.prog 53 #[.int .i64 k] w fun e w' => e = .returned (.string (nmB k)) ∧ Below w.heap.size w w' := by
  have hcv : (convert 22 9 (.slice (some ⟨w.heap.size, 0, none⟩) 2 2)).run Try.prog (w.alloc (.cells #[.int .u8 36, .int .u8 (97 + (k : Int))] 5)) = .ok (.string (nmB k)) (w.alloc (.cells #[.int .u8 36, .int .u8 (97 + (k : Int))] 5)) := by
    refine run_convert_bytes_back (P := Try.prog) _ 22 9 5 ⟨w.heap.size, 0, none⟩ 2 [36, UInt8.ofNat (97 + k)] Try.underlying22 Try.underlying5 Try.underlying9 fun j hj => ?_
    have hB := Blk.new w 5 #[.int .u8 36, .int .u8 (97 + (k : Int))]
    match j, hj with
    | 0, _ => exact hB.cell 0
    | 1, _ =>
      have h2 : ∀ k < 16, (UInt8.ofNat (97 + k)).toNat = 97 + k := by decide
      refine (hB.cell 1).trans ?_
      show some (Value.int .u8 (97 + (k : Int))) = some (Value.int .u8 ((UInt8.ofNat (97 + k)).toNat : Int))
      rw [h2 k hk]
      simp
  have hw : IntKind.u8.wrap (97 + (k : Int)) = 97 + (k : Int) := by
    have : ∀ k < 16, IntKind.u8.wrap (97 + ((k : Nat) : Int)) = 97 + (k : Int) := by decide
    exact this k hk
  have k1 : (97 : Int) + k < 256 := by omega
  go_enter Try.func53, Try.ntmps53
  go_wp2_with fail
  go_ret
  exact ⟨rfl, (Below.refl _ _).alloc (Nat.le_refl _) _⟩
theorem info_cloneU8 : (Try.prog.info? 5).map (fun i => (i.zero, i.size, i.bytes)) = some (some (.int .u8 0), 1, 1) := by kernel_rfl
theorem cloneU8_nil (w : World) : Calls Try.prog 48 #[.slice none 0 0] w (Copied [] w) := by
  have hnil : ∀ W : World, (binOp .eql 22 (.slice none 0 0) (.slice none 0 0)).run Try.prog W = .ok (.bool true) W := fun W => Lib.run_eql_slice_nil W _ 5 none 0 0 0 0 Try.underlying22
  go_enter Try.func48, Try.ntmps48
  go_wp2_with fail
  go_ret
  exact ⟨none, 0, rfl, fun i x hx => by simp at hx, Below.refl _ _⟩
set_option maxHeartbeats 4000000 in
theorem cloneU8_some (a : Addr) (c : Nat) (xs : List Value) (w : World) (hx : RdAt w w.heap.size (some a) xs) (h1 : ∀ x ∈ xs, ∃ y, x = .int .u8 y) (hn : xs.length ≤ 1048576) :
    Calls Try.prog 48 #[.slice (some a) xs.length c] w (Copied xs w) := by
  have HX := Lib.hid hx
  have H1 := Lib.hid h1
  clear hx h1
  obtain ⟨i0, hi, hz0, hz1, hz2⟩ := info_parts info_cloneU8
  have hmk : ∀ W : World, (Instr.makeSlice 22 (.int .i64 (xs.length : Int)) (.int .i64 (xs.length : Int))).run Try.prog W = .ok (.slice (some ⟨W.heap.size, 0, none⟩) xs.length xs.length) (W.alloc (.cells (madeCells #[.int .u8 0] (xs.length * 1)) 5)) := by
    intro W
    have h := run_make_rowN (P := Try.prog) 22 5 i0 _ Try.underlying22 hi hz0 .i64 .i64 xs.length xs.length (Nat.le_refl _) (by rw [hz2]; omega) (by omega) W
    rw [hz1] at h
    exact h
  clear hi hz0 hz1 hz2 i0
  have hnil : ∀ W : World, (binOp .eql 22 (.slice (some a) xs.length c) (.slice none 0 0)).run Try.prog W = .ok (.bool false) W := fun W => Lib.run_eql_slice_nil W _ 5 (some a) xs.length c 0 0 Try.underlying22
  go_enter Try.func48, Try.ntmps48
  go_wp2_with fail
  clear hmk hnil
  go_loopw [4] (fun i wr => ∃ (j : Nat) (arr : Array Value), i = .int .i64 j ∧ j ≤ xs.length ∧ Blk wr w.heap.size 5 arr ∧ Hid (arr.size = xs.length) ∧ Fill1 arr xs j ∧ Below w.heap.size w wr) (fun i _ => xs.length - (intOf i).toNat)
  case atStart => exact ⟨0, _, rfl, by omega, Blk.new _ _ _, by show _ = _; rw [size_madeCells], fun i x hi => absurd hi (by omega), (Below.refl _ _).alloc (Nat.le_refl _) _⟩
  case round =>
    obtain ⟨j, arr, rfl, hj, hB, hsz, hfl, hbw⟩ := hrel
    by_cases hlt : j < xs.length
    · obtain ⟨g, o, hA, hg, c0⟩ := (RdAt.below hbw HX.out) j _ (List.getElem?_eq_getElem hlt)
      injection hA with hA
      subst hA
      have HG := Lib.hid (List.getElem?_eq_getElem hlt)
      obtain ⟨x, hxx⟩ : ∃ x, Hid (xs[j] = x) := ⟨_, Lib.hid rfl⟩
      have hv := H1.out _ (List.getElem_mem hlt)
      rw [hxx.out] at c0 HG hv
      obtain ⟨y, rfl⟩ := hv
      have hz : j < arr.size := by rw [hsz.out]; omega
      obtain ⟨o0, q0⟩ : ∃ u, wr.cell? ⟨w.heap.size, j, none⟩ = some u := ⟨_, (hB.cell _).trans (Array.getElem?_eq_getElem (by omega))⟩
      have f0 := hB.frozen j
      have HF := Lib.hid hfl
      have HBk := Lib.hid hB
      clear hfl hB hxx
      go_wp2_with fail
      go_roundw
      case rel => exact ⟨j + 1, _, by go_num, by omega, HBk.out.set_ j _, by show _ = _; rw [Array.size_setIfInBounds]; exact hsz.out, HF.out.next HG.out hz, hbw.setCell (Nat.le_refl _) _⟩
      case measure => simp [intOf]; omega
    · go_wp2_with fail
      go_ret
      have hj2 : j = xs.length := by omega
      subst hj2
      exact ⟨_, _, rfl, hfl.at_ hB _ hB.lt, hbw⟩
/-- behind lookupVariable, as the law calls it -/
def Found58 (v : Vr) (w : World) (e : Ending) (w' : World) : Prop := e = .returned (.tuple #[.agg #[.int .i64 v.a, .int .i64 v.b], .bool true]) ∧ Below w.heap.size w w'
def Missed58 (w : World) (e : Ending) (w' : World) : Prop := e = .returned (.tuple #[.agg #[.int .i64 0, .int .i64 0], .bool false]) ∧ Below w.heap.size w w'
set_option maxHeartbeats 2000000 in
theorem look_pre (w : World) (x y : Int) (o : Bool) (p : Value) (nm : ByteArray)
    (h : Calls Try.prog 87 #[p, .string nm] (w.alloc (.cells #[.int .i64 0, .int .i64 0] 45)) fun e w' => ∃ r, ((r = .nilIface ∧ o = true) ∨ (∃ q, r = .iface 156 (.pointer (some q)) ∧ o = false)) ∧ e = .returned (.tuple #[.agg #[.int .i64 x, .int .i64 y], r]) ∧ Below (w.heap.size + 1) (w.alloc (.cells #[.int .i64 0, .int .i64 0] 45)) w') :
    Calls Try.prog 54 #[p, .string nm] w fun e w' => e = .returned (.tuple #[.agg #[.int .i64 x, .int .i64 y], .bool o]) ∧ Below w.heap.size w w' := by
  have hb0 : Below w.heap.size w (w.alloc (.cells #[.int .i64 0, .int .i64 0] 45)) := (Below.refl _ _).alloc (Nat.le_refl _) _
  have hX := Blk.new w 45 #[.int .i64 0, .int .i64 0]
  have H := Lib.hid h
  clear h
  go_enter Try.func54, Try.ntmps54
  go_wp2_with fail
  with_reducible refine (H.out).mono ?_
  rintro e w1 ⟨r, hr, rfl, hb1⟩
  have hX1 := hX.below hb1 (by omega)
  have r0 : w1.cell? ⟨w.heap.size, 0, none⟩ = some (.int .i64 0) := hX1.cell 0
  have r1 : w1.cell? ⟨w.heap.size, 1, none⟩ = some (.int .i64 0) := hX1.cell 1
  have q0 := hX1.frozen 0
  have q1 := hX1.frozen 1
  have lX := hX1.lt
  have hb2 : Below w.heap.size w w1 := hb0.trans (hb1.mono (by omega))
  clear hX hX1 hb1 hb0
  rcases hr with ⟨rfl, rfl⟩ | ⟨q, rfl, rfl⟩
  all_goals
    go_wp2_with fail
    go_region
    all_goals
      go_wp2_with fail
      refine bodyPost_ret (v := .tuple #[.agg #[.int .i64 x, .int .i64 y], .bool _]) (by simp [results, Try.results54, go_sem, r0, r1, lX]; rfl) rfl ?_
      refine ⟨rfl, ?_⟩
      exact (((hb2.setCell (p := ⟨w.heap.size, 0, none⟩) (Nat.le_refl _) _).setCell (p := ⟨w.heap.size, 1, none⟩) (Nat.le_refl _) _).alloc (by simp [World.setCell]; omega) _).drew
theorem PG.look {w : World} {C : Nat} {cc : Array Value} {d n : Int} {vs : List Vr} (h : PG w C cc d n vs) (h8 : cc[8]? = some (.slice (some ⟨C + 3, 0, none⟩) 1 1)) (hl : vs.length ≤ 10000000) (x : ByteArray) :
    (∃ v ∈ vs, v.name = x ∧ Calls Try.prog 87 #[.pointer (some ⟨C, 0, none⟩), .string x] w (Hit87 v.a v.b w)) ∨ ((∀ v ∈ vs, v.name ≠ x) ∧ Calls Try.prog 87 #[.pointer (some ⟨C, 0, none⟩), .string x] w (Miss87 w)) := by
  obtain ⟨V, ps, hst, hv⟩ := h
  obtain ⟨A, cap, rfl, hA⟩ := own_open hst.o
  by_cases hex : ∃ v ∈ vs, v.name = x
  · refine Or.inl ?_
    have hlast : ∃ (i : Nat) (v : Vr), vs[i]? = some v ∧ v.name = x ∧ ∀ (j : Nat) (u : Vr), i < j → vs[j]? = some u → u.name ≠ x := by
      clear hst hv hA hl
      induction vs with
      | nil => obtain ⟨v, hv, _⟩ := hex; cases hv
      | cons a t ih =>
        by_cases ht : ∃ v ∈ t, v.name = x
        · obtain ⟨i, v, h1, h2, h3⟩ := ih ht
          refine ⟨i + 1, v, by simpa using h1, h2, fun j u hj hu => ?_⟩
          match j, hj with
          | j + 1, hj => exact h3 j u (by omega) (by simpa using hu)
        · obtain ⟨v, hv, hvx⟩ := hex
          rcases List.mem_cons.1 hv with rfl | hv
          · refine ⟨0, v, rfl, hvx, fun j u hj hu e => ht ?_⟩
            match j, hj with
            | j + 1, _ => exact ⟨u, List.mem_of_getElem? (by simpa using hu), e⟩
          · exact absurd ⟨v, hv, hvx⟩ ht
    obtain ⟨i, v, h1, h2, h3⟩ := hlast
    refine ⟨v, List.mem_of_getElem? h1, h2, ?_⟩
    refine look_hit C (C + 3) (C + 2) vs.length i A cap _ 1 d n ps vs x w (hst.top h8) hst.s hA hv rfl hl v h1 (toList_eq_iff.2 h2) fun j u hj hu => ?_
    have := h3 j u hj hu
    cases hc : (u.name.toList == x.toList) with
    | false => rfl
    | true => exact absurd (toList_eq_iff.1 hc) this
  · refine Or.inr ⟨fun v hv e => hex ⟨v, hv, e⟩, ?_⟩
    refine look_miss C (C + 3) (C + 2) vs.length A cap _ 1 d n ps vs x w (hst.top h8) hst.s hA hv rfl hl fun j u hu => ?_
    cases hc : (u.name.toList == x.toList) with
    | false => rfl
    | true => exact absurd ⟨u, List.mem_of_getElem? hu, toList_eq_iff.1 hc⟩ hex
theorem look58 {w : World} {C : Nat} {cc : Array Value} {d n : Int} {vs : List Vr} (h : PG w C cc d n vs) (h8 : cc[8]? = some (.slice (some ⟨C + 3, 0, none⟩) 1 1)) (hl : vs.length ≤ 10000000) (x : ByteArray) :
    (∃ v ∈ vs, v.name = x ∧ Calls Try.prog 54 #[.pointer (some ⟨C, 0, none⟩), .string x] w (Found58 v w)) ∨ ((∀ v ∈ vs, v.name ≠ x) ∧ Calls Try.prog 54 #[.pointer (some ⟨C, 0, none⟩), .string x] w (Missed58 w)) := by
  rcases (h.alloc (.cells #[.int .i64 0, .int .i64 0] 45)).look h8 hl x with ⟨v, hv, hx, hc⟩ | ⟨hx, hc⟩
  · refine Or.inl ⟨v, hv, hx, ?_⟩
    refine look_pre w v.a v.b true _ x (hc.mono ?_)
    rintro e w' ⟨rfl, hb⟩
    exact ⟨_, Or.inl ⟨rfl, rfl⟩, rfl, by simpa using hb⟩
  · refine Or.inr ⟨hx, ?_⟩
    refine look_pre w 0 0 false _ x (hc.mono ?_)
    rintro e w' ⟨q, rfl, hb⟩
    exact ⟨_, Or.inr ⟨q, rfl, rfl⟩, rfl, by simpa using hb⟩
end Go.Proofs.Ytbkakiipaehleaa
