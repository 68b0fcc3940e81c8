/- The walk of FnPushVariableIdempotent: true at every list of names. -/
import Derived.Test.YtbkakiipaehleaaLawF
import Derived.Deep.RegionHeld3
import Derived.Laws.StructEq
namespace Go.Proofs.Ytbkakiipaehleaa
open Go.RowKit
set_option maxRecDepth 100000
set_option linter.unusedVariables false
theorem info_pair : (Try.prog.info? 45).map (fun i => (i.zero, i.size, i.bytes)) = some (some (.agg #[.int .i64 0, .int .i64 0]), 2, 16) := by kernel_rfl
/-- the slots of the first j names, as the first pushes gave them -/
def FstRow (arr : Array Value) (xs : List ByteArray) (j : Nat) (nms : List ByteArray) : Prop := ∀ i, i < j → ∀ (h : i < xs.length), ∃ r, r < nms.length ∧ rk nms xs[i] = r ∧ arr[i * 2]? = some (.int .i64 1) ∧ arr[i * 2 + 1]? = some (.int .i64 r)
def Fst (w : World) (C : Nat) (cc : Array Value) (xs : List ByteArray) (j : Nat) (nms : List ByteArray) : Prop := PS w C cc nms ∧ ∃ arr, Blk w (C + 4) 45 arr ∧ arr.size = xs.length * 2 ∧ FstRow arr xs j nms
theorem rk_add (nms : List ByteArray) (x y : ByteArray) (h : rk nms x < nms.length) : rk (nms ++ [y]) x = rk nms x := by
  unfold rk at *
  rw [List.findIdx_append, if_pos h]
theorem rk_addN (nms : List ByteArray) (x : ByteArray) : rk (addN nms x) x = rk nms x ∧ rk nms x < (addN nms x).length := by
  unfold addN
  by_cases h : rk nms x < nms.length
  · rw [if_pos h]; exact ⟨rfl, h⟩
  · have h0 : rk nms x ≤ nms.length := List.findIdx_le_length
    have h1 : rk nms x = nms.length := by omega
    rw [if_neg h]
    refine ⟨?_, by simp; omega⟩
    unfold rk at *
    rw [List.findIdx_append, if_neg h, h1]
    simp
theorem FstRow.add {arr : Array Value} {xs : List ByteArray} {j : Nat} {nms : List ByteArray} (h : FstRow arr xs j nms) (x : ByteArray) : FstRow arr xs j (addN nms x) := by
  intro i hi hx
  obtain ⟨r, h1, h2, h3, h4⟩ := h i hi hx
  unfold addN
  by_cases hr : rk nms x < nms.length
  · rw [if_pos hr]; exact ⟨r, h1, h2, h3, h4⟩
  · rw [if_neg hr]; exact ⟨r, by simp; omega, by rw [rk_add _ _ _ (by omega)]; exact h2, h3, h4⟩
theorem FstRow.next {arr : Array Value} {xs : List ByteArray} {j : Nat} {nms : List ByteArray} (h : FstRow arr xs j nms) {r : Nat} (hs : arr.size = xs.length * 2) (hj : j < xs.length) (hr : r < nms.length) (hk : rk nms xs[j] = r) : FstRow ((arr.setIfInBounds (j * 2) (.int .i64 1)).setIfInBounds (j * 2 + 1) (.int .i64 r)) xs (j + 1) nms := by
  intro i hi hx
  by_cases hij : i = j
  · subst hij
    refine ⟨r, hr, hk, ?_, ?_⟩
    · rw [Array.getElem?_setIfInBounds_ne (by omega)]
      exact set_at _ _ _ (by omega)
    · exact set_at _ _ _ (by rw [Array.size_setIfInBounds]; omega)
  · obtain ⟨r', h1, h2, h3, h4⟩ := h i (by omega) hx
    refine ⟨r', h1, h2, ?_, ?_⟩
    · rw [Array.getElem?_setIfInBounds_ne (by omega), Array.getElem?_setIfInBounds_ne (by omega)]; exact h3
    · rw [Array.getElem?_setIfInBounds_ne (by omega), Array.getElem?_setIfInBounds_ne (by omega)]; exact h4
/-- behind a push, with the row of the first slots kept -/
def PushedF (C : Nat) (cc : Array Value) (xs : List ByteArray) (j : Nat) (nms : List ByteArray) (x : ByteArray) (w : World) (e : Ending) (w' : World) : Prop :=
  ∃ r, e = .returned (.agg #[.int .i64 1, .int .i64 (r : Nat)]) ∧ rk nms x = r ∧ Fst w' C cc xs j (addN nms x) ∧ Below C w w'
theorem push_fst (C : Nat) (cc : Array Value) (xs : List ByteArray) (j : Nat) (nms : List ByteArray) (x : ByteArray) (w : World) (h8 : cc[8]? = some (.slice (some ⟨C + 3, 0, none⟩) 1 1)) (hf : Fst w C cc xs j nms) (hn : nms.length ≤ 10000000) :
    Calls Try.prog 44 #[.pointer (some ⟨C, 0, none⟩), .string x] w (PushedF C cc xs j nms x w) := by
  obtain ⟨hp, arr, hB, hz, hr⟩ := hf
  refine (zz_push C cc nms x w h8 hp hn).mono ?_
  rintro e w' ⟨rfl, h1, h2, h3⟩
  exact ⟨_, rfl, rfl, ⟨h1, arr, hB.kept h3 (by intro e; injection e with e; omega) (by decide), hz, hr.add x⟩, h2⟩
theorem Fst.step {w : World} {C : Nat} {cc : Array Value} {xs : List ByteArray} {j r : Nat} {nms : List ByteArray} (h : Fst w C cc xs j nms) (hj : j < xs.length) (hr : r < nms.length) (hk : rk nms xs[j] = r) : Fst ((w.setCell ⟨C + 4, j * 2, none⟩ (.int .i64 1)).setCell ⟨C + 4, j * 2 + 1, none⟩ (.int .i64 r)) C cc xs (j + 1) nms := by
  obtain ⟨hp, arr, hB, hz, hf⟩ := h
  exact ⟨(hp.far hB _).far (hB.set_ _ _) _, _, (hB.set_ _ _).set_ _ _, by rw [Array.size_setIfInBounds, Array.size_setIfInBounds]; exact hz, hf.next hz hj hr hk⟩
theorem PS.drew {w : World} {C : Nat} {cc : Array Value} {nms : List ByteArray} (h : PS w C cc nms) : PS w.drew C cc nms := by
  obtain ⟨V, ps, h1, h2⟩ := h
  exact ⟨V, ps, ⟨h1.c, h1.l, h1.s, h1.o⟩, h2⟩
theorem Fst.drew {w : World} {C : Nat} {cc : Array Value} {xs : List ByteArray} {j : Nat} {nms : List ByteArray} (h : Fst w C cc xs j nms) : Fst w.drew C cc xs j nms := ⟨h.1.drew, h.2⟩
theorem eq_pair (d : Nat) (a b : Int) (w : World) : (Op.equalIn (d + 2) 45 (.agg #[.int .i64 a, .int .i64 b]) (.agg #[.int .i64 a, .int .i64 b])).run Try.prog w = .ok true w := by
  have px : (part 3 #[.int .i64 a, .int .i64 b] (0 * 1)).run Try.prog w = .ok (.int .i64 a) w := by simp [part, Try.isAgg3]
  have py : (part 3 #[.int .i64 a, .int .i64 b] (1 * 1)).run Try.prog w = .ok (.int .i64 b) w := by simp [part, Try.isAgg3]
  rw [Op.equalIn]
  simp only [Sem.run_bind, run_underlying Try.underlying45, Result.andThen_ok, Try.sizeOf3, Std.Legacy.Range.forIn_eq_forIn_range', Std.Legacy.Range.size, Nat.sub_zero, Nat.add_sub_cancel, Nat.div_one, List.range', List.forIn_cons, px, Nat.zero_add, py, run_equalIn_int w d 3 .i64 .i64 _ _ Try.underlying3, beq_self_eq_true, Bool.not_true, Bool.false_eq_true, if_false, Sem.run_pure, List.forIn_nil]
theorem neq_pair (a b : Int) (w : World) : (binOp .neq 45 (.agg #[.int .i64 a, .int .i64 b]) (.agg #[.int .i64 a, .int .i64 b])).run Try.prog w = .ok (.bool false) w := by
  rw [run_neq_struct, eq_pair 9998]
  rfl
/-- behind newVariable -/
def Newed (C : Nat) (n : Int) (w : World) (e : Ending) (w' : World) : Prop := e = .returned (.agg #[.int .i64 1, .int .i64 n]) ∧ Below C w w' ∧ Lib.OthersKept 153 (some (C + 2)) w w'
theorem create_ps (C : Nat) (cc : Array Value) (nms : List ByteArray) (x : ByteArray) (w : World) (h8 : cc[8]? = some (.slice (some ⟨C + 3, 0, none⟩) 1 1)) (hp : PS w C cc nms) (hn : nms.length ≤ 10000000) :
    Calls Try.prog 82 #[.pointer (some ⟨C, 0, none⟩), .string x] w (Newed C nms.length w) := by
  obtain ⟨V, ps, hst, hv⟩ := hp
  refine (create_any C C (C + 3) (C + 2) nms.length V _ 1 0 nms.length ps x w (hst.top h8) hst.s hst.o (by omega) hn (by omega) (by omega)).mono ?_
  rintro e w' ⟨g, cap', p, rfl, h1, h2, h3, h4, h5, h6⟩
  exact ⟨rfl, h4, h5⟩
set_option maxHeartbeats 1000000 in
theorem new_ps (C : Nat) (cc : Array Value) (nms : List ByteArray) (w : World) (h8 : cc[8]? = some (.slice (some ⟨C + 3, 0, none⟩) 1 1)) (hp : PS w C cc nms) (hn : nms.length ≤ 10000000) :
    Calls Try.prog 85 #[.pointer (some ⟨C, 0, none⟩)] w (Newed C nms.length w) := by
  have hSl : C + 2 < w.heap.size := by obtain ⟨_, _, h, _⟩ := hp; exact h.s.lt
  have hbx : Below C w (w.alloc (.cells #[.int .i64 0, .int .i64 0] 45)) := (Below.refl _ _).alloc (by omega) _
  have hkx : Lib.OthersKept 153 (some (C + 2)) w (w.alloc (.cells #[.int .i64 0, .int .i64 0] 45)) := (Lib.OthersKept.refl _ _ w).alloc _
  have hc := Lib.hid (create_ps C cc nms ⟨#[]⟩ (w.alloc (.cells #[.int .i64 0, .int .i64 0] 45)) h8 (hp.alloc _) hn)
  have hr := Blk.new w 45 #[.int .i64 0, .int .i64 0]
  clear hp h8
  go_enter Try.func85, Try.ntmps85
  go_wp2_with fail
  with_reducible refine (hc.out).mono ?_
  rintro e w1 ⟨rfl, h4, h5⟩
  have hr1 := hr.kept h5 (by intro e; injection e with e; omega) (by decide)
  have r0 : w1.cell? ⟨w.heap.size, 0, none⟩ = some (.int .i64 0) := hr1.cell 0
  have r1 : w1.cell? ⟨w.heap.size, 1, none⟩ = some (.int .i64 0) := hr1.cell 1
  have q0 := hr1.frozen 0
  have q1 := hr1.frozen 1
  clear hr hr1
  go_wp2_with fail
  refine bodyPost_ret (v := .agg #[.int .i64 1, .int .i64 nms.length]) (by simp [results, Try.results85, go_sem, r0, r1]) rfl ?_
  refine ⟨rfl, ((hbx.trans h4).setCell (p := ⟨w.heap.size, 0, none⟩) (by show C ≤ w.heap.size; omega) _).setCell (p := ⟨w.heap.size, 1, none⟩) (by show C ≤ w.heap.size; omega) _, ?_⟩
  intro i o hi hne3 hcc
  have h1 := (hkx.trans h5) i o hi hne3 hcc
  have hil : i < w.heap.size := (Array.getElem?_eq_some_iff.1 hi).1
  rw [Below.heap_setCell _ _ _ _ (by show i ≠ w.heap.size; omega), Below.heap_setCell _ _ _ _ (by show i ≠ w.heap.size; omega)]
  exact h1
set_option maxHeartbeats 1000000 in
theorem zz_new (C : Nat) (cc : Array Value) (nms : List ByteArray) (w : World) (h8 : cc[8]? = some (.slice (some ⟨C + 3, 0, none⟩) 1 1)) (hp : PS w C cc nms) (hn : nms.length ≤ 10000000) :
    Calls Try.prog 45 #[.pointer (some ⟨C, 0, none⟩)] w (Newed C nms.length w) := by
  have hSl : C + 2 < w.heap.size := by obtain ⟨_, _, h, _⟩ := hp; exact h.s.lt
  have hbx : Below C w (w.alloc (.cells #[.int .i64 0, .int .i64 0] 45)) := (Below.refl _ _).alloc (by omega) _
  have hkx : Lib.OthersKept 153 (some (C + 2)) w (w.alloc (.cells #[.int .i64 0, .int .i64 0] 45)) := (Lib.OthersKept.refl _ _ w).alloc _
  have hc := Lib.hid (new_ps C cc nms (w.alloc (.cells #[.int .i64 0, .int .i64 0] 45)) h8 (hp.alloc _) hn)
  have hr := Blk.new w 45 #[.int .i64 0, .int .i64 0]
  clear hp h8
  go_enter Try.func45, Try.ntmps45
  go_wp2_with fail
  with_reducible refine (hc.out).mono ?_
  rintro e w1 ⟨rfl, h4, h5⟩
  have hr1 := hr.kept h5 (by intro e; injection e with e; omega) (by decide)
  have r0 : w1.cell? ⟨w.heap.size, 0, none⟩ = some (.int .i64 0) := hr1.cell 0
  have r1 : w1.cell? ⟨w.heap.size, 1, none⟩ = some (.int .i64 0) := hr1.cell 1
  have q0 := hr1.frozen 0
  have q1 := hr1.frozen 1
  clear hr hr1
  go_wp2_with fail
  refine bodyPost_ret (v := .agg #[.int .i64 1, .int .i64 nms.length]) (by simp [results, Try.results45, go_sem, r0, r1]) rfl ?_
  refine ⟨rfl, ((hbx.trans h4).setCell (p := ⟨w.heap.size, 0, none⟩) (by show C ≤ w.heap.size; omega) _).setCell (p := ⟨w.heap.size, 1, none⟩) (by show C ≤ w.heap.size; omega) _, ?_⟩
  intro i o hi hne3 hcc
  have h1 := (hkx.trans h5) i o hi hne3 hcc
  have hil : i < w.heap.size := (Array.getElem?_eq_some_iff.1 hi).1
  rw [Below.heap_setCell _ _ _ _ (by show i ≠ w.heap.size; omega), Below.heap_setCell _ _ _ _ (by show i ≠ w.heap.size; omega)]
  exact h1
theorem push_again (C : Nat) (cc : Array Value) (xs : List ByteArray) (nms : List ByteArray) (x : ByteArray) (r : Nat) (w : World) (h8 : cc[8]? = some (.slice (some ⟨C + 3, 0, none⟩) 1 1)) (hf : Fst w C cc xs xs.length nms) (hn : nms.length ≤ 10000000) (hr : rk nms x = r) (hl : r < nms.length) :
    Calls Try.prog 44 #[.pointer (some ⟨C, 0, none⟩), .string x] w fun e w' => e = .returned (.agg #[.int .i64 1, .int .i64 r]) ∧ Fst w' C cc xs xs.length nms ∧ Below C w w' := by
  refine (push_fst C cc xs xs.length nms x w h8 hf hn).mono ?_
  rintro e w' ⟨r', rfl, h1, h2, h3⟩
  obtain rfl : r' = r := by omega
  rw [addN, if_pos (by omega)] at h2
  exact ⟨rfl, h2, h3⟩
theorem Fst.cells {w : World} {C : Nat} {cc : Array Value} {xs : List ByteArray} {jj r g o : Nat} {nms : List ByteArray} {x : ByteArray} {u : Value} (h : Fst w C cc xs xs.length nms) (hj : jj < xs.length) (hx : xs[jj] = x) (hk : rk nms x = r) (hu : w.cell? ⟨g, o, none⟩ = some u) :
    w.cell? ⟨C + 4, jj * 2, none⟩ = some (.int .i64 1) ∧ w.cell? ⟨C + 4, jj * 2 + 1, none⟩ = some (.int .i64 r) ∧ w.cell? ⟨g, o, none⟩ = some u := by
  obtain ⟨_, arr, hB, _, hf⟩ := h
  obtain ⟨r', _, h2, h3, h4⟩ := hf jj hj hj
  rw [hx, hk] at h2
  subst h2
  exact ⟨(hB.cell _).trans h3, (hB.cell _).trans h4, hu⟩
theorem addN_len (nms : List ByteArray) (x : ByteArray) : (addN nms x).length ≤ nms.length + 1 := by
  unfold addN
  split
  · omega
  · simp
set_option maxHeartbeats 8000000 in
theorem law_idem (A : Option Addr) (c : Nat) (xs : List ByteArray) (w : World) (hA : A = none → c = 0 ∧ xs = []) (hx : RdAt w w.heap.size A (vStrs xs)) (hn : xs.length ≤ 9223372036854775807) :
    Calls Try.prog 7 #[.slice A xs.length c] w fun e w' => e = .returned (.bool true) ∧ Below w.heap.size w w' := by
  have hvl : (vStrs xs).length = xs.length := List.length_map _
  have hzz := Lib.hid (zzb_FnPushVariableIdempotent A c xs w hx hn)
  obtain ⟨i0, hi, hz0, hz1, hz2⟩ := info_parts info_pair
  by_cases hs : xs.length ≤ 4096
  · have hlb := Lib.hid (lawBytes_any 0 A c xs w hx (by omega))
    have hcl : Hid (Calls Try.prog 23 #[.slice A xs.length c] w (Copied (vStrs xs) w)) := by
      show Calls _ _ _ _ _
      cases A with
      | none => obtain ⟨rfl, rfl⟩ := hA rfl; exact cloneStrs_nil w
      | some a =>
        have h := cloneStrs_some a c (vStrs xs) w hx (fun x hx => by
          obtain ⟨y, _, rfl⟩ := List.mem_map.1 hx
          exact ⟨y, rfl⟩) (by rw [hvl]; omega)
        rw [hvl] at h
        exact h
    have hmk : ∀ W : World, (Instr.makeSlice 58 (.int .i64 (xs.length : Int)) (.int .i64 (xs.length : Int))).run Try.prog W = .ok (.slice (some ⟨W.heap.size, 0, none⟩) xs.length xs.length) (W.alloc (.cells (madeCells #[.int .i64 0, .int .i64 0] (xs.length * 2)) 45)) := by
      intro W
      have h := run_make_rowN (P := Try.prog) 58 45 i0 _ Try.underlying58 hi hz0 .i64 .i64 xs.length xs.length (by omega) (by rw [hz2]; omega) (by omega) W
      rw [hz1] at h
      exact h
    have HV := Lib.hid hvl
    have HI := Lib.hid hi
    have HZ0 := Lib.hid hz0
    have HZ1 := Lib.hid hz1
    have HZ2 := Lib.hid hz2
    clear hA hx hvl hi hz0 hz1 hz2
    go_enter Try.func7, Try.ntmps7
    go_wp2_with fail
    with_reducible refine (hzz.out).mono ?_
    rintro e0 w0 ⟨b, rfl, rfl⟩
    cases b
    · go_wp2_with fail
      go_ret
      exact ⟨rfl, Below.refl _ _⟩
    · go_wp2_with fail
      with_reducible refine (hlb.out).mono ?_
      rintro e0 w0 ⟨m, rfl, rfl⟩
      by_cases hm : 1048576 < m
      · go_wp2_with fail
        go_ret
        exact ⟨rfl, Below.refl _ _⟩
      · go_wp2_with fail
        with_reducible refine (hcl.out).mono ?_
        rintro e1 w1 ⟨Ax, cx, rfl, hR, hb1⟩
        rw [HV.out]
        have HR := Lib.hid hR
        have hnc := Lib.hid (newC77 w1)
        clear hR hm
        go_wp2_with fail
        with_reducible refine (hnc.out).mono ?_
        rintro e2 w2 ⟨cc0, rfl, hC0, _, _, h80, hl0, hs0, hb2, hsz2⟩
        have PS0 : PS w2 w1.heap.size cc0 [] := ⟨_, _, ⟨hC0, hl0, hs0, World.ownsRow_nil _ _ _ _⟩, rfl, fun i v hv => by simp [vsOf] at hv⟩
        have ST0 : Hid (Fst (w2.alloc (.cells (madeCells #[.int .i64 0, .int .i64 0] (xs.length * 2)) 45)) w1.heap.size cc0 xs 0 []) := by
          refine ⟨PS0.alloc _, madeCells #[.int .i64 0, .int .i64 0] (xs.length * 2), ?_, size_madeCells _ _, fun i hi _ => absurd hi (by omega)⟩
          exact Blk.at_ _ _ hsz2
        have H80 := Lib.hid h80
        clear hC0 hl0 hs0 h80
        go_wp2_with fail
        clear hmk
        go_loopw [5, 6] (fun m i wr => ∃ (j : Nat) (nms : List ByteArray), m = .int .i64 nms.length ∧ i = .int .i64 j ∧ j ≤ xs.length ∧ nms.length ≤ j ∧ Fst wr w1.heap.size cc0 xs j nms ∧ Below w1.heap.size w1 wr) (fun _ i _ => xs.length - (intOf i).toNat)
        case atStart => exact ⟨0, [], rfl, rfl, by omega, by simp, ST0.out, hb2.alloc hb2.size _⟩
        case round =>
          obtain ⟨j, nms, rfl, rfl, hj, hnj, hst, hbw⟩ := hrel
          have HST := Lib.hid hst
          by_cases hlt : j < xs.length
          · obtain ⟨g, o, rfl, hg, c1⟩ := HR.out j _ (vStrs_at xs j hlt)
            obtain ⟨x, hxx⟩ : ∃ x, Hid (xs[j] = x) := ⟨_, Lib.hid rfl⟩
            rw [hxx.out] at c1
            have c0 := ((bcell hbw).1 g (o + j) hg).trans c1
            have hc := Lib.hid (push_fst w1.heap.size cc0 xs j nms x wr H80.out hst (by omega))
            clear hst
            go_wp2_with fail
            with_reducible refine (hc.out).mono ?_
            rintro e3 w3 ⟨r, rfl, hr3, hF3, h32⟩
            have hb3 := hbw.trans h32
            have hk3 := rk_addN nms x
            rw [hr3] at hk3
            have hF4 := hF3.step hlt (r := r) hk3.2 (by rw [hxx.out]; exact hk3.1)
            have HF4 := Lib.hid hF4
            obtain ⟨_, arr, hB3, hz3, _⟩ := hF3
            obtain ⟨o0, b0⟩ : ∃ u, w3.cell? ⟨w1.heap.size + 4, j * 2, none⟩ = some u := ⟨_, (hB3.cell _).trans (Array.getElem?_eq_getElem (by omega))⟩
            obtain ⟨o1, b1⟩ : ∃ u, w3.cell? ⟨w1.heap.size + 4, j * 2 + 1, none⟩ = some u := ⟨_, (hB3.cell _).trans (Array.getElem?_eq_getElem (by omega))⟩
            have q0 := hB3.frozen (j * 2)
            have q1 := hB3.frozen (j * 2 + 1)
            have lB := hB3.lt
            have hal := addN_len nms x
            have HK3 := Lib.hid hk3
            have hb4 := (hb3.setCell (p := ⟨w1.heap.size + 4, j * 2, none⟩) (by show w1.heap.size ≤ w1.heap.size + 4; omega) (.int .i64 1)).setCell (p := ⟨w1.heap.size + 4, j * 2 + 1, none⟩) (by show w1.heap.size ≤ w1.heap.size + 4; omega) (.int .i64 r)
            clear hF4 hB3 hk3 hz3 hxx
            by_cases hrl : r < nms.length
            · have hr1 : (r : Int) + 1 ≤ nms.length := by omega
              have ha : addN nms x = nms := by rw [addN, if_pos (by omega)]
              rw [ha] at HF4
              go_wp2_with fail
              go_roundw
              case rel => exact ⟨j + 1, nms, rfl, by go_num, by omega, by omega, HF4.out, hb4⟩
              case measure => simp [intOf]; omega
            · have ha : addN nms x = nms ++ [x] := by rw [addN, if_neg (by omega)]
              have hre : r = nms.length := by have := HK3.out.2; rw [ha] at this; simp at this; omega
              subst hre
              rw [ha] at HF4
              go_wp2_with fail
              go_roundw
              case rel => exact ⟨j + 1, nms ++ [x], by rw [List.length_append]; go_num, by go_num, by omega, by simp; omega, HF4.out, hb4⟩
              case measure => simp [intOf]; omega
          · have hje : j = xs.length := by omega
            subst hje
            clear hst
            go_wp2_with fail
            go_loopw [7] (fun i wi => ∃ (jj : Nat), i = .int .i64 jj ∧ jj ≤ xs.length ∧ Fst wi w1.heap.size cc0 xs xs.length nms ∧ Below w1.heap.size w1 wi) (fun i _ => xs.length - (intOf i).toNat)
            case atStart => exact ⟨0, rfl, by omega, HST.out, hbw⟩
            case round =>
              obtain ⟨jj, rfl, hjj, hF, hbi⟩ := hrel
              by_cases hlt2 : jj < xs.length
              · obtain ⟨g, o, rfl, hg, c1⟩ := HR.out jj _ (vStrs_at xs jj hlt2)
                have hF2 := hF
                obtain ⟨_, arr, hB3, hz3, hfr⟩ := hF2
                obtain ⟨r, hr1, hr2, hr3, hr4⟩ := hfr jj hlt2 hlt2
                obtain ⟨x, hxx⟩ : ∃ x, Hid (xs[jj] = x) := ⟨_, Lib.hid rfl⟩
                rw [hxx.out] at c1 hr2
                have c0 := ((bcell hbi).1 g (o + jj) hg).trans c1
                have b0 := (hB3.cell (jj * 2)).trans hr3
                have b1 := (hB3.cell (jj * 2 + 1)).trans hr4
                have hc := Lib.hid fun W => push_again w1.heap.size cc0 xs nms x r W H80.out
                have hneq := neq_pair 1 r
                have HF := Lib.hid hF
                have lB := hB3.lt
                have HFR := Lib.hid hfr
                have HBI := Lib.hid hbi
                clear hF hB3 hz3 hfr hr3 hr4 hbi
                go_wp2_with fail
                go_region_held3 (fun W => W.cell? ⟨w1.heap.size + 4, jj * 2, none⟩ = some (.int .i64 1) ∧ W.cell? ⟨w1.heap.size + 4, jj * 2 + 1, none⟩ = some (.int .i64 r) ∧ W.cell? ⟨g, o + jj, none⟩ = some (.string x))
                  (first | exact ⟨b0, b1, c0⟩ | exact kA.out)
                  (first | (go_at_call 44; ((with_reducible refine (hc.out _ HF.out.drew (by omega) hr2 hr1).mono ?_); rintro eA wA ⟨rfl, hFA, hbA⟩; have kB := (HBI.out.drew).trans hbA; have kA := Lib.hid (hFA.cells hlt2 hxx.out hr2 (((bcell kB).1 g (o + jj) hg).trans c1)); have KFA := Lib.hid hFA; clear hFA)))
                go_wp2_with fail
                go_roundw
                case rel => exact ⟨jj + 1, by go_num, by omega, KFA.out, kB⟩
                case measure => simp [intOf]; omega
              · obtain ⟨V', ps, hst', _⟩ := hF.1
                obtain ⟨A', cap', rfl, _⟩ := own_open hst'.o
                have c0 : wr.cell? ⟨w1.heap.size + 2, 0, none⟩ = some (.slice A' nms.length cap') := hst'.s.cell 0
                have c4 : wr.cell? ⟨w1.heap.size + 2, 4, none⟩ = some (.int .i64 nms.length) := hst'.s.cell 4
                have ht := hst'.top H80.out
                have h1 := Lib.hid (topVars w1.heap.size _ _ A' nms.length cap' wr ht c0)
                have h2 := Lib.hid fun n => topCnt w1.heap.size _ _ nms.length (wr.drewN n) ⟨ht.c, ht.l⟩ c4
                have h3 := Lib.hid fun n => zz_new w1.heap.size cc0 nms (wr.drewN n) H80.out (hF.1.drewN n) (by omega)
                have hnn : ((nms.length : Int) == (nms.length : Int)) = true := by simp
                have hnn2 : ((nms.length : Int) != (nms.length : Int)) = false := by simp
                clear ht c0 c4 hst' hF
                go_wp2_with fail
                with_reducible refine (h1.out).mono ?_
                rintro e3 w3 ⟨rfl, n3, rfl⟩
                go_wp2_with fail
                with_reducible refine (h2.out _).mono ?_
                rintro e4 w4 ⟨rfl, n4, rfl⟩
                go_wp2_with fail
                with_reducible refine (h3.out _).mono ?_
                rintro e5 w5 ⟨rfl, h51, _⟩
                have hb5 := (below_drewN hbi _).trans h51
                clear h51
                go_wp2_with fail
                go_ret
                exact ⟨rfl, hb1.trans ((hb5.alloc hb5.size _).mono hb1.size)⟩
  · clear hx hA hvl
    go_enter Try.func7, Try.ntmps7
    go_wp2_with fail
    with_reducible refine (hzz.out).mono ?_
    rintro e0 w0 ⟨b, rfl, rfl⟩
    cases b
    all_goals
      go_wp2_with fail
      go_ret
      exact ⟨rfl, Below.refl _ _⟩
end Go.Proofs.Ytbkakiipaehleaa
