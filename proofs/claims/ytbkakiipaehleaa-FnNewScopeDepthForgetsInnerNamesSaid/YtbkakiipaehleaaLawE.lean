/- The walk of FnCreateVariableCountsUp: true at every list of names. -/
import Derived.Test.YtbkakiipaehleaaNam
import Derived.Test.YtbkakiipaehleaaOpenR
namespace Go.Proofs.Ytbkakiipaehleaa
open Go.RowKit
set_option maxRecDepth 100000
set_option linter.unusedVariables false
/-- the compiler, its list of scopes and its top scope, as a new one has them; the variables grow -/
structure St (w : World) (C : Nat) (cc : Array Value) (V : Value) (d n : Int) (k : Nat) (ps : List Value) : Prop where
  c : Blk w C 121 cc
  l : Blk w (C + 3) 54 #[.pointer (some ⟨C + 2, 0, none⟩)]
  s : Blk w (C + 2) 127 #[V, .slice none 0 0, .int .i64 1, .int .i64 d, .int .i64 n]
  o : w.ownsRow C 153 1 V k ps
theorem St.top {w : World} {C : Nat} {cc : Array Value} {V : Value} {d n : Int} {k : Nat} {ps : List Value} (h : St w C cc V d n k ps) (h8 : cc[8]? = some (.slice (some ⟨C + 3, 0, none⟩) 1 1)) : Top w C (C + 3) (C + 2) :=
  ⟨(h.c.cell 8).trans h8, h.l.cell 0⟩
theorem St.next {w w' : World} {C : Nat} {cc : Array Value} {V : Value} {d n : Int} {k g cap p : Nat} {ps : List Value} (h : St w C cc V d n k ps) (h1 : Blk w' (C + 2) 127 #[.slice (some ⟨g, 0, none⟩) (k + 1) cap, .slice none 0 0, .int .i64 1, .int .i64 d, .int .i64 (n + 1)])
    (h2 : w'.ownsRow C 153 1 (.slice (some ⟨g, 0, none⟩) (k + 1) cap) (k + 1) (ps ++ [.pointer (some ⟨p, 0, none⟩)])) (hk : Lib.OthersKept 153 (some (C + 2)) w w') :
    St w' C cc (.slice (some ⟨g, 0, none⟩) (k + 1) cap) d (n + 1) (k + 1) (ps ++ [.pointer (some ⟨p, 0, none⟩)]) :=
  ⟨h.c.kept hk (by intro e; injection e with e; omega) (by decide), h.l.kept hk (by intro e; injection e with e; omega) (by decide), h1, h2⟩
theorem St.alloc {w : World} {C : Nat} {cc : Array Value} {V : Value} {d n : Int} {k : Nat} {ps : List Value} (h : St w C cc V d n k ps) (o : Obj) : St (w.alloc o) C cc V d n k ps :=
  ⟨h.c.alloc o, h.l.alloc o, h.s.alloc o, h.o.alloc o⟩
theorem St.far {w : World} {C : Nat} {cc : Array Value} {V : Value} {d n : Int} {k : Nat} {ps : List Value} (h : St w C cc V d n k ps) {b i : Nat} {cs : Array Value} (hb : Blk w b 45 cs) (u : Value) : St (w.setCell ⟨b, i, none⟩ u) C cc V d n k ps :=
  ⟨h.c.far (p := ⟨b, i, none⟩) (h.c.ne_ hb (by decide)) u, h.l.far (p := ⟨b, i, none⟩) (h.l.ne_ hb (by decide)) u, h.s.far (p := ⟨b, i, none⟩) (h.s.ne_ hb (by decide)) u, owns_far h.o (p := ⟨b, i, none⟩) (own_blk_ne h.o hb (by decide)) u⟩
set_option maxHeartbeats 4000000 in
theorem law_counts (A : Option Addr) (c : Nat) (xs : List ByteArray) (w : World) (hA : A = none → c = 0 ∧ xs = []) (hx : RdAt w w.heap.size A (vStrs xs)) (hn : xs.length ≤ 9223372036854775807) :
    Calls Try.prog 4 #[.slice A xs.length c] w fun e w' => e = .returned (.bool true) ∧ Below w.heap.size w w' := by
  have hvl : (vStrs xs).length = xs.length := List.length_map _
  have hzz := Lib.hid (zzb_FnCreateVariableCountsUp A c xs w hx hn)
  by_cases hs : xs.length ≤ 65536
  · have hlb := Lib.hid (lawBytes_any 0 A c xs w hx (by omega))
    have hcl : Hid (Calls Try.prog 23 #[.slice A xs.length c] w (Copied (vStrs xs) w)) := by
      show Calls _ _ _ _ _
      cases A with
      | none => obtain ⟨rfl, rfl⟩ := hA rfl; exact cloneStrs_nil w
      | some a =>
        have h := cloneStrs_some a c (vStrs xs) w hx (fun x hx => by
          obtain ⟨y, _, rfl⟩ := List.mem_map.1 hx
          exact ⟨y, rfl⟩) (by rw [hvl]; omega)
        rw [hvl] at h
        exact h
    have HV := Lib.hid hvl
    clear hA hx hvl
    go_enter Try.func4, Try.ntmps4
    go_wp2_with fail
    with_reducible refine (hzz.out).mono ?_
    rintro e0 w0 ⟨b, rfl, rfl⟩
    cases b
    · go_wp2_with fail
      go_ret
      exact ⟨rfl, Below.refl _ _⟩
    · go_wp2_with fail
      with_reducible refine (hlb.out).mono ?_
      rintro e0 w0 ⟨m, rfl, rfl⟩
      by_cases hm : 1048576 < m
      · go_wp2_with fail
        go_ret
        exact ⟨rfl, Below.refl _ _⟩
      · go_wp2_with fail
        with_reducible refine (hcl.out).mono ?_
        rintro e1 w1 ⟨Ax, cx, rfl, hR, hb1⟩
        rw [HV.out]
        have HR := Lib.hid hR
        have hnc := Lib.hid (newC77 w1)
        clear hR hm
        go_wp2_with fail
        with_reducible refine (hnc.out).mono ?_
        rintro e2 w2 ⟨cc0, rfl, hC0, _, _, h80, hl0, hs0, hb2, _⟩
        have ST0 : Hid (St w2 w1.heap.size cc0 (.slice none 0 0) 0 0 0 []) := ⟨hC0, hl0, hs0, World.ownsRow_nil _ _ _ _⟩
        have H80 := Lib.hid h80
        clear hC0 hl0 hs0 h80
        go_wp2_with fail
        go_loopw [4] (fun i wr => ∃ (j : Nat) (V : Value) (ps : List Value), i = .int .i64 j ∧ j ≤ xs.length ∧ St wr w1.heap.size cc0 V 0 j j ps ∧ Below w1.heap.size w1 wr) (fun i _ => xs.length - (intOf i).toNat)
        case atStart => exact ⟨0, _, [], rfl, by omega, ST0.out, hb2⟩
        case round =>
          obtain ⟨j, V, ps, rfl, hj, hst, hbw⟩ := hrel
          by_cases hlt : j < xs.length
          · obtain ⟨g, o, rfl, hg, c0⟩ := (RdAt.below hbw HR.out) j _ (vStrs_at xs j hlt)
            obtain ⟨x, hxx⟩ : ∃ x, Hid (xs[j] = x) := ⟨_, Lib.hid rfl⟩
            rw [hxx.out] at c0
            have hcr := Lib.hid (zz_create w1.heap.size w1.heap.size (w1.heap.size + 3) (w1.heap.size + 2) j V (.slice none 0 0) 1 0 j ps x wr (hst.top H80.out) hst.s hst.o (by omega) (by omega) (by omega) (by omega))
            have HST := Lib.hid hst
            clear hst hxx
            go_wp2_with fail
            with_reducible refine (hcr.out).mono ?_
            rintro e3 w3 ⟨g3, cap3, p3, rfl, h31, h32, h33, h34, h35, h36⟩
            have hs3 := HST.out.next h31 h32 h35
            have HS3 := Lib.hid hs3
            have hb3 := hbw.trans h34
            clear h31 h32 h33 hs3
            have hjj : ((j : Int) != (j : Int)) = false := by simp
            go_wp2_with fail
            go_roundw
            case rel => exact ⟨j + 1, _, _, by go_num, by omega, HS3.out.alloc _, hb3.alloc hb3.size _⟩
            case measure => simp [intOf]; omega
          · have hjx : j = xs.length := by omega
            subst hjx
            obtain ⟨A', k', cap', hV⟩ : ∃ A' k' cap', V = .slice A' k' cap' ∧ k' = xs.length := by
              rcases hst.o.2 with ⟨h1, h2⟩ | ⟨g', cap', cur, h1, _⟩
              · exact ⟨_, _, _, h1, h2.symm⟩
              · exact ⟨_, _, _, h1, rfl⟩
            obtain ⟨rfl, rfl⟩ := hV
            have c0 : wr.cell? ⟨w1.heap.size + 2, 0, none⟩ = some (.slice A' xs.length cap') := hst.s.cell 0
            have c4 : wr.cell? ⟨w1.heap.size + 2, 4, none⟩ = some (.int .i64 xs.length) := hst.s.cell 4
            have ht := hst.top H80.out
            have h1 := Lib.hid (topVars w1.heap.size _ _ A' xs.length cap' wr ht c0)
            have h2 := Lib.hid fun n => topCnt w1.heap.size _ _ xs.length (wr.drewN n) ⟨ht.c, ht.l⟩ c4
            have hnn : ((xs.length : Int) == (xs.length : Int)) = true := by simp
            clear hst ht c0 c4
            go_wp2_with fail
            with_reducible refine (h1.out).mono ?_
            rintro e3 w3 ⟨rfl, n3, rfl⟩
            go_wp2_with fail
            with_reducible refine (h2.out _).mono ?_
            rintro e4 w4 ⟨rfl, n4, rfl⟩
            go_wp2_with fail
            go_ret
            exact ⟨rfl, hb1.trans ((below_drewN hbw _).mono hb1.size)⟩
  · clear hx hA hvl
    go_enter Try.func4, Try.ntmps4
    go_wp2_with fail
    with_reducible refine (hzz.out).mono ?_
    rintro e0 w0 ⟨b, rfl, rfl⟩
    cases b
    all_goals
      go_wp2_with fail
      go_ret
      exact ⟨rfl, Below.refl _ _⟩
end Go.Proofs.Ytbkakiipaehleaa
