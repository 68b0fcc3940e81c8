/- The walk of FnPushVariableDedupRank: true at every list of names. -/
import Derived.Test.YtbkakiipaehleaaPush2
namespace Go.Proofs.Ytbkakiipaehleaa
open Go.RowKit
set_option maxRecDepth 100000
set_option linter.unusedVariables false
theorem owns_kept {w w' : World} {base : Nat} {e e' : TypeId} {size n S : Nat} {v : Value} {xs : List Value} {t : TypeId} {cs : Array Value} (h : w.ownsRow base e size v n xs) (hS : Blk w S t cs) (hk : Lib.OthersKept e' (some S) w w') (h1 : e ≠ t) (h2 : e ≠ e') : w'.ownsRow base e size v n xs := by
  have hne := own_blk_ne h hS h1
  rcases h with ⟨hl, ⟨rfl, h0⟩ | ⟨g, cap, cur, rfl, hb, hg, hr⟩⟩
  · exact ⟨hl, .inl ⟨rfl, h0⟩⟩
  · refine ⟨hl, .inr ⟨g, cap, cur, rfl, hb, hk g _ hg (fun e => hne (by simpa [Value.ownBlock] using e)) (fun c fz e => ?_), hr⟩⟩
    injection e with _ e
    exact h2 e
theorem owns_ne {w : World} {base base' : Nat} {e e' : TypeId} {size size' n n' : Nat} {v v' : Value} {xs xs' : List Value} (h : w.ownsRow base e size v n xs) (h' : w.ownsRow base' e' size' v' n' xs') (hne : e ≠ e') : v.ownBlock = none ∨ v.ownBlock ≠ v'.ownBlock := by
  rcases h with ⟨_, ⟨rfl, _⟩ | ⟨g, cap, cur, rfl, _, hg, _⟩⟩
  · exact .inl rfl
  · refine .inr fun e => ?_
    have h2 := own_blk_ne h' (show Blk w g _ cur from hg) (fun e => hne e.symm)
    exact h2 (by rw [← e]; rfl)
theorem PS.grown {w w' : World} {C : Nat} {cc : Array Value} {nms : List ByteArray} {base n : Nat} {v : Value} {xs : List Value} (h : PS w C cc nms) (ho : w.ownsRow base 9 1 v n xs) (hg : w.grownBy w' v.ownBlock) : PS w' C cc nms := by
  obtain ⟨V, ps, h1, h2⟩ := h
  refine ⟨V, ps, ⟨h1.c.grown hg (fun e => own_blk_ne ho h1.c (by decide) e.symm), h1.l.grown hg (fun e => own_blk_ne ho h1.l (by decide) e.symm), h1.s.grown hg (fun e => own_blk_ne ho h1.s (by decide) e.symm), h1.o.kept hg (owns_ne h1.o ho (by decide))⟩, h2.1, fun i u hu => ?_⟩
  obtain ⟨p, h3, h4⟩ := h2.2 i u hu
  exact ⟨p, h3, h4.grown hg (fun e => own_blk_ne ho h4 (by decide) e.symm)⟩
/-- the law's own list of names seen, beside the compiler's -/
structure Seen (w : World) (C : Nat) (cc : Array Value) (V : Value) (nms : List ByteArray) : Prop where
  p : PS w C cc nms
  o : w.ownsRow C 9 1 V nms.length (vStrs nms)
theorem Seen.drewN {w : World} {C : Nat} {cc : Array Value} {V : Value} {nms : List ByteArray} (h : Seen w C cc V nms) (n : Nat) : Seen (w.drewN n) C cc V nms := ⟨h.p.drewN n, h.o⟩
theorem PS.scope {w : World} {C : Nat} {cc : Array Value} {nms : List ByteArray} (h : PS w C cc nms) : ∃ cs, Blk w (C + 2) 127 cs := by
  obtain ⟨V, ps, h1, _⟩ := h
  exact ⟨_, h1.s⟩
/-- what a push of a name gives, with the rank named -/
def PushedAt (C : Nat) (cc : Array Value) (r : Nat) (V : Value) (nms : List ByteArray) (w : World) (e : Ending) (w' : World) : Prop :=
  e = .returned (.agg #[.int .i64 1, .int .i64 r]) ∧ Seen w' C cc V nms ∧ Below C w w'
theorem push_found (C : Nat) (cc : Array Value) (V : Value) (nms : List ByteArray) (x : ByteArray) (r : Nat) (w : World) (h8 : cc[8]? = some (.slice (some ⟨C + 3, 0, none⟩) 1 1)) (hs : Seen w C cc V nms) (hn : nms.length ≤ 10000000) (hr : rk nms x = r) (hlt : r < nms.length) :
    Calls Try.prog 44 #[.pointer (some ⟨C, 0, none⟩), .string x] w (PushedAt C cc r V nms w) := by
  obtain ⟨cs, hS⟩ := hs.p.scope
  refine (zz_push C cc nms x w h8 hs.p hn).mono ?_
  rintro e w' ⟨rfl, h1, h2, h3⟩
  subst hr
  refine ⟨rfl, ⟨?_, owns_kept hs.o hS h3 (by decide) (by decide)⟩, h2⟩
  rw [addN, if_pos hlt] at h1
  exact h1
theorem push_fresh (C : Nat) (cc : Array Value) (V : Value) (nms : List ByteArray) (x : ByteArray) (w : World) (h8 : cc[8]? = some (.slice (some ⟨C + 3, 0, none⟩) 1 1)) (hp : PS w C cc nms) (ho : w.ownsRow C 9 1 V (nms.length + 1) (vStrs nms ++ [.string x])) (hn : nms.length ≤ 10000000) (hr : rk nms x = nms.length) :
    Calls Try.prog 44 #[.pointer (some ⟨C, 0, none⟩), .string x] w (PushedAt C cc nms.length V (nms ++ [x]) w) := by
  obtain ⟨cs, hS⟩ := hp.scope
  refine (zz_push C cc nms x w h8 hp hn).mono ?_
  rintro e w' ⟨rfl, h1, h2, h3⟩
  refine ⟨by rw [hr], ⟨?_, ?_⟩, h2⟩
  · rw [addN, if_neg (by omega)] at h1
    exact h1
  · have := owns_kept ho hS h3 (by decide) (by decide)
    rw [List.length_append, vStrs, List.map_append]
    exact this
theorem Seen.alloc {w : World} {C : Nat} {cc : Array Value} {V : Value} {nms : List ByteArray} (h : Seen w C cc V nms) (o : Obj) : Seen (w.alloc o) C cc V nms := ⟨h.p.alloc o, h.o.alloc o⟩
theorem rk_found (nms : List ByteArray) (x y : ByteArray) (j : Nat) (hj : j < nms.length) (hy : nms[j] = y) (he : (y.toList == x.toList) = true) (hno : ∀ i (h : i < nms.length), i < j → (nms[i].toList == x.toList) = false) : rk nms x = j := by
  refine Nat.le_antisymm ?_ ?_
  · refine Nat.le_of_not_lt fun h => ?_
    have := List.not_of_lt_findIdx (p := fun y : ByteArray => y.toList == x.toList) (xs := nms) h
    simp only [hy] at this
    rw [he] at this
    exact absurd this (by simp)
  · refine Nat.le_of_not_lt fun h => ?_
    have hl : rk nms x < nms.length := by omega
    have h1 := List.findIdx_getElem (p := fun y : ByteArray => y.toList == x.toList) (xs := nms) (w := hl)
    have h2 := hno (rk nms x) hl h
    simp only [rk] at h2
    exact absurd (h1.symm.trans h2) (by simp)
theorem rk_fresh (nms : List ByteArray) (x : ByteArray) (hno : ∀ i (h : i < nms.length), (nms[i].toList == x.toList) = false) : rk nms x = nms.length := by
  have h0 : rk nms x ≤ nms.length := List.findIdx_le_length
  refine Nat.le_antisymm h0 (Nat.le_of_not_lt fun hl => ?_)
  have h1 := List.findIdx_getElem (p := fun y : ByteArray => y.toList == x.toList) (xs := nms) (w := hl)
  have h2 := hno (rk nms x) hl
  simp only [rk] at h2
  exact absurd (h1.symm.trans h2) (by simp)
set_option maxHeartbeats 8000000 in
theorem law_dedup (A : Option Addr) (c : Nat) (xs : List ByteArray) (w : World) (hA : A = none → c = 0 ∧ xs = []) (hx : RdAt w w.heap.size A (vStrs xs)) (hn : xs.length ≤ 9223372036854775807) :
    Calls Try.prog 8 #[.slice A xs.length c] w fun e w' => e = .returned (.bool true) ∧ Below w.heap.size w w' := by
  have hvl : (vStrs xs).length = xs.length := List.length_map _
  have hzz := Lib.hid (zzb_FnPushVariableDedupRank A c xs w hx hn)
  obtain ⟨i0, hi, hz0, hz1, hz2⟩ := info_parts info_cloneStrs
  by_cases hs : xs.length ≤ 4096
  · have hlb := Lib.hid (lawBytes_any 0 A c xs w hx (by omega))
    have hcl : Hid (Calls Try.prog 23 #[.slice A xs.length c] w (Copied (vStrs xs) w)) := by
      show Calls _ _ _ _ _
      cases A with
      | none => obtain ⟨rfl, rfl⟩ := hA rfl; exact cloneStrs_nil w
      | some a =>
        have h := cloneStrs_some a c (vStrs xs) w hx (fun x hx => by
          obtain ⟨y, _, rfl⟩ := List.mem_map.1 hx
          exact ⟨y, rfl⟩) (by rw [hvl]; omega)
        rw [hvl] at h
        exact h
    have hmk : ∀ W : World, (Instr.makeSlice 39 (.int .i64 0) (.int .i64 (xs.length : Int))).run Try.prog W = .ok (.slice (some ⟨W.heap.size, 0, none⟩) 0 xs.length) (W.alloc (.cells (madeCells #[.string ⟨#[]⟩] (xs.length * 1)) 9)) := by
      intro W
      have h := run_make_rowN (P := Try.prog) 39 9 i0 _ Try.underlying39 hi hz0 .i64 .i64 0 xs.length (by omega) (by rw [hz2]; omega) (by omega) W
      rw [hz1] at h
      exact h
    have HV := Lib.hid hvl
    have HI := Lib.hid hi
    have HZ0 := Lib.hid hz0
    have HZ1 := Lib.hid hz1
    have HZ2 := Lib.hid hz2
    clear hA hx hvl hi hz0 hz1 hz2
    go_enter Try.func8, Try.ntmps8
    go_wp2_with fail
    with_reducible refine (hzz.out).mono ?_
    rintro e0 w0 ⟨b, rfl, rfl⟩
    cases b
    · go_wp2_with fail
      go_ret
      exact ⟨rfl, Below.refl _ _⟩
    · go_wp2_with fail
      with_reducible refine (hlb.out).mono ?_
      rintro e0 w0 ⟨m, rfl, rfl⟩
      by_cases hm : 1048576 < m
      · go_wp2_with fail
        go_ret
        exact ⟨rfl, Below.refl _ _⟩
      · go_wp2_with fail
        with_reducible refine (hcl.out).mono ?_
        rintro e1 w1 ⟨Ax, cx, rfl, hR, hb1⟩
        rw [HV.out]
        have HR := Lib.hid hR
        have hnc := Lib.hid (newC77 w1)
        clear hR hm
        go_wp2_with fail
        with_reducible refine (hnc.out).mono ?_
        rintro e2 w2 ⟨cc0, rfl, hC0, _, _, h80, hl0, hs0, hb2, hsz2⟩
        have ST0 : Hid (Seen (w2.alloc (.cells (madeCells #[.string ⟨#[]⟩] xs.length) 9)) w1.heap.size cc0 (.slice (some ⟨w1.heap.size + 4, 0, none⟩) 0 xs.length) []) := by
          show Seen _ _ _ _ _
          rw [← hsz2]
          exact ⟨PS.alloc ⟨_, _, ⟨hC0, hl0, hs0, World.ownsRow_nil _ _ _ _⟩, rfl, fun i v hv => by simp [vsOf] at hv⟩ _, World.ownsRow_made _ _ _ hb2.size (by unfold maxLen; omega) (by rw [size_madeCells, Nat.mul_one])⟩
        have H80 := Lib.hid h80
        clear hC0 hl0 hs0 h80
        go_wp2_with fail
        clear hmk
        go_loopw [4, 5] (fun s i wr => ∃ (j : Nat) (V : Value) (nms : List ByteArray), s = V ∧ i = .int .i64 j ∧ j ≤ xs.length ∧ nms.length ≤ j ∧ Seen wr w1.heap.size cc0 V nms ∧ Below w1.heap.size w1 wr) (fun _ i _ => xs.length - (intOf i).toNat)
        case atStart => exact ⟨0, _, [], rfl, rfl, by omega, by simp, ST0.out, hb2.alloc hb2.size _⟩
        case round =>
          obtain ⟨j, V, nms, rfl, rfl, hj, hnj, hst, hbw⟩ := hrel
          obtain ⟨AV, capV, rfl, hcell⟩ := own_open hst.o
          have HST := Lib.hid hst
          have HCE := Lib.hid hcell
          by_cases hlt : j < xs.length
          · obtain ⟨g, o, rfl, hg, c1⟩ := HR.out j _ (vStrs_at xs j hlt)
            obtain ⟨x, hxx⟩ : ∃ x, Hid (xs[j] = x) := ⟨_, Lib.hid rfl⟩
            rw [hxx.out] at c1
            have c0 := ((bcell hbw).1 g (o + j) hg).trans c1
            clear hst hxx hcell
            go_wp2_with fail
            go_loopw [6, 7] (fun r i wi => ∃ (jj m : Nat), r = .int .i64 (-1) ∧ i = .int .i64 jj ∧ jj ≤ nms.length ∧ wi = wr.drewN m ∧ Hid (∀ i (h : i < nms.length), i < jj → (nms[i].toList == x.toList) = false)) (fun _ i _ => nms.length - (intOf i).toNat)
            case atStart => exact ⟨0, 0, rfl, rfl, by omega, rfl, fun i h hi => absurd hi (by omega)⟩
            case round =>
              obtain ⟨jj, m, rfl, rfl, hjj, rfl, hno⟩ := hrel
              by_cases hlj : jj < nms.length
              · obtain ⟨gv, rfl, cv⟩ := HCE.out jj _ (vStrs_at nms jj hlj)
                obtain ⟨y, hy⟩ : ∃ y, Hid (nms[jj] = y) := ⟨_, Lib.hid rfl⟩
                rw [hy.out] at cv
                have hgv := World.block_lt_of_cell? wr _ cv
                by_cases heq : (y.toList == x.toList) = true
                · have hrk := rk_found nms x y jj hlj hy.out heq hno.out
                  have hc := Lib.hid fun n => push_found w1.heap.size cc0 (.slice (some ⟨gv, 0, none⟩) nms.length capV) nms x jj (wr.drewN n) H80.out (HST.out.drewN n) (by omega) hrk hlj
                  have hne : ((jj : Int) != (jj : Int)) = false := by simp
                  go_wp2_with fail
                  go_quiet (fail)
                  go_wp2_with fail
                  with_reducible refine (hc.out _).mono ?_
                  rintro e3 w3 ⟨rfl, h31, h32⟩
                  have H31 := Lib.hid h31
                  have hb3 := (below_drewN hbw (m + nq)).trans h32
                  clear h31 h32
                  go_wp2_with fail
                  go_roundw
                  case rel => exact ⟨j + 1, _, nms, rfl, by go_num, by omega, by omega, H31.out.alloc _, hb3.alloc hb3.size _⟩
                  case measure => simp [intOf]; omega
                · rw [Bool.not_eq_true] at heq
                  go_wp2_with fail
                  go_quiet (fail)
                  go_wp2_with fail
                  go_roundw
                  case rel =>
                    refine ⟨jj + 1, _, rfl, by go_num, by omega, rfl, ?_⟩
                    intro i h hi
                    by_cases hij : i = jj
                    · subst hij
                      rw [hy.out]
                      exact heq
                    · exact hno.out i h (by omega)
                  case measure => simp [intOf]; omega
              · have hje : jj = nms.length := by omega
                subst hje
                have hrk := rk_fresh nms x (fun i h => hno.out i h h)
                have hbz := hbw.size
                go_wp2_with (at_builtin; refine wpList_append_lies _ rfl (.tmp 50) (.tmp 55) 39 rfl w1.heap.size 9 i0 (.string ⟨#[]⟩) 1 16 Try.underlying39 HI.out HZ0.out HZ1.out HZ2.out rfl (by decide) (.slice AV nms.length capV) nms.length (vStrs nms) rfl ((HST.out.drewN m).o.alloc _) ⟨wr.heap.size, 0, none⟩ 1 1 [.string x] rfl rfl ?c1 ?c2 (by omega) ?c3 ?c4 ?c5 _ rfl ?_)
                case c1 => exact one_cell (w := wr.drewN m) (.string x) 9 rfl
                case c2 => intro u hu; simp at hu; subst hu; rfl
                case c3 => unfold maxLen; omega
                case c4 => omega
                case c5 => simp [World.drewN]; omega
                intro g4 cap4 w4 hown1 hgrow hat hlt4
                have hO := (HST.out.drewN m).o.alloc (.cells #[.string x] 9)
                have hp4 : PS w4 w1.heap.size cc0 nms := ((HST.out.drewN m).p.alloc (.cells #[.string x] 9)).grown hO hgrow
                have hb4 : Below w1.heap.size w1 w4 := ((below_drewN hbw m).alloc hbz _).grown hgrow (by simp [World.drewN]; omega) (fun k hk => (hO.lt k hk).1)
                have hc := Lib.hid (push_fresh w1.heap.size cc0 (.slice (some ⟨g4, 0, none⟩) (nms.length + 1) cap4) nms x w4 H80.out hp4 hown1 (by omega) hrk)
                have c4 := ((bcell hb4).1 g (o + j) hg).trans c1
                have hne : ((nms.length : Int) != (nms.length : Int)) = false := by simp
                clear hO hp4 hown1 hgrow hat c0 c1
                go_wp2_with fail
                with_reducible refine (hc.out).mono ?_
                rintro e3 w3 ⟨rfl, h31, h32⟩
                have H31 := Lib.hid h31
                have hb3 := hb4.trans h32
                clear h31 h32
                go_wp2_with fail
                go_roundw
                case rel => exact ⟨j + 1, _, nms ++ [x], rfl, by go_num, by omega, by simp; omega, H31.out.alloc _, hb3.alloc hb3.size _⟩
                case measure => simp [intOf]; omega
          · obtain ⟨V', ps, hst', _⟩ := hst.p
            obtain ⟨A', cap', rfl, _⟩ := own_open hst'.o
            have c0 : wr.cell? ⟨w1.heap.size + 2, 0, none⟩ = some (.slice A' nms.length cap') := hst'.s.cell 0
            have c4 : wr.cell? ⟨w1.heap.size + 2, 4, none⟩ = some (.int .i64 nms.length) := hst'.s.cell 4
            have ht := hst'.top H80.out
            have h1 := Lib.hid (topVars w1.heap.size _ _ A' nms.length cap' wr ht c0)
            have h2 := Lib.hid fun n => topCnt w1.heap.size _ _ nms.length (wr.drewN n) ⟨ht.c, ht.l⟩ c4
            have hnn : ((nms.length : Int) == (nms.length : Int)) = true := by simp
            clear hst ht c0 c4 hst' hcell
            go_wp2_with fail
            with_reducible refine (h1.out).mono ?_
            rintro e3 w3 ⟨rfl, n3, rfl⟩
            go_wp2_with fail
            with_reducible refine (h2.out _).mono ?_
            rintro e4 w4 ⟨rfl, n4, rfl⟩
            go_wp2_with fail
            go_ret
            exact ⟨rfl, hb1.trans ((below_drewN hbw _).mono hb1.size)⟩
  · clear hx hA hvl
    go_enter Try.func8, Try.ntmps8
    go_wp2_with fail
    with_reducible refine (hzz.out).mono ?_
    rintro e0 w0 ⟨b, rfl, rfl⟩
    cases b
    all_goals
      go_wp2_with fail
      go_ret
      exact ⟨rfl, Below.refl _ _⟩
end Go.Proofs.Ytbkakiipaehleaa
