/- The walk of FnScopeStackBehavesAsLIFOStack: true at every script. -/
import Derived.Test.YtbkakiipaehleaaStk7
import Derived.Test.YtbkakiipaehleaaLawF
namespace Go.Proofs.Ytbkakiipaehleaa
open Go.RowKit
set_option maxRecDepth 100000
set_option linter.unusedVariables false
theorem infoZs : (Try.prog.info? 31).map (fun i => (i.zero, i.size, i.bytes)) = some (some (.agg #[.int .i64 0, .int .i64 0, .int .i64 0, .int .i64 0, .int .i64 0]), 5, 40) := by kernel_rfl
theorem one_sc (p : Sc) : ∀ u ∈ sc5 p, u.oneCell' = true := by
  intro u hu
  simp [sc5] at hu
  rcases hu with rfl | rfl | rfl | rfl | rfl <;> rfl
theorem ST.grown {w w' : World} {base base' SB : Nat} {i L : Int} {m : List Sc} {sv : List (Sv Sc)} {n k size : Nat} {v : Value} {xs : List Value} {t : TypeId} (h : ST w base SB i L m sv n) (ho : w.ownsRow base' t size v k xs) (h1 : t ≠ 148) (h2 : t ≠ 161) (hg : w.grownBy w' v.ownBlock) : ST w' base SB i L m sv n := by
  obtain ⟨D, ds, hs, hk, hl⟩ := h
  exact ⟨D, ds, ⟨hs.s.grown hg (fun e => own_blk_ne ho hs.s h1 e.symm), hs.o.kept hg (owns_ne hs.o ho (fun e => h2 e.symm))⟩, hk, hl⟩
theorem ST.blk {w : World} {base SB : Nat} {i L : Int} {m : List Sc} {sv : List (Sv Sc)} {n : Nat} (h : ST w base SB i L m sv n) : ∃ cs, Blk w SB 148 cs := by
  obtain ⟨D, ds, hs, _⟩ := h
  exact ⟨_, hs.s⟩
/-- a row of scopes of the law's own, opened at its last -/
theorem last_cells {w : World} {base g cap : Nat} {m : List Sc} {x : Sc} {n : Nat} (hn : n = m.length + 1) (h : w.ownsRow base 31 5 (.slice (some ⟨g, 0, none⟩) n cap) n (flat sc5 (m ++ [x]))) : ∀ o, o < 5 → w.cell? ⟨g, m.length * 5 + o, none⟩ = (sc5 x)[o]? := by
  intro o ho
  have h1 := flat_at sc5 5 sc5_len (m ++ [x]) m.length x (by simp) o ho
  have h2 : (sc5 x)[o]? = some (sc5 x)[o] := List.getElem?_eq_getElem (by rw [sc5_len]; exact ho)
  rw [h2] at h1 ⊢
  have h3 := h.cells (g := g) rfl _ _ h1
  rw [Go.WideShapes.add_plain] at h3
  rw [Nat.zero_add] at h3
  exact h3
theorem own_last {w : World} {base : Nat} {V : Value} {m : List Sc} {x : Sc} (h : w.ownsRow base 31 5 V (m.length + 1) (flat sc5 (m ++ [x]))) : ∃ g cap, V = .slice (some ⟨g, 0, none⟩) (m.length + 1) cap ∧ m.length + 1 ≤ cap ∧ g < w.heap.size ∧ w.ownsRow base 31 5 (.slice (some ⟨g, 0, none⟩) m.length cap) m.length (flat sc5 m) := by
  obtain ⟨A, cap, rfl, hA⟩ := own_open2 h
  obtain ⟨g, rfl⟩ := hA (by omega)
  obtain ⟨cur, hg, hcap, _⟩ := owns_row h
  refine ⟨g, cap, rfl, hcap, (h.lt g rfl).2, ?_⟩
  have := owns_take h m.length (by omega)
  rw [flat_take sc5 5 sc5_len] at this
  exact this
set_option maxHeartbeats 8000000 in
theorem law_lifo (A A' : Option Addr) (c c' : Nat) (os vs : List Int) (w : World) (ho : RdAt w w.heap.size A (vBs os)) (hob : ∀ x ∈ os, 0 ≤ x ∧ x ≤ 255) (hv : RdAt w w.heap.size A' (vInts vs)) :
    Calls Try.prog 10 #[.slice A os.length c, .slice A' vs.length c'] w fun e w' => e = .returned (.bool true) ∧ Below w.heap.size w w' := by
  have hzz := Lib.hid (zzb_lifo A A' c c' os.length vs.length w)
  obtain ⟨i0, hi, hz0, hz1, hz2⟩ := info_parts infoZs
  have HO := Lib.hid ho
  have HOB := Lib.hid hob
  have HV := Lib.hid hv
  have HI := Lib.hid hi
  have HZ0 := Lib.hid hz0
  have HZ1 := Lib.hid hz1
  have HZ2 := Lib.hid hz2
  have hmk : ∀ W : World, (Instr.makeSlice 27 (.int .i64 0) (.int .i64 0)).run Try.prog W = .ok (.slice (some ⟨W.heap.size, 0, none⟩) 0 0) (W.alloc (.cells (madeCells (Value.agg #[.int .i64 0, .int .i64 0, .int .i64 0, .int .i64 0, .int .i64 0]).cells 0) 31)) := by
    intro W
    have h := run_make_rowN (P := Try.prog) 27 31 i0 _ Try.underlying27 hi hz0 .i64 .i64 0 0 (by omega) (by rw [hz2]; omega) (by omega) W
    rw [hz1] at h
    exact h
  clear ho hob hv hi hz0 hz1 hz2
  go_enter Try.func10, Try.ntmps10
  go_wp2_with fail
  with_reducible refine (hzz.out).mono ?_
  rintro e0 w0 ⟨b, rfl, rfl, hb⟩
  cases b
  · clear hb
    go_wp2_with fail
    go_ret
    exact ⟨rfl, Below.refl _ _⟩
  · have hb := hb rfl
    by_cases h1 : os.length + 8 * vs.length ≤ 1048576
    · by_cases h2 : os.length ≤ 65536
      · have hst := Lib.hid (zz_stack w)
        go_wp2_with fail
        with_reducible refine (hst.out).mono ?_
        rintro e1 w1 ⟨rfl, hs1, hb1, hsz1⟩
        have HS1 := Lib.hid hs1
        have HSZ := Lib.hid hsz1
        clear hs1 hsz1
        have hz1' : w.heap.size ≤ w1.heap.size := hb1.size
        have ST0 : Hid ((w1.alloc (.cells (madeCells (Value.agg #[.int .i64 0, .int .i64 0, .int .i64 0, .int .i64 0, .int .i64 0]).cells 0) 31)).ownsRow w.heap.size 31 5 (.slice (some ⟨w1.heap.size, 0, none⟩) 0 0) 0 (flat sc5 [])) := World.ownsRow_made _ _ _ hb1.size (by unfold maxLen; omega) (by rw [size_madeCells])
        go_wp2_with fail
        clear hmk
        go_loopw [6, 7] (fun s i wr => ∃ (j : Nat) (V : Value) (m : List Sc) (ii : Int), s = V ∧ i = .int .i64 j ∧ j ≤ os.length ∧ m.length ≤ j ∧ ST wr w.heap.size w.heap.size ii (-1) m [] j ∧ wr.ownsRow w.heap.size 31 5 V m.length (flat sc5 m) ∧ Below w.heap.size w wr) (fun _ i _ => os.length - (intOf i).toNat)
        case atStart => exact ⟨0, _, [], _, rfl, rfl, by omega, by simp, HS1.out.alloc _, ST0.out, hb1.alloc hb1.size _⟩
        case round =>
          obtain ⟨j, V, m, ii, rfl, rfl, hj, hmj, hs, hown, hbw⟩ := hrel
          have hbz := hbw.size
          obtain ⟨AV, capV, rfl, hAV⟩ := own_open2 hown
          by_cases hlt : j < os.length
          · obtain ⟨b, hbb⟩ : ∃ b, decide (m.length = 0) = b := ⟨_, rfl⟩
            have hem := zz_empty w.heap.size w.heap.size ii (-1) m [] j wr hs
            rw [hbb] at hem
            have hbe : ((m.length : Int) == 0) = b := by rw [← hbb]; rw [Bool.eq_iff_iff]; simp
            have hbn : (b != b) = false := by simp
            have HEM := Lib.hid hem
            have HBB := Lib.hid hbb
            obtain ⟨g, o, rfl, hg, c1⟩ := HO.out j _ (vBs_at os j hlt)
            obtain ⟨x8, hx8⟩ : ∃ x, Hid (os[j] = x) := ⟨_, Lib.hid rfl⟩
            rw [hx8.out] at c1
            have hx8b := HOB.out os[j] (List.getElem_mem hlt)
            rw [hx8.out] at hx8b
            obtain ⟨hx80, hx81⟩ := hx8b
            have c0 := ((bcell hbw).1 g (o + j) hg).trans c1
            have HS := Lib.hid hs
            have HOWN := Lib.hid hown
            have HAV := Lib.hid hAV
            clear hem hbb hs hown hAV c1
            by_cases hpar : x8 % 2 = 0
            · go_wp2_with fail
              with_reducible refine (HEM.out).mono ?_
              rintro e2 w2 ⟨rfl, rfl⟩
              have hmake := Lib.hid (make_any w.heap.size A' c' vs j m.length wr (HV.out.below hbw) hbz (by omega) (by omega))
              go_wp2_with fail
              with_reducible refine (hmake.out).mono ?_
              rintro e3 w3 ⟨x, ob, rfl, rfl⟩
              have hpu := Lib.hid (zzPush_any w.heap.size w.heap.size ii (-1) m [] j x ((wr.alloc ob).alloc (.cells #[.int .i64 x.a, .int .i64 x.b, .int .i64 x.c, .int .i64 x.d, .int .i64 x.e] 31)) ((HS.out.alloc _).alloc _) (Nat.le_refl _) (by omega))
              go_wp2_with fail
              with_reducible refine (hpu.out).mono ?_
              rintro e4 w4 ⟨rfl, ⟨i4, hs4⟩, hb4, hk4⟩
              obtain ⟨cs, hSB⟩ := HS.out.blk
              have ho4 := owns_kept ((HOWN.out.alloc ob).alloc (.cells #[.int .i64 x.a, .int .i64 x.b, .int .i64 x.c, .int .i64 x.d, .int .i64 x.e] 31)) ((hSB.alloc _).alloc _) hk4 (by decide) (by decide)
              have hx4 := (Blk.at_ (w := wr.alloc ob) (k := wr.heap.size + 1) 31 #[.int .i64 x.a, .int .i64 x.b, .int .i64 x.c, .int .i64 x.d, .int .i64 x.e] (by simp)).kept hk4 (by intro e; injection e with e; omega) (by decide)
              have hbb4 : Below w.heap.size w w4 := ((hbw.alloc hbz _).alloc (by simp; omega) _).trans hb4
              have x0 : w4.cell? ⟨wr.heap.size + 1, 0, none⟩ = some (.int .i64 x.a) := hx4.cell 0
              have x1 : w4.cell? ⟨wr.heap.size + 1, 1, none⟩ = some (.int .i64 x.b) := hx4.cell 1
              have x2 : w4.cell? ⟨wr.heap.size + 1, 2, none⟩ = some (.int .i64 x.c) := hx4.cell 2
              have x3 : w4.cell? ⟨wr.heap.size + 1, 3, none⟩ = some (.int .i64 x.d) := hx4.cell 3
              have x4 : w4.cell? ⟨wr.heap.size + 1, 4, none⟩ = some (.int .i64 x.e) := hx4.cell 4
              have hbz4 := hbb4.size
              have HS4 := Lib.hid hs4
              have HO4 := Lib.hid ho4
              clear hs4 ho4 hx4 hk4 hb4 hSB c0
              go_wp2_with (at_builtin; refine wpList_append_lies _ rfl (.tmp 53) (.tmp 55) 27 rfl w.heap.size 31 i0 (.agg #[.int .i64 0, .int .i64 0, .int .i64 0, .int .i64 0, .int .i64 0]) 5 40 Try.underlying27 HI.out HZ0.out HZ1.out HZ2.out rfl (by decide) (.slice AV m.length capV) m.length (flat sc5 m) rfl (HO4.out.alloc _) ⟨w4.heap.size, 0, none⟩ 1 1 (sc5 x) rfl rfl ?c1 (one_sc _) (by omega) ?c3 ?c4 ?c5 _ rfl ?_)
              case c1 => exact row_cells (w := w4) (sc5 x) 31 rfl
              case c3 => unfold maxLen; omega
              case c4 => omega
              case c5 => simp; omega
              intro g5 cap5 w5 hown5 hgrow5 hat5 hlt5
              have ho4a := HO4.out.alloc (.cells #[.int .i64 x.a, .int .i64 x.b, .int .i64 x.c, .int .i64 x.d, .int .i64 x.e] 31)
              have hs5 := Lib.hid ((HS4.out.alloc (.cells #[.int .i64 x.a, .int .i64 x.b, .int .i64 x.c, .int .i64 x.d, .int .i64 x.e] 31)).grown ho4a (by decide) (by decide) hgrow5)
              have hb5 : Below w.heap.size w w5 := (hbb4.alloc hbz4 _).grown hgrow5 (by simp; omega) (fun k hk => (ho4a.lt k hk).1)
              have HO5 := Lib.hid hown5
              clear hown5 hgrow5 hat5 ho4a
              go_wp2_with fail
              go_roundw
              case rel => exact ⟨j + 1, _, m ++ [x], i4, rfl, by go_num, by omega, by simp; omega, hs5.out, by rw [List.length_append, flat_snoc]; exact HO5.out, hb5⟩
              case measure => simp [intOf]; omega
            · by_cases hm0 : 0 < m.length
              · obtain ⟨m', x, rfl⟩ : ∃ m' x, m = m' ++ [x] := by
                  rcases List.eq_nil_or_concat m with rfl | ⟨m', x, rfl⟩
                  · simp at hm0
                  · exact ⟨m', x, by simp⟩
                have hlen : (m' ++ [x]).length = m'.length + 1 := by simp
                have hbf : b = false := by rw [← HBB.out]; simp
                subst hbf
                clear hbe hbn
                have hbe : ((m'.length : Int) + 1 == 0) = false := by simp; omega
                rw [hlen] at HOWN hmj ⊢
                obtain ⟨gV, capV', hVV, hcap, hgl, hown'⟩ := own_last HOWN.out
                obtain ⟨rfl, rfl⟩ : AV = some ⟨gV, 0, none⟩ ∧ capV = capV' := by simpa using hVV
                have row := last_cells rfl HOWN.out
                have r0 : wr.cell? ⟨gV, m'.length * 5, none⟩ = some (.int .i64 x.a) := row 0 (by omega)
                have r1 : wr.cell? ⟨gV, m'.length * 5 + 1, none⟩ = some (.int .i64 x.b) := row 1 (by omega)
                have r2 : wr.cell? ⟨gV, m'.length * 5 + 2, none⟩ = some (.int .i64 x.c) := row 2 (by omega)
                have r3 : wr.cell? ⟨gV, m'.length * 5 + 3, none⟩ = some (.int .i64 x.d) := row 3 (by omega)
                have r4 : wr.cell? ⟨gV, m'.length * 5 + 4, none⟩ = some (.int .i64 x.e) := row 4 (by omega)
                have HOW' := Lib.hid hown'
                have hpo := Lib.hid (zzPop_any w.heap.size w.heap.size ii (-1) m' [] j x (wr.alloc (.cells #[.int .i64 x.a, .int .i64 x.b, .int .i64 x.c, .int .i64 x.d, .int .i64 x.e] 31)) (HS.out.alloc _) (Nat.le_refl _) (by omega))
                clear row hown' hVV hlen
                go_wp2_with fail
                with_reducible refine (HEM.out).mono ?_
                rintro e2 w2 ⟨rfl, rfl⟩
                go_wp2_with fail
                with_reducible refine (hpo.out).mono ?_
                rintro e4 w4 ⟨rfl, ⟨i4, hs4⟩, hb4, hk4⟩
                obtain ⟨cs, hSB⟩ := HS.out.blk
                have ho4 := Lib.hid (owns_kept (HOW'.out.alloc (.cells #[.int .i64 x.a, .int .i64 x.b, .int .i64 x.c, .int .i64 x.d, .int .i64 x.e] 31)) (hSB.alloc _) hk4 (by decide) (by decide))
                have hbb4 : Below w.heap.size w w4 := (hbw.alloc hbz _).trans hb4
                have HS4 := Lib.hid hs4
                clear hs4 hk4 hb4 hSB c0
                go_wp2_with fail
                go_roundw
                case rel => exact ⟨j + 1, _, m', i4, rfl, by go_num, by omega, by omega, HS4.out.mono (by omega), ho4.out, hbb4⟩
                case measure => simp [intOf]; omega
              · go_wp2_with fail
                with_reducible refine (HEM.out).mono ?_
                rintro e2 w2 ⟨rfl, rfl⟩
                go_wp2_with fail
                go_roundw
                case rel => exact ⟨j + 1, _, m, ii, rfl, by go_num, by omega, by omega, HS.out.mono (by omega), HOWN.out, hbw⟩
                case measure => simp [intOf]; omega
          · have HS := Lib.hid hs
            have HOWN := Lib.hid hown
            clear hs hown hAV
            go_wp2_with fail
            go_loopw [6] (fun s wr => ∃ (V : Value) (m : List Sc) (ii : Int), s = V ∧ m.length ≤ os.length ∧ ST wr w.heap.size w.heap.size ii (-1) m [] os.length ∧ wr.ownsRow w.heap.size 31 5 V m.length (flat sc5 m) ∧ Below w.heap.size w wr) (fun s _ => match s with | .slice _ n _ => n | _ => 0)
            case atStart => exact ⟨_, m, _, rfl, by omega, HS.out.mono (by omega), HOWN.out, hbw⟩
            case round =>
              obtain ⟨V, m, ii, rfl, hmj, hs, hown, hbw⟩ := hrel
              have hbz := hbw.size
              by_cases hm0 : 0 < m.length
              · obtain ⟨m', x, rfl⟩ : ∃ m' x, m = m' ++ [x] := by
                  rcases List.eq_nil_or_concat m with rfl | ⟨m', x, rfl⟩
                  · simp at hm0
                  · exact ⟨m', x, by simp⟩
                have hlen : (m' ++ [x]).length = m'.length + 1 := by simp
                have hem := zz_empty w.heap.size w.heap.size ii (-1) (m' ++ [x]) [] os.length wr hs
                have hbf : decide ((m' ++ [x]).length = 0) = false := by simp
                rw [hbf] at hem
                rw [hlen] at hown hmj
                obtain ⟨gV, capV, rfl, hcap, hgl, hown'⟩ := own_last hown
                have row := last_cells rfl hown
                have r0 : wr.cell? ⟨gV, m'.length * 5, none⟩ = some (.int .i64 x.a) := row 0 (by omega)
                have r1 : wr.cell? ⟨gV, m'.length * 5 + 1, none⟩ = some (.int .i64 x.b) := row 1 (by omega)
                have r2 : wr.cell? ⟨gV, m'.length * 5 + 2, none⟩ = some (.int .i64 x.c) := row 2 (by omega)
                have r3 : wr.cell? ⟨gV, m'.length * 5 + 3, none⟩ = some (.int .i64 x.d) := row 3 (by omega)
                have r4 : wr.cell? ⟨gV, m'.length * 5 + 4, none⟩ = some (.int .i64 x.e) := row 4 (by omega)
                have HOW' := Lib.hid hown'
                have HS := Lib.hid hs
                have HEM := Lib.hid hem
                have hpo := Lib.hid (zzPop_any w.heap.size w.heap.size ii (-1) m' [] os.length x (wr.alloc (.cells #[.int .i64 x.a, .int .i64 x.b, .int .i64 x.c, .int .i64 x.d, .int .i64 x.e] 31)) (hs.alloc _) (Nat.le_refl _) (by omega))
                clear row hown' hown hs hlen hem hbf
                go_wp2_with fail
                with_reducible refine (HEM.out).mono ?_
                rintro e2 w2 ⟨rfl, rfl⟩
                go_wp2_with fail
                with_reducible refine (hpo.out).mono ?_
                rintro e4 w4 ⟨rfl, ⟨i4, hs4⟩, hb4, hk4⟩
                obtain ⟨cs, hSB⟩ := HS.out.blk
                have ho4 := Lib.hid (owns_kept (HOW'.out.alloc (.cells #[.int .i64 x.a, .int .i64 x.b, .int .i64 x.c, .int .i64 x.d, .int .i64 x.e] 31)) (hSB.alloc _) hk4 (by decide) (by decide))
                have hbb4 : Below w.heap.size w w4 := (hbw.alloc hbz _).trans hb4
                have HS4 := Lib.hid hs4
                clear hs4 hk4 hb4 hSB
                go_wp2_with fail
                go_roundw
                case rel => exact ⟨_, m', i4, rfl, by omega, HS4.out, ho4.out, hbb4⟩
                case measure => simp
              · obtain rfl : m = [] := List.length_eq_zero_iff.1 (by omega)
                obtain ⟨AV, capV, rfl, _⟩ := own_open2 hown
                have HEM := Lib.hid (zz_empty w.heap.size w.heap.size ii (-1) [] [] os.length wr hs)
                clear hs hown
                go_wp2_with fail
                with_reducible refine (HEM.out).mono ?_
                rintro e2 w2 ⟨rfl, rfl⟩
                go_wp2_with fail
                go_ret
                exact ⟨rfl, hbw⟩
      · go_wp2_with fail
        go_ret
        exact ⟨rfl, Below.refl _ _⟩
    · go_wp2_with fail
      go_ret
      exact ⟨rfl, Below.refl _ _⟩
end Go.Proofs.Ytbkakiipaehleaa
