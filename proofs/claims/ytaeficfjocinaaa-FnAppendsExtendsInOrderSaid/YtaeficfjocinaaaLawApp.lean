/- The walk of FnAppendsExtendsInOrder: true at every four lists. -/
import Derived.Test.YtaeficfjocinaaaBui2
import Derived.Test.YtaeficfjocinaaaZzb
namespace Go.Proofs.Ytaeficfjocinaaa
open Go.RowKit
set_option maxRecDepth 100000
set_option linter.unusedVariables false
theorem infoCd : ∃ jj, Try.prog.info? 90 = some jj := Option.isSome_iff_exists.1 (by kernel_rfl)
/-- the batch under way -/
structure Bat (w : World) (base C G : Nat) (cc : Array Value) (V : Value) (cs : List (Option Cd)) (arr : Array Value) (xs : List (Option Cd)) (nb : Nat) : Prop where
  cs : CS w base C cc V cs
  vg : V.ownBlock ≠ some G
  g : Blk w G 35 arr
  sz : arr.size = nb
  ar : ∀ (i : Nat) (x : Option Cd), xs[i]? = some x → arr[i]? = some (pv x)
  at_ : ∀ c, some c ∈ xs → Blk w c.b 90 #[c.v, .int .i64 c.op] ∧ base ≤ c.b
theorem CS.alloc {w : World} {base C : Nat} {cc : Array Value} {V : Value} {cs : List (Option Cd)} (h : CS w base C cc V cs) (o : Obj) : CS (w.alloc o) base C cc V cs := ⟨h.c.alloc o, h.h5, h.o.alloc o, fun c hc => (h.at_ c hc).alloc o, h.lo, h.le⟩
theorem CS.far {w : World} {base C G i : Nat} {cc : Array Value} {V : Value} {cs : List (Option Cd)} {arr : Array Value} (h : CS w base C cc V cs) (hG : Blk w G 35 arr) (hV : V.ownBlock ≠ some G) (u : Value) : CS (w.setCell ⟨G, i, none⟩ u) base C cc V cs :=
  ⟨h.c.far (p := ⟨G, i, none⟩) (h.c.ne_ hG (by decide)) u, h.h5, owns_far h.o (p := ⟨G, i, none⟩) hV u, fun c hc => (h.at_ c hc).far (p := ⟨G, i, none⟩) ((h.at_ c hc).ne_ hG (by decide)) u, h.lo, h.le⟩
theorem CS.drew {w : World} {base C : Nat} {cc : Array Value} {V : Value} {cs : List (Option Cd)} (h : CS w base C cc V cs) : CS w.drew base C cc V cs := ⟨h.c, h.h5, h.o, h.at_, h.lo, h.le⟩
theorem Bat.step {w : World} {base C G : Nat} {cc : Array Value} {V : Value} {cs : List (Option Cd)} {arr : Array Value} {xs : List (Option Cd)} {nb j : Nat} {x y : Int} (h : Bat w base C G cc V cs arr xs nb) (hj : xs.length = j) (hlt : j < nb) (hb : base ≤ w.heap.size) :
    Bat ((w.setCell ⟨G, j, none⟩ (.pointer (some ⟨w.heap.size, 0, none⟩))).alloc (.cells #[.iface 3 (.int .i64 y), .int .i64 x] 90)).drew base C G cc V cs (arr.setIfInBounds j (.pointer (some ⟨w.heap.size, 0, none⟩))) (xs ++ [ic w.heap.size x y]) nb := by
  refine ⟨((h.cs.far h.g h.vg _).alloc _).drew, h.vg, ((h.g.set_ _ _).alloc _).drew, by rw [Array.size_setIfInBounds]; exact h.sz, fun i z hz => ?_, fun c hc => ?_⟩
  · by_cases hij : i = j
    · subst hij
      rw [List.getElem?_append_right (by omega)] at hz
      simp [hj] at hz
      subst hz
      rw [Array.getElem?_setIfInBounds_self_of_lt (by rw [h.sz]; exact hlt)]
      rfl
    · have hil := lt_of_some hz
      simp at hil
      rw [List.getElem?_append_left (by omega)] at hz
      rw [Array.getElem?_setIfInBounds_ne (by omega)]
      exact h.ar i z hz
  · rcases List.mem_append.1 hc with hc | hc
    · exact ⟨(((h.at_ c hc).1.far (p := ⟨G, j, none⟩) ((h.at_ c hc).1.ne_ h.g (by decide)) _).alloc _).drew, (h.at_ c hc).2⟩
    · have hc : ic w.heap.size x y = some c := (List.mem_singleton.1 hc).symm
      injection hc with hc
      subst hc
      exact ⟨(Blk.at_ _ _ (by simp [World.setCell])).drew, hb⟩
set_option maxHeartbeats 16000000 in
theorem law_app (A0 A1 A2 A3 : Option Addr) (c0 c1 c2 c3 : Nat) (l0 l1 l2 l3 : List Int) (w : World) (a0 : A0 = none → c0 = 0 ∧ l0 = []) (a1 : A1 = none → c1 = 0 ∧ l1 = []) (a2 : A2 = none → c2 = 0 ∧ l2 = []) (a3 : A3 = none → c3 = 0 ∧ l3 = []) (r0 : RdAt w w.heap.size A0 (vInts l0)) (r1 : RdAt w w.heap.size A1 (vInts l1)) (r2 : RdAt w w.heap.size A2 (vInts l2)) (r3 : RdAt w w.heap.size A3 (vInts l3)) :
    Calls Try.prog 6 #[.slice A0 l0.length c0, .slice A1 l1.length c1, .slice A2 l2.length c2, .slice A3 l3.length c3] w fun e w' => e = .returned (.bool true) ∧ Below w.heap.size w w' := by
  have hzz := Lib.hid (zzb_FnAppendsExtendsInOrder A0 A1 A2 A3 l0.length l1.length l2.length l3.length c0 c1 c2 c3 w)
  have QA0 := Lib.hid a0
  have QA1 := Lib.hid a1
  have QA2 := Lib.hid a2
  have QA3 := Lib.hid a3
  have QR0 := Lib.hid r0
  have QR1 := Lib.hid r1
  have QR2 := Lib.hid r2
  have QR3 := Lib.hid r3
  clear a0 a1 a2 a3 r0 r1 r2 r3
  by_cases s0 : l0.length ≤ 4096
  · by_cases s1 : l1.length ≤ 4096
    · by_cases s2 : l2.length ≤ 4096
      · by_cases s3 : l3.length ≤ 4096
        · go_enter Try.func6, Try.ntmps6
          go_wp2_with fail
          with_reducible refine (hzz.out).mono ?_
          rintro e0 w0 ⟨b, rfl, rfl, hb⟩
          cases b
          · clear hb
            go_wp2_with fail
            go_ret
            exact ⟨rfl, Below.refl _ _⟩
          · clear hb
            have hc0 := Lib.hid (clone_any A0 c0 l0 w QA0.out QR0.out (by omega))
            go_wp2_with fail
            with_reducible refine (hc0.out).mono ?_
            rintro e0 w1 ⟨B0, d0, rfl, hd0, hr0, hbb0⟩
            rw [vInts_len] at hd0 ⊢
            have hb1 : Below w.heap.size w w1 := hbb0
            have R0 := Lib.hid hr0
            clear hr0
            have hc1 := Lib.hid (clone_any A1 c1 l1 w1 QA1.out ((QR1.out.below hb1).mono hb1.size) (by omega))
            go_wp2_with fail
            with_reducible refine (hc1.out).mono ?_
            rintro e1 w2 ⟨B1, d1, rfl, hd1, hr1, hbb1⟩
            rw [vInts_len] at hd1 ⊢
            have hb2 : Below w.heap.size w w2 := hb1.trans (hbb1.mono hb1.size)
            have R1 := Lib.hid hr1
            have R0x := Lib.hid ((R0.out.below hbb1).mono hbb1.size)
            clear hr1
            have hc2 := Lib.hid (clone_any A2 c2 l2 w2 QA2.out ((QR2.out.below hb2).mono hb2.size) (by omega))
            go_wp2_with fail
            with_reducible refine (hc2.out).mono ?_
            rintro e2 w3 ⟨B2, d2, rfl, hd2, hr2, hbb2⟩
            rw [vInts_len] at hd2 ⊢
            have hb3 : Below w.heap.size w w3 := hb2.trans (hbb2.mono hb2.size)
            have R2 := Lib.hid hr2
            have R0xx := Lib.hid ((R0x.out.below hbb2).mono hbb2.size)
            have R1x := Lib.hid ((R1.out.below hbb2).mono hbb2.size)
            clear hr2
            have hc3 := Lib.hid (clone_any A3 c3 l3 w3 QA3.out ((QR3.out.below hb3).mono hb3.size) (by omega))
            go_wp2_with fail
            with_reducible refine (hc3.out).mono ?_
            rintro e3 w4 ⟨B3, d3, rfl, hd3, hr3, hbb3⟩
            rw [vInts_len] at hd3 ⊢
            have hb4 : Below w.heap.size w w4 := hb3.trans (hbb3.mono hb3.size)
            have R3 := Lib.hid hr3
            have R0xxx := Lib.hid ((R0xx.out.below hbb3).mono hbb3.size)
            have R1xx := Lib.hid ((R1x.out.below hbb3).mono hbb3.size)
            have R2x := Lib.hid ((R2.out.below hbb3).mono hbb3.size)
            clear hr3
            obtain ⟨np, hnp⟩ : ∃ np, Hid (np = min l0.length l1.length) := ⟨_, Lib.hid rfl⟩
            obtain ⟨nb, hnb⟩ : ∃ nb, Hid (nb = min l2.length l3.length) := ⟨_, Lib.hid rfl⟩
            have np0 : np ≤ l0.length := by have := hnp.out; omega
            have np1 : np ≤ l1.length := by have := hnp.out; omega
            have nb2 : nb ≤ l2.length := by have := hnb.out; omega
            have nb3 : nb ≤ l3.length := by have := hnb.out; omega
            have hm1 := min_any l0.length l1.length w4
            have hm2 := min_any l2.length l3.length w4
            rw [← hnp.out] at hm1
            rw [← hnb.out] at hm2
            have HM1 := Lib.hid hm1
            have HM2 := Lib.hid hm2
            clear hm1 hm2
            go_wp2_with fail
            with_reducible refine (HM1.out).mono ?_
            rintro e5 w5 ⟨rfl, rfl⟩
            go_wp2_with fail
            with_reducible refine (HM2.out).mono ?_
            rintro e5 w5 ⟨rfl, rfl⟩
            have hz4 := hb4.size
            have ld0 : (np : Int) ≤ (d0 : Int) := by omega
            have ld1 : (np : Int) ≤ (d1 : Int) := by omega
            have nn0 : (0 : Int) ≤ (np : Int) := by omega
            have hbu := Lib.hid (build_any w4.drew.heap.size B0 B1 np d0 d1 l0 l1 w4.drew (show RdAt w4.drew w4.drew.heap.size B0 (vInts l0) from R0xxx.out) (show RdAt w4.drew w4.drew.heap.size B1 (vInts l1) from R1xx.out) np0 np1 (by omega) (Nat.le_refl _))
            go_wp2_with fail
            go_still_tail 6, (by kernel_rfl)
            change wpList _ _ _ _ _ w4.drew
            go_wp2_with fail
            with_reducible refine (hbu.out).mono ?_
            rintro e6 w6 ⟨cs, rfl, hC6, hI6, hD6, hb6⟩
            have hcl : cs.length = np := hI6.1
            have HI6 := Lib.hid hI6
            have hbw6 : Below w.heap.size w w6 := hb4.drew.trans (hb6.mono hz4)
            have hb46 : Below w4.heap.size w4 w6 := (Below.refl _ _).drew.trans hb6
            have Q0 := Lib.hid (show RdAt w6 w4.drew.heap.size B0 (vInts l0) from R0xxx.out.below hb46)
            have Q1 := Lib.hid (show RdAt w6 w4.drew.heap.size B1 (vInts l1) from R1xx.out.below hb46)
            have Q2 := Lib.hid (show RdAt w6 w4.drew.heap.size B2 (vInts l2) from R2x.out.below hb46)
            have Q3 := Lib.hid (show RdAt w6 w4.drew.heap.size B3 (vInts l3) from R3.out.below hb46)
            have hzC : w4.drew.heap.size ≤ w6.heap.size := hb46.size
            have hwC : w.heap.size ≤ w4.drew.heap.size := hz4
            clear R0 R0x R0xx R0xxx R1 R1x R1xx R2 R2x R3 hI6 hbb0 hbb1 hbb2 hbb3 hc0 hc1 hc2 hc3 HM1 HM2 QA0 QA1 QA2 QA3 QR0 QR1 QR2 QR3 hbu hzz hb6 hb46 hb1 hb2 hb3 hnp hnb
            generalize w4.drew.heap.size = C at hC6 Q0 Q1 Q2 Q3 hzC hwC ⊢
            obtain ⟨i0, hi, hz0, hz1, hz2⟩ := info_parts infoCode
            have hmk : ∀ W : World, (Instr.makeSlice 43 (.int .i64 (nb : Int)) (.int .i64 (nb : Int))).run Try.prog W = .ok (.slice (some ⟨W.heap.size, 0, none⟩) nb nb) (W.alloc (.cells (madeCells #[.pointer none] nb) 35)) := by
              intro W
              have h := run_make_rowN (P := Try.prog) 43 35 i0 _ Try.underlying43 hi hz0 .i64 .i64 nb nb (Nat.le_refl _) (by rw [hz2]; omega) (by omega) W
              rw [hz1, Nat.mul_one] at h
              exact h
            clear hi hz0 hz1 hz2
            obtain ⟨cc, V, hCS⟩ := hC6
            have hz6 := hbw6.size
            have hVG : V.ownBlock ≠ some w6.heap.size := fun e => by have := (hCS.o.lt _ e).2; omega
            have B0_ : Hid (Bat (w6.alloc (.cells (madeCells #[.pointer none] nb) 35)) C C w6.heap.size cc V cs (madeCells #[.pointer none] nb) [] nb) := ⟨hCS.alloc _, hVG, Blk.new _ _ _, size_madeCells _ _, fun i x hx => by simp at hx, fun c hc => by simp at hc⟩
            have HVG := Lib.hid hVG
            have HD6 := Lib.hid hD6
            have HCL := Lib.hid hcl
            clear hCS hVG hD6 hcl
            go_wp2_with fail
            clear hmk
            go_loopg [13] nb (fun gk i wr => ∃ (j : Nat) (arr : Array Value) (xs : List (Option Cd)), gk = nb - j ∧ i = .int .i64 j ∧ j ≤ nb ∧ Bat wr C C w6.heap.size cc V cs arr xs nb ∧ Ints xs l2 l3 j ∧ Below w6.heap.size w6 wr)
            case atStart => exact ⟨0, _, [], rfl, rfl, by omega, B0_.out, ⟨rfl, fun i x y hi => absurd hi (by omega)⟩, (Below.refl _ _).alloc (Nat.le_refl _) _⟩
            case round =>
              obtain ⟨j, arr, xs, rfl, rfl, hj, hB, hI, hbw⟩ := hrel
              have hbz := hbw.size
              by_cases hlt : j < nb
              · obtain ⟨g, o, x, rfl, hg, k1, hxx⟩ := rd_at Q2.out (i := j) (by omega)
                obtain ⟨g', o', y, rfl, hg', k2, hyy⟩ := rd_at Q3.out (i := j) (by omega)
                have m1 := ((bcell hbw).1 g (o + j) (Nat.lt_of_lt_of_le hg hzC)).trans k1
                have m2 := ((bcell hbw).1 g' (o' + j) (Nat.lt_of_lt_of_le hg' hzC)).trans k2
                have hgl : g < wr.heap.size := World.block_lt_of_cell? wr _ m1
                have hgl' : g' < wr.heap.size := World.block_lt_of_cell? wr _ m2
                have hG := hB.g
                have hGl := hG.lt
                have hgc : ∃ u, wr.cell? ⟨w6.heap.size, j, none⟩ = some u := ⟨_, (hG.cell j).trans (Array.getElem?_eq_getElem (by rw [hB.sz]; exact hlt))⟩
                obtain ⟨u0, gc⟩ := hgc
                have gf := hG.frozen j
                have hnc := Lib.hid (newCode_any x y wr.drew)
                have HB1 := Lib.hid (hB.step (x := x) (y := y) hI.1 hlt (by omega))
                have HI1 := Lib.hid (hI.snoc (b := wr.heap.size) hxx hyy)
                clear k1 k2 hxx hyy hG hB hI
                go_wp2_with fail
                go_region_with ((with_reducible refine (hnc.out).mono ?_); rintro e7 w7 ⟨rfl, rfl⟩)
                all_goals
                  go_wp2_with fail
                  go_roundg (nb - (j + 1))
                  case measure => omega
                  case rel => exact ⟨j + 1, _, _, rfl, by go_num, by omega, HB1.out, HI1.out, ((hbw.setCell (p := ⟨w6.heap.size, j, none⟩) (Nat.le_refl _) _).alloc (by simpa [World.setCell] using hbz) _).drew⟩
              · have hjn : j = nb := by omega
                subst hjn
                have hxl : xs.length = j := hI.1
                have hap := Lib.hid (zz_appends C C w6.heap.size j j cc V arr cs xs wr hB.cs hB.g hB.vg hI.1 hB.ar hB.at_ (by rw [HCL.out]; omega) (by omega))
                have HI := Lib.hid hI
                have HAR := Lib.hid hB.ar
                have HSZ := Lib.hid hB.sz
                clear hB hI
                go_wp2_with fail
                with_reducible refine (hap.out).mono ?_
                rintro e8 w8 ⟨rfl, hC8, hG8, hb8⟩
                have hb68 : Below C w6 w8 := (hbw.mono hzC).trans hb8
                have hbw8 : Below w.heap.size w w8 := hbw6.trans (hb68.mono hwC)
                have hcx : (cs ++ xs).length = np + j := by rw [List.length_append, HCL.out, hxl]
                have HI8 := Lib.hid (show ∀ i x y, i < np → l0[i]? = some x → l1[i]? = some y → ∃ b, (cs ++ xs)[i]? = some (ic b x y) from fun i x y hi hx hy => by
                  obtain ⟨b, hb⟩ := HI6.out.2 i x y hi hx hy
                  exact ⟨b, by rw [List.getElem?_append_left (by rw [HCL.out]; exact hi)]; exact hb⟩)
                have HX8 := Lib.hid (show ∀ i x y, i < j → l2[i]? = some x → l3[i]? = some y → ∃ b, (cs ++ xs)[np + i]? = some (ic b x y) ∧ xs[i]? = some (ic b x y) from fun i x y hi hx hy => by
                  obtain ⟨b, hb⟩ := HI.out.2 i x y hi hx hy
                  exact ⟨b, by rw [List.getElem?_append_right (by rw [HCL.out]; omega), HCL.out, Nat.add_sub_cancel_left]; exact hb, hb⟩)
                have hlen := Lib.hid (len_any C C (cs ++ xs) w8 hC8)
                have HB8 : Hid (CSx w8 C C (cs ++ xs) ∧ Blk w8 w6.heap.size 35 arr) := ⟨hC8, hG8⟩
                have HCX := Lib.hid hcx
                clear hC8 hG8 hb8 hap hbw hxl
                rw [hcx] at hlen
                have P0 := Lib.hid (Q0.out.below hb68)
                have P1 := Lib.hid (Q1.out.below hb68)
                have P2 := Lib.hid (Q2.out.below hb68)
                have P3 := Lib.hid (Q3.out.below hb68)
                have HW8 := Lib.hid hbw8
                clear hbw8
                clear Q0 Q1 Q2 Q3 HI6 HI HD6
                go_wp2_with fail
                with_reducible refine (hlen.out).mono ?_
                rintro e9 w9 ⟨rfl, rfl⟩
                go_wp2_with fail
                go_loopw [14] (fun i wq => ∃ k : Nat, i = .int .i64 k ∧ k ≤ np ∧ ∃ m, wq = w8.drewN m) (fun i _ => np - (intOf i).toNat)
                case atStart => exact ⟨0, rfl, by omega, 0, rfl⟩
                case round =>
                  obtain ⟨k, rfl, hk, m, rfl⟩ := hrel
                  by_cases hlt2 : k < np
                  · obtain ⟨g, o, x, rfl, hg, k1, hxx⟩ := rd_at P0.out (i := k) (by omega)
                    obtain ⟨g', o', y, rfl, hg', k2, hyy⟩ := rd_at P1.out (i := k) (by omega)
                    obtain ⟨b, hb⟩ := HI8.out k x y hlt2 hxx hyy
                    have hsm := Lib.hid fun n => same_any C C (cs ++ xs) k b x y (w8.drewN n) (HB8.out.1.drewN n) hb (by rw [HCX.out]; omega)
                    have kk0 : (0 : Int) ≤ k := by omega
                    have kk1 : (k : Int) < l0.length := by omega
                    have kk2 : (k : Int) < l1.length := by omega
                    clear hxx hyy hb
                    go_wp2_with fail
                    go_quiet ((go_at_call 21; exact quiet_add_same (hsm.out _)))
                    go_wp2_with fail
                    go_roundw
                    case rel => exact ⟨k + 1, by go_num, by omega, _, rfl⟩
                    case measure => simp [intOf]; omega
                  · have hkn : k = np := by omega
                    subst hkn
                    go_wp2_with fail
                    go_loopw [15] (fun i wq => ∃ k : Nat, i = .int .i64 k ∧ k ≤ j ∧ ∃ m, wq = w8.drewN m) (fun i _ => j - (intOf i).toNat)
                    case atStart => exact ⟨0, rfl, by omega, m, rfl⟩
                    case round =>
                      obtain ⟨q, rfl, hq, m, rfl⟩ := hrel
                      by_cases hlt3 : q < j
                      · obtain ⟨g, o, x, rfl, hg, k1, hxx⟩ := rd_at P2.out (i := q) (by omega)
                        obtain ⟨g', o', y, rfl, hg', k2, hyy⟩ := rd_at P3.out (i := q) (by omega)
                        obtain ⟨b, hb, hbx⟩ := HX8.out q x y hlt3 hxx hyy
                        have hsm := Lib.hid fun n => same_any C C (cs ++ xs) (k + q) b x y (w8.drewN n) (HB8.out.1.drewN n) hb (by rw [HCX.out]; omega)
                        have hca : Hid (∀ n, Calls Try.prog 23 #[.pointer (some ⟨C, 0, none⟩), .int .i64 (k + q : Nat)] (w8.drewN n) fun e w' => e = .returned (.pointer (some ⟨b, 0, none⟩)) ∧ w8.drewN n = w') := fun n => codeAt_any C C (cs ++ xs) (k + q) _ (w8.drewN n) (HB8.out.1.drewN n) hb (by rw [HCX.out]; omega)
                        have hwr := i64_add k q (by omega)
                        have hneq : ∀ W : World, (binOp .neq 35 (.pointer (some ⟨b, 0, none⟩)) (.pointer (some ⟨b, 0, none⟩))).run Try.prog W = .ok (.bool false) W := fun W => by
                          obtain ⟨jj, hjj⟩ := infoCd
                          exact Lib.run_neq_ptr_same W _ Try.underlying35 hjj
                        have kb : w8.cell? ⟨w6.heap.size, q, none⟩ = some (.pointer (some ⟨b, 0, none⟩)) := (HB8.out.2.cell q).trans (HAR.out q _ hbx)
                        have hGl : w6.heap.size < w8.heap.size := HB8.out.2.lt
                        have kk0 : (0 : Int) ≤ q := by omega
                        have kk1 : (q : Int) < l2.length := by omega
                        have kk2 : (q : Int) < l3.length := by omega
                        have kk3 : (q : Int) < j := by omega
                        clear hxx hyy hb hbx
                        go_wp2_with fail
                        go_quiet ((go_at_call 23; exact quiet_add_same (hca.out _)))
                        go_wp2_with fail
                        go_quiet ((go_at_call 21; exact quiet_add_same (hsm.out _)))
                        go_wp2_with fail
                        go_roundw
                        case rel => exact ⟨q + 1, by go_num, by omega, _, rfl⟩
                        case measure => simp [intOf]; omega
                      · go_wp2_with fail
                        go_ret
                        exact ⟨rfl, below_drewN HW8.out _⟩
        · clear QA0 QA1 QA2 QA3 QR0 QR1 QR2 QR3
          go_enter Try.func6, Try.ntmps6
          go_wp2_with fail
          with_reducible refine (hzz.out).mono ?_
          rintro e0 w0 ⟨b, rfl, rfl, hb⟩
          cases b
          all_goals
            clear hb
            go_wp2_with fail
            go_ret
            exact ⟨rfl, Below.refl _ _⟩
      · clear QA0 QA1 QA2 QA3 QR0 QR1 QR2 QR3
        go_enter Try.func6, Try.ntmps6
        go_wp2_with fail
        with_reducible refine (hzz.out).mono ?_
        rintro e0 w0 ⟨b, rfl, rfl, hb⟩
        cases b
        all_goals
          clear hb
          go_wp2_with fail
          go_ret
          exact ⟨rfl, Below.refl _ _⟩
    · clear QA0 QA1 QA2 QA3 QR0 QR1 QR2 QR3
      go_enter Try.func6, Try.ntmps6
      go_wp2_with fail
      with_reducible refine (hzz.out).mono ?_
      rintro e0 w0 ⟨b, rfl, rfl, hb⟩
      cases b
      all_goals
        clear hb
        go_wp2_with fail
        go_ret
        exact ⟨rfl, Below.refl _ _⟩
  · clear QA0 QA1 QA2 QA3 QR0 QR1 QR2 QR3
    go_enter Try.func6, Try.ntmps6
    go_wp2_with fail
    with_reducible refine (hzz.out).mono ?_
    rintro e0 w0 ⟨b, rfl, rfl, hb⟩
    cases b
    all_goals
      clear hb
      go_wp2_with fail
      go_ret
      exact ⟨rfl, Below.refl _ _⟩
end Go.Proofs.Ytaeficfjocinaaa
