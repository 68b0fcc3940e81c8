/- The walk of FnTailRecRewritesOnlySelfCalls: true at every four lists. -/
import Derived.Test.YtaeficfjocinaaaLawTr
import Derived.Test.YtaeficfjocinaaaZzb
namespace Go.Proofs.Ytaeficfjocinaaa
open Go.RowKit Go.Maps
set_option maxRecDepth 100000
set_option linter.unusedVariables false
theorem aft_three {n s k : Nat} {o x y z : Nat → Int} (hT : isT o z k = false) (h19 : o k = 19) : (aftO n o x y z s k = 19 ∧ aftV n o x y z s k = .iface 3 (.int .i64 (x k))) ∨
    ∃ q : Nat, q < k ∧ x k = (q : Int) ∧ o q = 23 ∧ z q = 0 ∧ ((y q = 0 ∧ aftO n o x y z s k = 15 ∧ aftV n o x y z s k = .iface 3 (.int .i64 ((q : Int) + 1))) ∨ (y q ≠ 0 ∧ aftO n o x y z s k = 20 ∧ aftV n o x y z s k = .iface 3 (.int .i64 (q : Int)))) := by
  by_cases hks : k < s
  · cases hr : rew n o x z k with
    | false =>
      have := aft_no (n := n) (x := x) (y := y) (s := s) hT (fun _ => hr)
      rw [h19] at this
      exact .inl this
    | true =>
      obtain ⟨q, t, h1, _, _, h3, h4, _⟩ := rew_iff.1 hr
      have hm := stk_mem (o := o) k q (by rw [h1]; exact List.mem_cons_self)
      have h5 := aft_rew (y := y) hks hr h3
      refine .inr ⟨q, hm.1, h3, hm.2, h4, ?_⟩
      by_cases hy : y q = 0
      · rw [if_pos hy, if_pos hy] at h5
        exact .inl ⟨hy, h5⟩
      · rw [if_neg hy, if_neg hy] at h5
        exact .inr ⟨hy, h5⟩
  · have := aft_no (n := n) (x := x) (y := y) (s := s) hT (fun e => absurd e hks)
    rw [h19] at this
    exact .inl this
set_option maxHeartbeats 16000000 in
theorem law_tr2 (A0 A1 A2 A3 : Option Addr) (c0 c1 c2 c3 : Nat) (l0 l1 l2 l3 : List Int) (w : World) (a0 : A0 = none → c0 = 0 ∧ l0 = []) (a1 : A1 = none → c1 = 0 ∧ l1 = []) (a2 : A2 = none → c2 = 0 ∧ l2 = []) (a3 : A3 = none → c3 = 0 ∧ l3 = []) (r0 : RdAt w w.heap.size A0 (vInts l0)) (r1 : RdAt w w.heap.size A1 (vInts l1)) (r2 : RdAt w w.heap.size A2 (vInts l2)) (r3 : RdAt w w.heap.size A3 (vInts l3)) :
    Calls Try.prog 4 #[.slice A0 l0.length c0, .slice A1 l1.length c1, .slice A2 l2.length c2, .slice A3 l3.length c3] w fun e w' => e = .returned (.bool true) ∧ Below w.heap.size w w' := by
  have hzz := Lib.hid (zzb_FnTailRecRewritesOnlySelfCalls A0 A1 A2 A3 l0.length l1.length l2.length l3.length c0 c1 c2 c3 w)
  have QA0 := Lib.hid a0
  have QA1 := Lib.hid a1
  have QA2 := Lib.hid a2
  have QA3 := Lib.hid a3
  have QR0 := Lib.hid r0
  have QR1 := Lib.hid r1
  have QR2 := Lib.hid r2
  have QR3 := Lib.hid r3
  clear a0 a1 a2 a3 r0 r1 r2 r3
  by_cases s0 : l0.length ≤ 4096
  · by_cases s1 : l1.length ≤ 4096
    · by_cases s2 : l2.length ≤ 4096
      · by_cases s3 : l3.length ≤ 4096
        · go_enter Try.func4, Try.ntmps4
          go_wp2_with fail
          with_reducible refine (hzz.out).mono ?_
          rintro e0 w0 ⟨b, rfl, rfl, hb⟩
          cases b
          · clear hb
            go_wp2_with fail
            go_ret
            exact ⟨rfl, Below.refl _ _⟩
          · clear hb
            have hc0 := Lib.hid (clone_any A0 c0 l0 w QA0.out QR0.out (by omega))
            go_wp2_with fail
            with_reducible refine (hc0.out).mono ?_
            rintro e0 w1 ⟨B0, d0, rfl, hd0, hr0, hbb0⟩
            rw [vInts_len] at hd0 ⊢
            have hb1 : Below w.heap.size w w1 := hbb0
            have R0 := Lib.hid hr0
            clear hr0
            have hc1 := Lib.hid (clone_any A1 c1 l1 w1 QA1.out ((QR1.out.below hb1).mono hb1.size) (by omega))
            go_wp2_with fail
            with_reducible refine (hc1.out).mono ?_
            rintro e1 w2 ⟨B1, d1, rfl, hd1, hr1, hbb1⟩
            rw [vInts_len] at hd1 ⊢
            have hb2 : Below w.heap.size w w2 := hb1.trans (hbb1.mono hb1.size)
            have R1 := Lib.hid hr1
            have R0x := Lib.hid ((R0.out.below hbb1).mono hbb1.size)
            clear hr1
            have hc2 := Lib.hid (clone_any A2 c2 l2 w2 QA2.out ((QR2.out.below hb2).mono hb2.size) (by omega))
            go_wp2_with fail
            with_reducible refine (hc2.out).mono ?_
            rintro e2 w3 ⟨B2, d2, rfl, hd2, hr2, hbb2⟩
            rw [vInts_len] at hd2 ⊢
            have hb3 : Below w.heap.size w w3 := hb2.trans (hbb2.mono hb2.size)
            have R2 := Lib.hid hr2
            have R0xx := Lib.hid ((R0x.out.below hbb2).mono hbb2.size)
            have R1x := Lib.hid ((R1.out.below hbb2).mono hbb2.size)
            clear hr2
            have hc3 := Lib.hid (clone_any A3 c3 l3 w3 QA3.out ((QR3.out.below hb3).mono hb3.size) (by omega))
            go_wp2_with fail
            with_reducible refine (hc3.out).mono ?_
            rintro e3 w4 ⟨B3, d3, rfl, hd3, hr3, hbb3⟩
            rw [vInts_len] at hd3 ⊢
            have hb4 : Below w.heap.size w w4 := hb3.trans (hbb3.mono hb3.size)
            have R3 := Lib.hid hr3
            have R0xxx := Lib.hid ((R0xx.out.below hbb3).mono hbb3.size)
            have R1xx := Lib.hid ((R1x.out.below hbb3).mono hbb3.size)
            have R2x := Lib.hid ((R2.out.below hbb3).mono hbb3.size)
            clear hr3
            obtain ⟨np, hnp⟩ : ∃ np, Hid (np = min l0.length l1.length) := ⟨_, Lib.hid rfl⟩
            obtain ⟨nb, hnb⟩ : ∃ nb, Hid (nb = min l2.length l3.length) := ⟨_, Lib.hid rfl⟩
            obtain ⟨n, hnn⟩ : ∃ n, Hid (n = min np nb) := ⟨_, Lib.hid rfl⟩
            have n0 : n ≤ l0.length := by have := hnp.out; have := hnn.out; omega
            have n1 : n ≤ l1.length := by have := hnp.out; have := hnn.out; omega
            have n2 : n ≤ l2.length := by have := hnb.out; have := hnn.out; omega
            have n3 : n ≤ l3.length := by have := hnb.out; have := hnn.out; omega
            have hm1 := min_any l0.length l1.length w4
            have hm2 := min_any l2.length l3.length w4
            have hm3 := min_any np nb w4
            rw [← hnp.out] at hm1
            rw [← hnb.out] at hm2
            rw [← hnn.out] at hm3
            have HM1 := Lib.hid hm1
            have HM2 := Lib.hid hm2
            have HM3 := Lib.hid hm3
            clear hm1 hm2 hm3
            have hz4 := hb4.size
            have ld0 : (n : Int) ≤ (d0 : Int) := by omega
            have ld1 : (n : Int) ≤ (d1 : Int) := by omega
            have ld2 : (n : Int) ≤ (d2 : Int) := by omega
            have ld3 : (n : Int) ≤ (d3 : Int) := by omega
            have nn0 : (0 : Int) ≤ (n : Int) := by omega
            have F0 := Lib.hid (frd_of R0xxx.out n0)
            have F1 := Lib.hid (frd_of R1xx.out n1)
            have F2 := Lib.hid (frd_of R2x.out n2)
            have F3 := Lib.hid (frd_of R3.out n3)
            have hgu := Lib.hid (trfwd_any B0 B1 n d0 d1 w4.heap.size (oF l0) (oF l1) w4 F0.out F1.out (by omega))
            go_wp2_with fail
            with_reducible refine (HM1.out).mono ?_
            rintro e5 w5 ⟨rfl, rfl⟩
            go_wp2_with fail
            with_reducible refine (HM2.out).mono ?_
            rintro e5 w5 ⟨rfl, rfl⟩
            go_wp2_with fail
            with_reducible refine (HM3.out).mono ?_
            rintro e5 w5 ⟨rfl, rfl⟩
            go_wp2_with fail
            with_reducible refine (hgu.out).mono ?_
            rintro e6 w6 ⟨b, rfl, rfl, hb⟩
            cases b
            · clear hb
              go_wp2_with fail
              go_ret
              exact ⟨rfl, hb4⟩
            · have HG := Lib.hid (hb rfl)
              clear hb hgu
              have hbu := Lib.hid (buildT_any w4.heap.size B0 B1 B2 B3 n d0 d1 d2 d3 (oF l0) (oF l1) (oF l2) (oF l3) w4 F0.out F1.out F2.out F3.out (by omega) (Nat.le_refl _))
              go_wp2_with fail
              with_reducible refine (hbu.out).mono ?_
              rintro e6 w6 ⟨cs, rfl, hC6, hI6, hD6, hb6⟩
              obtain ⟨bq, hGC⟩ := gc_of hC6 hI6 hD6
              obtain ⟨V, hGV⟩ := hGC.gv
              obtain ⟨Ac, cap, rfl⟩ := hGV.shape
              have hop := Lib.hid (zz_optT w4.heap.size w4.heap.size n cap Ac bq (oF l0) (oF l1) (oF l2) (oF l3) w6 hGV HG.out (by omega))
              have HB6 := Lib.hid hb6
              clear hC6 hI6 hD6 hGC hGV hb6 hbu
              go_wp2_with fail
              with_reducible refine (hop.out).mono ?_
              rintro e7 w7 ⟨rfl, st, hst, h1, h2⟩
              have hlen := Lib.hid (len_eqT _ _ n _ w7 h1.gc.cs (gds_len _ _ _ _))
              have HGC := Lib.hid h1.gc
              have HST := Lib.hid hst
              have hstn : st ≤ n := hst.1
              have hb47 : Below w4.heap.size w4 w7 := HB6.out.trans h2
              have E0 := Lib.hid (F0.out.below hb47)
              have E1 := Lib.hid (F1.out.below hb47)
              have E2 := Lib.hid (F2.out.below hb47)
              have E3 := Lib.hid (F3.out.below hb47)
              have h47 := hb47.size
              have HW7 := Lib.hid (hb4.trans (hb47.mono hz4))
              clear h1 h2 hst hop HB6 F0 F1 F2 F3 R0 R0x R0xx R0xxx R1 R1x R1xx R2 R2x R3 hc0 hc1 hc2 hc3 HM1 HM2 HM3 hbb0 hbb1 hbb2 hbb3 hb1 hb2 hb3 hb4 hzz hnp hnb hnn QA0 QA1 QA2 QA3 QR0 QR1 QR2 QR3 hb47
              generalize hCe : w4.heap.size = C at *
              clear hCe
              generalize oF l0 = o at *
              generalize oF l1 = x at *
              generalize oF l2 = y at *
              generalize oF l3 = z at *
              go_wp2_with fail
              with_reducible refine (hlen.out).mono ?_
              rintro e8 w8 ⟨rfl, rfl⟩
              clear hlen
              go_wp2_with fail
              go_loopw [11] (fun i wr => ∃ k : Nat, i = .int .i64 k ∧ k ≤ n ∧ Below w7.heap.size w7 wr) (fun i _ => n - (intOf i).toNat)
              case atStart => exact ⟨0, rfl, by omega, Below.refl _ _⟩
              case round =>
                obtain ⟨k, rfl, hk, hbq⟩ := hrel
                by_cases hlt : k < n
                · have hbC : Below C w7 wr := hbq.mono h47
                  have D0 := Lib.hid (E0.out.below hbC)
                  have D1 := Lib.hid (E1.out.below hbC)
                  have D2 := Lib.hid (E2.out.below hbC)
                  have D3 := Lib.hid (E3.out.below hbC)
                  obtain ⟨bT, hbT⟩ : ∃ b, isT o z k = b := ⟨_, rfl⟩
                  have hit := Lib.hid (isT_c B0 B3 n d0 d3 C k o z bT wr D0.out D3.out hlt (by omega) hbT)
                  obtain ⟨g0, o0, rfl, hg0, lg0, q0⟩ := D0.out (by omega)
                  obtain ⟨g1, o1, rfl, hg1, lg1, q1⟩ := D1.out (by omega)
                  obtain ⟨g2, o2, rfl, hg2, lg2, q2⟩ := D2.out (by omega)
                  obtain ⟨g3, o3, rfl, hg3, lg3, q3⟩ := D3.out (by omega)
                  have x0 := q0 k hlt
                  have x1 := q1 k hlt
                  have x2 := q2 k hlt
                  have x3 := q3 k hlt
                  have Q2_ := Lib.hid q2
                  have Q3_ := Lib.hid q3
                  have Q0_ := Lib.hid q0
                  have HBQ := Lib.hid hbq
                  have kk0 : (0 : Int) ≤ k := by omega
                  have kk1 : (k : Int) < n := by omega
                  have hGq := Lib.hid (HGC.out.below hbq)
                  have hsm := Lib.hid (show ∀ op v, aftO n o x y z st k = op → aftV n o x y z st k = .iface 3 (.int .i64 v) → Calls Try.prog 21 #[.pointer (some ⟨C, 0, none⟩), .int .i64 k, .int .i64 op, .int .i64 v] wr fun e w' => e = .returned (.bool true) ∧ wr = w' from fun op v e1 e2 =>
                    same_any C C _ k (bq k) op v wr hGq.out.cs (by rw [gds_at hlt, e1, e2]; rfl) (by rw [gds_len]; omega))
                  clear hbC hbq q0 q1 q2 q3
                  cases bT
                  case true =>
                    obtain ⟨t1, t2⟩ := aft_isT (n := n) (x := x) (y := y) (s := st) hbT
                    have hst3 := Lib.hid (sameTriple_any C C _ k (bq k) (o k) (x k) (y k) (z k) wr.drew (hGq.out.cs.drew) (by rw [gds_at hlt, t1, t2]) (by rw [gds_len]; omega))
                    clear t1 t2 hsm
                    go_wp2_with fail
                    with_reducible refine (hit.out).mono ?_
                    rintro e2 w2 ⟨rfl, rfl⟩
                    go_wp2_with fail
                    go_still_tail 18, (by kernel_rfl)
                    change wpList _ _ _ _ _ wr.drew
                    go_wp2_with fail
                    with_reducible refine (hst3.out).mono ?_
                    rintro e1 w1 ⟨rfl, hb1⟩
                    have hbn : Below w7.heap.size w7 w1 := HBQ.out.drew.trans (hb1.mono (show w7.heap.size ≤ wr.drew.heap.size from HBQ.out.size))
                    clear hb1
                    go_wp2_with fail
                    go_roundw
                    case rel => exact ⟨k + 1, by go_num, by omega, hbn⟩
                    case measure => simp [intOf]; omega
                  case false =>
                    by_cases h19 : o k = 19
                    · have h3 := aft_three (n := n) (x := x) (y := y) (s := st) hbT h19
                      have rd := Lib.hid (show ∀ op v, aftO n o x y z st k = op → aftV n o x y z st k = .iface 3 (.int .i64 v) → (gds n bq (aftO n o x y z st) (aftV n o x y z st))[k]? = some (ic (bq k) op v) from fun op v e1 e2 => by rw [gds_at hlt, e1, e2]; rfl)
                      obtain ⟨xv, hxv⟩ : ∃ xv, Hid (x k = xv) := ⟨_, Lib.hid rfl⟩
                      rw [hxv.out] at x1 h3
                      rw [h19] at x0
                      clear hsm h19 hbT
                      rcases h3 with ⟨u1, u2⟩ | ⟨q, hqk, hxq, h23, hz0, h3⟩
                      · have hx := Lib.hid (rd.out 19 xv u1 u2)
                        clear u1 u2
                        have hr1 := Lib.hid (codeAt_any C C _ k _ wr hGq.out.cs hx.out (by rw [gds_len]; omega))
                        have hr2 := Lib.hid (op_any C C _ k _ wr hGq.out.cs hx.out (by rw [gds_len]; omega))
                        have hr3 := Lib.hid (vInt_any C C _ k (bq k) _ _ wr hGq.out.cs hx.out (by rw [gds_len]; omega))
                        go_wp2_with fail
                        with_reducible refine (hit.out).mono ?_
                        rintro e2 w2 ⟨rfl, rfl⟩
                        go_wp2_with fail
                        with_reducible refine (hr1.out).mono ?_
                        rintro e2 w2 ⟨rfl, rfl⟩
                        simp only [ic, pv]
                        go_wp2_with fail
                        with_reducible refine (hr2.out).mono ?_
                        rintro e2 w2 ⟨rfl, rfl⟩
                        go_wp2_with fail
                        with_reducible refine (hr3.out).mono ?_
                        rintro e2 w2 ⟨rfl, rfl⟩
                        go_wp2_with fail
                        go_roundw
                        case rel => exact ⟨k + 1, by go_num, by omega, HBQ.out⟩
                        case measure => simp [intOf]; omega
                      · have qq0 : (0 : Int) ≤ q := by omega
                        have qq1 : (q : Int) < n := by omega
                        have qq2 : (q : Int) < k := by omega
                        have z0 := Q0_.out q (by omega)
                        have z2 := Q2_.out q (by omega)
                        have z3 := Q3_.out q (by omega)
                        rw [h23] at z0
                        rw [hz0] at z3
                        obtain ⟨yq, hyq⟩ : ∃ yq, Hid (y q = yq) := ⟨_, Lib.hid rfl⟩
                        rw [hyq.out] at z2 h3
                        subst hxq
                        clear h23 hz0
                        have e0 : ((q : Int) != (q : Int)) = false := by simp
                        rcases h3 with ⟨hy, u1, u2⟩ | ⟨hy, u1, u2⟩
                        · subst hy
                          have hx := Lib.hid (rd.out 15 ((q : Int) + 1) u1 u2)
                          clear u1 u2
                          have e3 : ((q : Int) + 1 - 1) = (q : Int) := by omega
                          have hr1 := Lib.hid (codeAt_any C C _ k _ wr hGq.out.cs hx.out (by rw [gds_len]; omega))
                          have hr2 := Lib.hid (op_any C C _ k _ wr hGq.out.cs hx.out (by rw [gds_len]; omega))
                          have hr3 := Lib.hid (vInt_any C C _ k (bq k) _ _ wr hGq.out.cs hx.out (by rw [gds_len]; omega))
                          go_wp2_with fail
                          with_reducible refine (hit.out).mono ?_
                          rintro e2 w2 ⟨rfl, rfl⟩
                          go_wp2_with fail
                          with_reducible refine (hr1.out).mono ?_
                          rintro e2 w2 ⟨rfl, rfl⟩
                          simp only [ic, pv]
                          go_wp2_with fail
                          with_reducible refine (hr2.out).mono ?_
                          rintro e2 w2 ⟨rfl, rfl⟩
                          go_wp2_with fail
                          with_reducible refine (hr3.out).mono ?_
                          rintro e2 w2 ⟨rfl, rfl⟩
                          go_wp2_with fail
                          go_roundw
                          case rel => exact ⟨k + 1, by go_num, by omega, HBQ.out⟩
                          case measure => simp [intOf]; omega
                        · have hx := Lib.hid (rd.out 20 (q : Int) u1 u2)
                          have gy : (yq == 0) = false := by simp [hy]
                          clear u1 u2 hy
                          have hr1 := Lib.hid (codeAt_any C C _ k _ wr hGq.out.cs hx.out (by rw [gds_len]; omega))
                          have hr2 := Lib.hid (op_any C C _ k _ wr hGq.out.cs hx.out (by rw [gds_len]; omega))
                          have hr3 := Lib.hid (vInt_any C C _ k (bq k) _ _ wr hGq.out.cs hx.out (by rw [gds_len]; omega))
                          go_wp2_with fail
                          with_reducible refine (hit.out).mono ?_
                          rintro e2 w2 ⟨rfl, rfl⟩
                          go_wp2_with fail
                          with_reducible refine (hr1.out).mono ?_
                          rintro e2 w2 ⟨rfl, rfl⟩
                          simp only [ic, pv]
                          go_wp2_with fail
                          with_reducible refine (hr2.out).mono ?_
                          rintro e2 w2 ⟨rfl, rfl⟩
                          go_wp2_with fail
                          with_reducible refine (hr3.out).mono ?_
                          rintro e2 w2 ⟨rfl, rfl⟩
                          go_wp2_with fail
                          go_roundw
                          case rel => exact ⟨k + 1, by go_num, by omega, HBQ.out⟩
                          case measure => simp [intOf]; omega
                    · have hno := aft_no (n := n) (x := x) (y := y) (s := st) hbT (fun _ => rew_no h19)
                      have g19 : (o k != 19) = true := by simp [h19]
                      have hq := Lib.hid (same_any C C _ k (bq k) (o k) (x k) wr.drew hGq.out.cs.drew (by rw [gds_at hlt, hno.1, hno.2]; rfl) (by rw [gds_len]; omega))
                      clear hsm hno
                      go_wp2_with fail
                      with_reducible refine (hit.out).mono ?_
                      rintro e2 w2 ⟨rfl, rfl⟩
                      go_wp2_with fail
                      go_still_tail 10, (by kernel_rfl)
                      change wpList _ _ _ _ _ wr.drew
                      go_wp2_with fail
                      with_reducible refine (hq.out).mono ?_
                      rintro e2 w2 ⟨rfl, rfl⟩
                      go_wp2_with fail
                      go_roundw
                      case rel => exact ⟨k + 1, by go_num, by omega, HBQ.out.drew⟩
                      case measure => simp [intOf]; omega
                · have hkn : k = n := by omega
                  subst hkn
                  go_wp2_with fail
                  go_ret
                  exact ⟨rfl, HW7.out.trans (hbq.mono HW7.out.size)⟩
        · clear QA0 QA1 QA2 QA3 QR0 QR1 QR2 QR3
          go_enter Try.func4, Try.ntmps4
          go_wp2_with fail
          with_reducible refine (hzz.out).mono ?_
          rintro e0 w0 ⟨b, rfl, rfl, hb⟩
          cases b
          all_goals
            clear hb
            go_wp2_with fail
            go_ret
            exact ⟨rfl, Below.refl _ _⟩
      · clear QA0 QA1 QA2 QA3 QR0 QR1 QR2 QR3
        go_enter Try.func4, Try.ntmps4
        go_wp2_with fail
        with_reducible refine (hzz.out).mono ?_
        rintro e0 w0 ⟨b, rfl, rfl, hb⟩
        cases b
        all_goals
          clear hb
          go_wp2_with fail
          go_ret
          exact ⟨rfl, Below.refl _ _⟩
    · clear QA0 QA1 QA2 QA3 QR0 QR1 QR2 QR3
      go_enter Try.func4, Try.ntmps4
      go_wp2_with fail
      with_reducible refine (hzz.out).mono ?_
      rintro e0 w0 ⟨b, rfl, rfl, hb⟩
      cases b
      all_goals
        clear hb
        go_wp2_with fail
        go_ret
        exact ⟨rfl, Below.refl _ _⟩
  · clear QA0 QA1 QA2 QA3 QR0 QR1 QR2 QR3
    go_enter Try.func4, Try.ntmps4
    go_wp2_with fail
    with_reducible refine (hzz.out).mono ?_
    rintro e0 w0 ⟨b, rfl, rfl, hb⟩
    cases b
    all_goals
      clear hb
      go_wp2_with fail
      go_ret
      exact ⟨rfl, Below.refl _ _⟩
end Go.Proofs.Ytaeficfjocinaaa
