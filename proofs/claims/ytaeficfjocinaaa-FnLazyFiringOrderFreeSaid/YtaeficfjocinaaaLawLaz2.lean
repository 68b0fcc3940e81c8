/- The walk of FnLazyFiringOrderFree: true at every four lists, every two ops and either order. -/
import Derived.Test.YtaeficfjocinaaaFire3
import Derived.Test.YtaeficfjocinaaaZzb
namespace Go.Proofs.Ytaeficfjocinaaa
open Go.RowKit
set_option maxRecDepth 100000
set_option linter.unusedVariables false
set_option maxHeartbeats 16000000 in
theorem law_laz2 (A0 A1 A2 A3 : Option Addr) (c0 c1 c2 c3 : Nat) (l0 l1 l2 l3 : List Int) (a b : Int) (f : Bool) (w : World) (a0 : A0 = none → c0 = 0 ∧ l0 = []) (a1 : A1 = none → c1 = 0 ∧ l1 = []) (a2 : A2 = none → c2 = 0 ∧ l2 = []) (a3 : A3 = none → c3 = 0 ∧ l3 = []) (r0 : RdAt w w.heap.size A0 (vInts l0)) (r1 : RdAt w w.heap.size A1 (vInts l1)) (r2 : RdAt w w.heap.size A2 (vInts l2)) (r3 : RdAt w w.heap.size A3 (vInts l3)) :
    Calls Try.prog 9 #[.slice A0 l0.length c0, .slice A1 l1.length c1, .int .i64 a, .slice A2 l2.length c2, .slice A3 l3.length c3, .int .i64 b, .bool f] w fun e w' => e = .returned (.bool true) ∧ Below w.heap.size w w' := by
  have hzz := Lib.hid (zzb_FnLazyFiringOrderFree A0 A1 A2 A3 l0.length l1.length l2.length l3.length c0 c1 c2 c3 a b f w)
  have QA0 := Lib.hid a0
  have QA1 := Lib.hid a1
  have QA2 := Lib.hid a2
  have QA3 := Lib.hid a3
  have QR0 := Lib.hid r0
  have QR1 := Lib.hid r1
  have QR2 := Lib.hid r2
  have QR3 := Lib.hid r3
  clear a0 a1 a2 a3 r0 r1 r2 r3
  by_cases s0 : l0.length ≤ 4096
  · by_cases s1 : l1.length ≤ 4096
    · by_cases s2 : l2.length ≤ 4096
      · by_cases s3 : l3.length ≤ 4096
        · go_enter Try.func9, Try.ntmps9
          go_wp2_with fail
          with_reducible refine (hzz.out).mono ?_
          rintro e0 w0 ⟨b, rfl, rfl, hb⟩
          cases b
          · clear hb
            go_wp2_with fail
            go_ret
            exact ⟨rfl, Below.refl _ _⟩
          · clear hb
            have hc0 := Lib.hid (clone_any A0 c0 l0 w QA0.out QR0.out (by omega))
            go_wp2_with fail
            with_reducible refine (hc0.out).mono ?_
            rintro e0 w1 ⟨B0, d0, rfl, hd0, hr0, hbb0⟩
            rw [vInts_len] at hd0 ⊢
            have hb1 : Below w.heap.size w w1 := hbb0
            have R0 := Lib.hid hr0
            clear hr0
            have hc1 := Lib.hid (clone_any A1 c1 l1 w1 QA1.out ((QR1.out.below hb1).mono hb1.size) (by omega))
            go_wp2_with fail
            with_reducible refine (hc1.out).mono ?_
            rintro e1 w2 ⟨B1, d1, rfl, hd1, hr1, hbb1⟩
            rw [vInts_len] at hd1 ⊢
            have hb2 : Below w.heap.size w w2 := hb1.trans (hbb1.mono hb1.size)
            have R1 := Lib.hid hr1
            have R0x := Lib.hid ((R0.out.below hbb1).mono hbb1.size)
            clear hr1
            have hc2 := Lib.hid (clone_any A2 c2 l2 w2 QA2.out ((QR2.out.below hb2).mono hb2.size) (by omega))
            go_wp2_with fail
            with_reducible refine (hc2.out).mono ?_
            rintro e2 w3 ⟨B2, d2, rfl, hd2, hr2, hbb2⟩
            rw [vInts_len] at hd2 ⊢
            have hb3 : Below w.heap.size w w3 := hb2.trans (hbb2.mono hb2.size)
            have R2 := Lib.hid hr2
            have R0xx := Lib.hid ((R0x.out.below hbb2).mono hbb2.size)
            have R1x := Lib.hid ((R1.out.below hbb2).mono hbb2.size)
            clear hr2
            have hc3 := Lib.hid (clone_any A3 c3 l3 w3 QA3.out ((QR3.out.below hb3).mono hb3.size) (by omega))
            go_wp2_with fail
            with_reducible refine (hc3.out).mono ?_
            rintro e3 w4 ⟨B3, d3, rfl, hd3, hr3, hbb3⟩
            rw [vInts_len] at hd3 ⊢
            have hb4 : Below w.heap.size w w4 := hb3.trans (hbb3.mono hb3.size)
            have R3 := Lib.hid hr3
            have R0xxx := Lib.hid ((R0xx.out.below hbb3).mono hbb3.size)
            have R1xx := Lib.hid ((R1x.out.below hbb3).mono hbb3.size)
            have R2x := Lib.hid ((R2.out.below hbb3).mono hbb3.size)
            clear hr3
            obtain ⟨np, hnp⟩ : ∃ np, Hid (np = min l0.length l1.length) := ⟨_, Lib.hid rfl⟩
            obtain ⟨nb, hnb⟩ : ∃ nb, Hid (nb = min l2.length l3.length) := ⟨_, Lib.hid rfl⟩
            have np0 : np ≤ l0.length := by have := hnp.out; omega
            have np1 : np ≤ l1.length := by have := hnp.out; omega
            have nb2 : nb ≤ l2.length := by have := hnb.out; omega
            have nb3 : nb ≤ l3.length := by have := hnb.out; omega
            have hm1 := min_any l0.length l1.length w4
            have hm2 := min_any l2.length l3.length w4
            rw [← hnp.out] at hm1
            rw [← hnb.out] at hm2
            have HM1 := Lib.hid hm1
            have HM2 := Lib.hid hm2
            clear hm1 hm2
            go_wp2_with fail
            with_reducible refine (HM1.out).mono ?_
            rintro e5 w5 ⟨rfl, rfl⟩
            go_wp2_with fail
            with_reducible refine (HM2.out).mono ?_
            rintro e5 w5 ⟨rfl, rfl⟩
            have hz4 := hb4.size
            have ld0 : (np : Int) ≤ (d0 : Int) := by omega
            have ld1 : (np : Int) ≤ (d1 : Int) := by omega
            have nn0 : (0 : Int) ≤ (np : Int) := by omega
            have hbu := Lib.hid (build_any w4.drew.heap.size B0 B1 np d0 d1 l0 l1 w4.drew (show RdAt w4.drew w4.drew.heap.size B0 (vInts l0) from R0xxx.out) (show RdAt w4.drew w4.drew.heap.size B1 (vInts l1) from R1xx.out) np0 np1 (by omega) (Nat.le_refl _))
            go_wp2_with fail
            go_still_tail 6, (by kernel_rfl)
            change wpList _ _ _ _ _ w4.drew
            go_wp2_with fail
            with_reducible refine (hbu.out).mono ?_
            rintro e6 w6 ⟨cs, rfl, hC6, hI6, hD6, hb6⟩
            have hcl : cs.length = np := hI6.1
            have HI6 := Lib.hid hI6
            have hbw6 : Below w.heap.size w w6 := hb4.drew.trans (hb6.mono hz4)
            have hb46 : Below w4.heap.size w4 w6 := (Below.refl _ _).drew.trans hb6
            have Q0 := Lib.hid (show RdAt w6 w4.drew.heap.size B0 (vInts l0) from R0xxx.out.below hb46)
            have Q1 := Lib.hid (show RdAt w6 w4.drew.heap.size B1 (vInts l1) from R1xx.out.below hb46)
            have Q2 := Lib.hid (show RdAt w6 w4.drew.heap.size B2 (vInts l2) from R2x.out.below hb46)
            have Q3 := Lib.hid (show RdAt w6 w4.drew.heap.size B3 (vInts l3) from R3.out.below hb46)
            have hzC : w4.drew.heap.size ≤ w6.heap.size := hb46.size
            have hwC : w.heap.size ≤ w4.drew.heap.size := hz4
            clear R0 R0x R0xx R0xxx R1 R1x R1xx R2 R2x R3 hI6 hbb0 hbb1 hbb2 hbb3 hc0 hc1 hc2 hc3 HM1 HM2 QA0 QA1 QA2 QA3 QR0 QR1 QR2 QR3 hbu hzz hb6 hb46 hb1 hb2 hb3 hnp hnb
            generalize w4.drew.heap.size = C at hC6 Q0 Q1 Q2 Q3 hzC hwC ⊢
            have hlz := Lib.hid (lazyJump_any C C cs a w6 hC6 (by omega))
            have HD6 := Lib.hid hD6
            have HCL := Lib.hid hcl
            have HW6 := Lib.hid hbw6
            clear hC6 hD6 hcl hbw6
            go_wp2_with fail
            with_reducible refine (hlz.out).mono ?_
            rintro e7 w7 ⟨rfl, h1, h2, h3, h4⟩
            rw [HCL.out] at h2
            have hz7 := h3.size
            have H0 : Hid (CSx w7 C C (cs ++ [none] ++ []) ∧ Setter w7 C w6.heap.size a np ∧ Below C w6 w7) := ⟨by rw [List.append_nil]; exact h1, h2, h3⟩
            clear h1 h2 h3 h4 hlz
            generalize w6.heap.size = n0 at H0 hzC ⊢
            go_wp2_with fail
            go_loopg [19] nb (fun gk i wr => ∃ (j : Nat) (xs : List (Option Cd)), gk = nb - j ∧ i = .int .i64 j ∧ j ≤ nb ∧ CSx wr C C (cs ++ [none] ++ xs) ∧ Ints xs l2 l3 j ∧ Setter wr C n0 a np ∧ Below C w6 wr)
            case atStart => exact ⟨0, [], rfl, rfl, by omega, H0.out.1, ⟨rfl, fun i x y hi => absurd hi (by omega)⟩, H0.out.2.1, H0.out.2.2⟩
            case round =>
              obtain ⟨j, xs, rfl, rfl, hj, hC, hI, hS, hbw⟩ := hrel
              by_cases hlt : j < nb
              · obtain ⟨g, o, x, rfl, hg, k1, hxx⟩ := rd_at Q2.out (i := j) (by omega)
                obtain ⟨g', o', y, rfl, hg', k2, hyy⟩ := rd_at Q3.out (i := j) (by omega)
                have m1 := ((bcell hbw).1 g (o + j) hg).trans k1
                have m2 := ((bcell hbw).1 g' (o' + j) hg').trans k2
                have hgl : g < wr.heap.size := World.block_lt_of_cell? wr _ m1
                have hgl' : g' < wr.heap.size := World.block_lt_of_cell? wr _ m2
                have hap := Lib.hid (appendInt_any C C (cs ++ [none] ++ xs) x y wr.drew hC.drew (by simp [hI.1, HCL.out]; omega))
                have HC := Lib.hid hC
                have HI1 := Lib.hid (hI.snoc (b := wr.drew.heap.size) hxx hyy)
                have HS := Lib.hid hS
                have HBW := Lib.hid hbw
                have kk0 : (0 : Int) ≤ j := by omega
                have kk1 : (j : Int) < l2.length := by omega
                have kk2 : (j : Int) < l3.length := by omega
                clear k1 k2 hxx hyy hC hI hS hbw
                go_wp2_with fail
                go_still_tail 9, (by kernel_rfl)
                change wpList _ _ _ _ _ wr.drew
                go_wp2_with fail
                with_reducible refine (hap.out).mono ?_
                rintro e9 w9 ⟨rfl, h1, h2, h3⟩
                rw [List.append_assoc] at h1
                have HC1 := Lib.hid h1
                have HS1 := Lib.hid (HS.out.drew.keptC h3 HC.out.drew)
                have HB1 : Hid (Below C w6 w9) := HBW.out.drew.trans h2
                clear h1 h2 h3 hap HC HS HBW
                go_wp2_with fail
                go_roundg (nb - (j + 1))
                case measure => omega
                case rel => exact ⟨j + 1, _, rfl, by go_num, by omega, HC1.out, HI1.out, HS1.out, HB1.out⟩
              · have hjn : j = nb := by omega
                subst hjn
                have hxl : xs.length = j := hI.1
                have hlz2 := Lib.hid (lazyJump_any C C (cs ++ [none] ++ xs) b wr hC (by simp [HCL.out, hxl]; omega))
                have hll : (cs ++ [none] ++ xs).length = np + 1 + j := by simp [HCL.out, hxl]; omega
                have HLL := Lib.hid hll
                have HC := Lib.hid hC
                have HI := Lib.hid hI
                have HS := Lib.hid hS
                have HBW := Lib.hid hbw
                clear hC hI hS hbw hll hxl
                go_wp2_with fail
                with_reducible refine (hlz2.out).mono ?_
                rintro e8 w8 ⟨rfl, h1, h2, h3, h4⟩
                rw [HLL.out] at h2
                have HSA := Lib.hid (HS.out.keptC h4 HC.out)
                have HSB := Lib.hid h2
                have HC8 := Lib.hid h1
                have HB8 : Hid (Below C w6 w8) := HBW.out.trans h3
                clear h1 h2 h3 h4 HS HC HBW hlz2
                generalize wr.heap.size = n1 at HSB ⊢
                have hl8 := (laz2_at HI6.out HI.out none).2.2
                have hv8 : ((cs ++ [none] ++ xs ++ [none]).length : Int) = (np : Int) + 1 + (j : Int) + 1 := by rw [hl8]; omega
                have hvp : ((np + 1 + j : Nat) : Int) = (np : Int) + 1 + (j : Int) := by omega
                cases f
                case' false =>
                  have hf1 := Lib.hid (fire_eq C C n1 (np + 1 + j) 0 (cs ++ [none] ++ xs ++ [none]) b _ w8 HC8.out HSB.out (by rw [hl8]; omega) (by rw [hl8]; omega) hv8)
                  have HV8 := Lib.hid hv8
                  have HVP := Lib.hid hvp
                  have HL8 := Lib.hid hl8
                  clear hv8 hvp hl8
                  go_wp2_with fail
                  with_reducible refine (hf1.out).mono ?_
                  rintro e9 w9 ⟨rfl, kb, h1, h2, h3⟩
                  have hna := Lib.hid (codeAt_nil C C _ np w9 h1 (laz2_at HI6.out HI.out _).2.1 (by rw [List.length_set, HL8.out]; omega))
                  have hf2 := Lib.hid (fire_eq C C n0 np 0 _ a ((np : Int) + 1 + (j : Int) + 1) w9 h1 (HSA.out.keptC h3 HC8.out) (by rw [List.length_set, HL8.out]; omega) (by rw [List.length_set, HL8.out]; omega) (by rw [List.length_set]; exact HV8.out))
                  have HB9 : Hid (Below C w6 w9) := HB8.out.trans h2
                  clear h1 h2 h3 hf1
                  go_wp2_with fail
                  with_reducible refine (hna.out).mono ?_
                  rintro e9 w10 ⟨rfl, rfl⟩
                  go_wp2_with fail
                  with_reducible refine (hf2.out).mono ?_
                  rintro e9 w10 ⟨rfl, ka, h1, h2, h3⟩
                  have hT := two_of' HI6.out HI.out ka kb a b
                  have hb68 : Below C w6 w10 := HB9.out.trans h2
                  have hCL := h1
                  clear h1 h2 h3 hf2 hna HB9
                case' true =>
                  have hf1 := Lib.hid (fire_eq C C n0 np 0 (cs ++ [none] ++ xs ++ [none]) a _ w8 HC8.out HSA.out (by rw [hl8]; omega) (by rw [hl8]; omega) hv8)
                  have HV8 := Lib.hid hv8
                  have HVP := Lib.hid hvp
                  have HL8 := Lib.hid hl8
                  clear hv8 hvp hl8
                  go_wp2_with fail
                  with_reducible refine (hf1.out).mono ?_
                  rintro e9 w9 ⟨rfl, ka, h1, h2, h3⟩
                  have hna : Hid (Calls Try.prog 23 #[.pointer (some ⟨C, 0, none⟩), .int .i64 ((np : Int) + 1 + (j : Int))] w9 fun e w' => e = .returned (.pointer none) ∧ w9 = w') := by
                    rw [← HVP.out]
                    exact codeAt_nil C C _ (np + 1 + j) w9 h1 (laz2_at HI6.out HI.out _).1 (by rw [List.length_set, HL8.out]; omega)
                  have hf2 := Lib.hid (fire_eq C C n1 (np + 1 + j) 0 _ b ((np : Int) + 1 + (j : Int) + 1) w9 h1 (HSB.out.keptC h3 HC8.out) (by rw [List.length_set, HL8.out]; omega) (by rw [List.length_set, HL8.out]; omega) (by rw [List.length_set]; exact HV8.out))
                  have HB9 : Hid (Below C w6 w9) := HB8.out.trans h2
                  clear h1 h2 h3 hf1
                  go_wp2_with fail
                  with_reducible refine (hna.out).mono ?_
                  rintro e9 w10 ⟨rfl, rfl⟩
                  go_wp2_with fail
                  with_reducible refine (hf2.out).mono ?_
                  rintro e9 w10 ⟨rfl, kb, h1, h2, h3⟩
                  have hT := two_of HI6.out HI.out ka kb a b
                  have hb68 : Below C w6 w10 := HB9.out.trans h2
                  have hCL := h1
                  clear h1 h2 h3 hf2 hna HB9
                all_goals
                  have hbw8 : Below w.heap.size w w10 := HW6.out.trans (hb68.mono hwC)
                  generalize List.set (List.set (cs ++ [none] ++ xs ++ [none]) _ _) _ _ = L at *
                  have hlen9 : Hid (Calls Try.prog 16 #[.pointer (some ⟨C, 0, none⟩)] w10 fun e w' => e = .returned (.int .i64 ((np : Int) + 1 + (j : Int) + 1)) ∧ w10 = w') := by
                    rw [show (np : Int) + 1 + (j : Int) + 1 = ((np + 1 + j + 1 : Nat) : Int) by omega]
                    exact len_eq C C _ _ w10 hCL hT.len
                  have hsa : Hid (Calls Try.prog 21 #[.pointer (some ⟨C, 0, none⟩), .int .i64 np, .int .i64 a, .int .i64 ((np : Int) + 1 + (j : Int) + 1)] w10 fun e w' => e = .returned (.bool true) ∧ w10 = w') := by
                    obtain ⟨k, hk⟩ := hT.a
                    exact same_any C C _ np _ a _ w10 hCL hk (by rw [hT.len]; omega)
                  have hsb : Hid (Calls Try.prog 21 #[.pointer (some ⟨C, 0, none⟩), .int .i64 ((np : Int) + 1 + (j : Int)), .int .i64 b, .int .i64 ((np : Int) + 1 + (j : Int) + 1)] w10 fun e w' => e = .returned (.bool true) ∧ w10 = w') := by
                    obtain ⟨k, hk⟩ := hT.b
                    have := same_any C C _ (np + 1 + j) _ b _ w10 hCL hk (by rw [hT.len]; omega)
                    rw [HVP.out] at this
                    exact this
                  have HB8 := Lib.hid hCL
                  have HCX := Lib.hid hT.len
                  have HI8 := Lib.hid hT.pre
                  have HX8 := Lib.hid hT.mid
                  have P0 := Lib.hid (Q0.out.below hb68)
                  have P1 := Lib.hid (Q1.out.below hb68)
                  have P2 := Lib.hid (Q2.out.below hb68)
                  have P3 := Lib.hid (Q3.out.below hb68)
                  have HW8 := Lib.hid hbw8
                  clear hbw8 hb68 Q0 Q1 Q2 Q3 HI6 HI HD6 H0 hT hCL HC8 HSA HSB HL8 HV8
                  go_wp2_with fail
                  with_reducible refine (hlen9.out).mono ?_
                  rintro e9 w11 ⟨rfl, rfl⟩
                  go_wp2_with fail
                  with_reducible refine (hsa.out).mono ?_
                  rintro e9 w11 ⟨rfl, rfl⟩
                  go_wp2_with fail
                  with_reducible refine (hsb.out).mono ?_
                  rintro e9 w11 ⟨rfl, rfl⟩
                  go_wp2_with fail
                  obtain ⟨p1, hp1⟩ : ∃ p1, p1 = np + 1 := ⟨_, rfl⟩
                  have hpl : p1 ≤ 5000 := by omega
                  have hwr1 : IntKind.i64.wrap ((np : Int) + 1) = (p1 : Int) := by rw [IntWalk.i64_in _ (by omega)]; omega
                  rw [← hp1] at HX8
                  rw [← hp1] at HCX
                  have HP1 := Lib.hid hp1
                  clear hp1 hsa hsb hlen9
                  go_loopw [24] (fun i wq => ∃ k : Nat, i = .int .i64 k ∧ k ≤ np ∧ ∃ m, wq = w10.drewN m) (fun i _ => np - (intOf i).toNat)
                  case atStart => exact ⟨0, rfl, by omega, 0, rfl⟩
                  case round =>
                    obtain ⟨k, rfl, hk, m, rfl⟩ := hrel
                    by_cases hlt2 : k < np
                    · obtain ⟨g, o, x, rfl, hg, k1, hxx⟩ := rd_at P0.out (i := k) (by omega)
                      obtain ⟨g', o', y, rfl, hg', k2, hyy⟩ := rd_at P1.out (i := k) (by omega)
                      obtain ⟨b, hb⟩ := HI8.out k x y hlt2 hxx hyy
                      have hsm := Lib.hid fun n => same_any C C L k b x y (w10.drewN n) (HB8.out.drewN n) hb (by rw [HCX.out]; omega)
                      have kk0 : (0 : Int) ≤ k := by omega
                      have kk1 : (k : Int) < l0.length := by omega
                      have kk2 : (k : Int) < l1.length := by omega
                      clear hxx hyy hb
                      go_wp2_with fail
                      go_quiet ((go_at_call 21; exact quiet_add_same (hsm.out _)))
                      go_wp2_with fail
                      go_roundw
                      case rel => exact ⟨k + 1, by go_num, by omega, _, rfl⟩
                      case measure => simp [intOf]; omega
                    · have hkn : k = np := by omega
                      subst hkn
                      go_wp2_with fail
                      go_loopw [25] (fun i wq => ∃ k : Nat, i = .int .i64 k ∧ k ≤ j ∧ ∃ m, wq = w10.drewN m) (fun i _ => j - (intOf i).toNat)
                      case atStart => exact ⟨0, rfl, by omega, m, rfl⟩
                      case round =>
                        obtain ⟨q, rfl, hq, m, rfl⟩ := hrel
                        by_cases hlt3 : q < j
                        · obtain ⟨g, o, x, rfl, hg, k1, hxx⟩ := rd_at P2.out (i := q) (by omega)
                          obtain ⟨g', o', y, rfl, hg', k2, hyy⟩ := rd_at P3.out (i := q) (by omega)
                          obtain ⟨b, hb⟩ := HX8.out q x y hlt3 hxx hyy
                          have hsm := Lib.hid fun n => same_any C C L (p1 + q) b x y (w10.drewN n) (HB8.out.drewN n) hb (by rw [HCX.out]; omega)
                          have hwr := i64_add p1 q (by omega)
                          have kk0 : (0 : Int) ≤ q := by omega
                          have kk1 : (q : Int) < l2.length := by omega
                          have kk2 : (q : Int) < l3.length := by omega
                          clear hxx hyy hb
                          go_wp2_with fail
                          go_quiet ((go_at_call 21; exact quiet_add_same (hsm.out _)))
                          go_wp2_with fail
                          go_roundw
                          case rel => exact ⟨q + 1, by go_num, by omega, _, rfl⟩
                          case measure => simp [intOf]; omega
                        · go_wp2_with fail
                          go_ret
                          exact ⟨rfl, below_drewN HW8.out _⟩
        · clear QA0 QA1 QA2 QA3 QR0 QR1 QR2 QR3
          go_enter Try.func9, Try.ntmps9
          go_wp2_with fail
          with_reducible refine (hzz.out).mono ?_
          rintro e0 w0 ⟨b, rfl, rfl, hb⟩
          cases b
          all_goals
            clear hb
            go_wp2_with fail
            go_ret
            exact ⟨rfl, Below.refl _ _⟩
      · clear QA0 QA1 QA2 QA3 QR0 QR1 QR2 QR3
        go_enter Try.func9, Try.ntmps9
        go_wp2_with fail
        with_reducible refine (hzz.out).mono ?_
        rintro e0 w0 ⟨b, rfl, rfl, hb⟩
        cases b
        all_goals
          clear hb
          go_wp2_with fail
          go_ret
          exact ⟨rfl, Below.refl _ _⟩
    · clear QA0 QA1 QA2 QA3 QR0 QR1 QR2 QR3
      go_enter Try.func9, Try.ntmps9
      go_wp2_with fail
      with_reducible refine (hzz.out).mono ?_
      rintro e0 w0 ⟨b, rfl, rfl, hb⟩
      cases b
      all_goals
        clear hb
        go_wp2_with fail
        go_ret
        exact ⟨rfl, Below.refl _ _⟩
  · clear QA0 QA1 QA2 QA3 QR0 QR1 QR2 QR3
    go_enter Try.func9, Try.ntmps9
    go_wp2_with fail
    with_reducible refine (hzz.out).mono ?_
    rintro e0 w0 ⟨b, rfl, rfl, hb⟩
    cases b
    all_goals
      clear hb
      go_wp2_with fail
      go_ret
      exact ⟨rfl, Below.refl _ _⟩
end Go.Proofs.Ytaeficfjocinaaa
