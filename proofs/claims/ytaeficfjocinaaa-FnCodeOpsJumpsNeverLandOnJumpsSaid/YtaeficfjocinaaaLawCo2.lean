/- The walk of FnCodeOpsJumpsNeverLandOnJumps: true at every two lists. -/
import Derived.Test.YtaeficfjocinaaaCoG
import Derived.Test.YtaeficfjocinaaaZzb
namespace Go.Proofs.Ytaeficfjocinaaa
open Go.RowKit
set_option maxRecDepth 100000
set_option linter.unusedVariables false
theorem zz_opt (base C n : Nat) (b : Nat → Nat) (o x f : Nat → Int) (w : World) (h : IC w base C n b o x) (hG : Guard n o x) (hF : FinOK n o x f) (hn : n ≤ 10000000) :
    Calls Try.prog 29 #[.pointer (some ⟨C, 0, none⟩)] w (Opt base C n b (want n o x) f w) := by
  have hc := Lib.hid (opt_any base C n b o x f w h hG hF hn)
  clear h hG hF
  go_enter Try.func29, Try.ntmps29
  go_wp2_with fail
  with_reducible refine (hc.out).mono ?_
  rintro e w1 ⟨rfl, h1, h2⟩
  go_wp2_with fail
  go_end0
  exact ⟨rfl, h1, h2⟩
theorem IC.below {w w' : World} {base C n : Nat} {b : Nat → Nat} {A V : Nat → Int} (h : IC w base C n b A V) (hb : Below w.heap.size w w') : IC w' base C n b A V := ⟨h.cs.below hb, h.inj⟩
theorem len_eq (base C n : Nat) (cs : List (Option Cd)) (w : World) (h : CSx w base C cs) (hl : cs.length = n) : Calls Try.prog 16 #[.pointer (some ⟨C, 0, none⟩)] w fun e w' => e = .returned (.int .i64 n) ∧ w = w' := by
  subst hl
  exact len_any base C cs w h
set_option maxHeartbeats 16000000 in
theorem law_co2 (A0 A1 : Option Addr) (c0 c1 : Nat) (l0 l1 : List Int) (w : World) (a0 : A0 = none → c0 = 0 ∧ l0 = []) (a1 : A1 = none → c1 = 0 ∧ l1 = []) (r0 : RdAt w w.heap.size A0 (vInts l0)) (r1 : RdAt w w.heap.size A1 (vInts l1)) :
    Calls Try.prog 8 #[.slice A0 l0.length c0, .slice A1 l1.length c1] w fun e w' => e = .returned (.bool true) ∧ Below w.heap.size w w' := by
  have hzz := Lib.hid (zzb_FnCodeOpsJumpsNeverLandOnJumps A0 A1 l0.length l1.length c0 c1 w)
  have QA0 := Lib.hid a0
  have QA1 := Lib.hid a1
  have QR0 := Lib.hid r0
  have QR1 := Lib.hid r1
  clear a0 a1 r0 r1
  by_cases s0 : l0.length ≤ 4096
  · by_cases s1 : l1.length ≤ 4096
    · go_enter Try.func8, Try.ntmps8
      go_wp2_with fail
      with_reducible refine (hzz.out).mono ?_
      rintro e0 w0 ⟨b, rfl, rfl, hb⟩
      cases b
      · clear hb
        go_wp2_with fail
        go_ret
        exact ⟨rfl, Below.refl _ _⟩
      · clear hb
        have hc0 := Lib.hid (clone_any A0 c0 l0 w QA0.out QR0.out (by omega))
        go_wp2_with fail
        with_reducible refine (hc0.out).mono ?_
        rintro e0 w1 ⟨B0, d0, rfl, hd0, hr0, hbb0⟩
        rw [vInts_len] at hd0 ⊢
        have hb1 : Below w.heap.size w w1 := hbb0
        have R0 := Lib.hid hr0
        clear hr0
        have hc1 := Lib.hid (clone_any A1 c1 l1 w1 QA1.out ((QR1.out.below hb1).mono hb1.size) (by omega))
        go_wp2_with fail
        with_reducible refine (hc1.out).mono ?_
        rintro e1 w2 ⟨B1, d1, rfl, hd1, hr1, hbb1⟩
        rw [vInts_len] at hd1 ⊢
        have hb2 : Below w.heap.size w w2 := hb1.trans (hbb1.mono hb1.size)
        have R1 := Lib.hid hr1
        have R0x := Lib.hid ((R0.out.below hbb1).mono hbb1.size)
        clear hr1
        obtain ⟨np, hnp⟩ : ∃ np, Hid (np = min l0.length l1.length) := ⟨_, Lib.hid rfl⟩
        have np0 : np ≤ l0.length := by have := hnp.out; omega
        have np1 : np ≤ l1.length := by have := hnp.out; omega
        have hm1 := min_any l0.length l1.length w2
        rw [← hnp.out] at hm1
        have HM1 := Lib.hid hm1
        clear hm1
        go_wp2_with fail
        with_reducible refine (HM1.out).mono ?_
        rintro e5 w5 ⟨rfl, rfl⟩
        have hz2 := hb2.size
        have ld0 : (np : Int) ≤ (d0 : Int) := by omega
        have ld1 : (np : Int) ≤ (d1 : Int) := by omega
        have nn0 : (0 : Int) ≤ (np : Int) := by omega
        have F0 := Lib.hid (frd_of R0x.out np0)
        have F1 := Lib.hid (frd_of R1.out np1)
        have hgu := Lib.hid (fwd_any B0 B1 np d0 d1 w2.heap.size (oF l0) (oF l1) w2 F0.out F1.out (by omega))
        go_wp2_with fail
        with_reducible refine (hgu.out).mono ?_
        rintro e6 w6 ⟨b, rfl, rfl, hb⟩
        cases b
        · clear hb
          go_wp2_with fail
          go_ret
          exact ⟨rfl, hb2⟩
        · have hG := hb rfl
          have HG := Lib.hid hG
          clear hb hG hgu
          have hbu := Lib.hid (build_any w2.heap.size B0 B1 np d0 d1 l0 l1 w2 R0x.out R1.out np0 np1 (by omega) (Nat.le_refl _))
          go_wp2_with fail
          with_reducible refine (hbu.out).mono ?_
          rintro e6 w6 ⟨cs, rfl, hC6, hI6, hD6, hb6⟩
          obtain ⟨bq, hIC⟩ := ic_of hC6 hI6 hD6 np0 np1
          obtain ⟨f, hF⟩ := fin_exists np (oF l0) (oF l1) HG.out.1
          have hop := Lib.hid (zz_opt w2.heap.size w2.heap.size np bq (oF l0) (oF l1) f w6 hIC HG.out.1 hF (by omega))
          have HF := Lib.hid hF
          have HB6 := Lib.hid hb6
          clear hC6 hI6 hD6 hIC hF hb6 hbu
          go_wp2_with fail
          with_reducible refine (hop.out).mono ?_
          rintro e7 w7 ⟨rfl, h1, h2⟩
          have hlen := Lib.hid (len_eq _ _ np _ w7 h1.cs (cds_len _ _ _ _))
          have HIC := Lib.hid h1
          have hb27 : Below w2.heap.size w2 w7 := HB6.out.trans h2
          have hbw7 : Below w.heap.size w w7 := hb2.trans (hb27.mono hz2)
          have E0 := Lib.hid (F0.out.below hb27)
          have E1 := Lib.hid (F1.out.below hb27)
          have h27 := hb27.size
          have HW7 := Lib.hid hbw7
          clear h1 h2 hop HB6 F0 F1 R0 R1 R0x hc0 hc1 HM1 hbb0 hbb1 hb1 hb2 hzz hnp QA0 QA1 QR0 QR1 hbw7 hb27
          generalize hCe : w2.heap.size = C at *
          clear hCe
          go_wp2_with fail
          with_reducible refine (hlen.out).mono ?_
          rintro e8 w8 ⟨rfl, rfl⟩
          clear hlen
          go_wp2_with fail
          go_loopg [7] np (fun gk i wq => ∃ p : Nat, gk = np - p ∧ p ≤ np ∧ i = .int .i64 p ∧ wq = w7)
          case atStart => exact ⟨0, rfl, by omega, rfl, rfl⟩
          case round =>
            obtain ⟨p, rfl, hp, rfl, rfl⟩ := hrel
            by_cases hlt : p < np
            · obtain ⟨g, k, rfl, _, lg, hco⟩ := E0.out (by omega)
              obtain ⟨g', k', rfl, _, lg', hcx⟩ := E1.out (by omega)
              have c1 := hco p hlt
              have c2 := hcx p hlt
              clear hco hcx
              have p0 : (0 : Int) ≤ p := by omega
              have p1 : (p : Int) < np := by omega
              have hca : Hid (Calls Try.prog 23 #[.pointer (some ⟨C, 0, none⟩), .int .i64 p] wr fun e w' => e = .returned (.pointer (some ⟨bq p, 0, none⟩)) ∧ wr = w') := codeAt_any C C _ p _ wr HIC.out.cs (cds_at hlt) (by rw [cds_len]; omega)
              have hop : Hid (Calls Try.prog 24 #[.pointer (some ⟨C, 0, none⟩), .int .i64 p] wr fun e w' => e = .returned (.int .i64 (want np (oF l0) (oF l1) p)) ∧ wr = w') := op_any C C _ p _ wr HIC.out.cs (cds_at hlt) (by rw [cds_len]; omega)
              have hvi : Hid (Calls Try.prog 25 #[.pointer (some ⟨C, 0, none⟩), .int .i64 p] wr fun e w' => e = .returned (.tuple #[.int .i64 (f p), .bool true]) ∧ wr = w') := vInt_any C C _ p _ _ _ wr HIC.out.cs (cds_at hlt) (by rw [cds_len]; omega)
              have hkd := want_kind (n := np) (o := oF l0) (x := oF l1) (p := p)
              by_cases hJ : isJ (want np (oF l0) (oF l1) p) = true
              · obtain ⟨j1, j2, j3⟩ := want_J hJ
                obtain ⟨q1, q2, q3, q4⟩ := fin_lands HG.out.1 HG.out.2 HF.out _ p (Nat.le_refl _) hlt j1 j2
                have hcj := Lib.hid (isJ_c _ true wr hJ)
                obtain ⟨j, hj⟩ : ∃ j : Nat, f p = j := ⟨(f p).toNat, by omega⟩
                rw [hj] at q1 q2 q3 q4 hvi
                rw [Int.toNat_natCast] at q4
                have hjn : j < np := by omega
                have hcb : Hid (Calls Try.prog 23 #[.pointer (some ⟨C, 0, none⟩), .int .i64 j] wr fun e w' => e = .returned (.pointer (some ⟨bq j, 0, none⟩)) ∧ wr = w') := codeAt_any C C _ j _ wr HIC.out.cs (cds_at hjn) (by rw [cds_len]; omega)
                have hob : Hid (Calls Try.prog 24 #[.pointer (some ⟨C, 0, none⟩), .int .i64 j] wr fun e w' => e = .returned (.int .i64 (want np (oF l0) (oF l1) j)) ∧ wr = w') := op_any C C _ j _ wr HIC.out.cs (cds_at hjn) (by rw [cds_len]; omega)
                have g15 : (want np (oF l0) (oF l1) j == 15) = false := by simp [q4]
                generalize want np (oF l0) (oF l1) j = wj at hob g15
                rw [j3] at hop hcj
                clear j1 j2 j3 hkd hj hJ q4
                generalize oF l0 p = z at c1 hop hcj
                generalize oF l1 p = xp at c2 q1
                have gz : (z != z) = false := by simp
                go_wp2_with fail
                with_reducible refine (hca.out).mono ?_
                rintro e9 w9 ⟨rfl, rfl⟩
                go_wp2_with fail
                with_reducible refine (hop.out).mono ?_
                rintro e9 w9 ⟨rfl, rfl⟩
                go_wp2_with fail
                with_reducible refine (hvi.out).mono ?_
                rintro e9 w9 ⟨rfl, rfl⟩
                go_wp2_with fail
                with_reducible refine (hcj.out).mono ?_
                rintro e9 w9 ⟨rfl, rfl⟩
                go_wp2_with fail
                with_reducible refine (hcb.out).mono ?_
                rintro e9 w9 ⟨rfl, rfl⟩
                go_wp2_with fail
                with_reducible refine (hob.out).mono ?_
                rintro e9 w9 ⟨rfl, rfl⟩
                go_wp2_with fail
                go_roundg (np - (p + 1))
                case measure => omega
                case rel => exact ⟨p + 1, rfl, by omega, by go_num, rfl⟩
              · have hJ : isJ (want np (oF l0) (oF l1) p) = false := by simpa using hJ
                have hcj := Lib.hid (isJ_c _ false wr hJ)
                have hfx := want_noJ HF.out hlt hJ
                rw [hfx] at hvi
                clear hfx hJ
                rcases hkd with e | e | ⟨e, e4⟩
                · rw [e] at hop hcj
                  clear e
                  generalize oF l0 p = z at c1 hop hcj
                  generalize oF l1 p = xp at c2 hvi
                  have gz : (z != z) = false := by simp
                  have gx : (xp != xp) = false := by simp
                  go_wp2_with fail
                  with_reducible refine (hca.out).mono ?_
                  rintro e9 w9 ⟨rfl, rfl⟩
                  go_wp2_with fail
                  with_reducible refine (hop.out).mono ?_
                  rintro e9 w9 ⟨rfl, rfl⟩
                  go_wp2_with fail
                  with_reducible refine (hvi.out).mono ?_
                  rintro e9 w9 ⟨rfl, rfl⟩
                  go_wp2_with fail
                  with_reducible refine (hcj.out).mono ?_
                  rintro e9 w9 ⟨rfl, rfl⟩
                  go_wp2_with fail
                  go_roundg (np - (p + 1))
                  case measure => omega
                  case rel => exact ⟨p + 1, rfl, by omega, by go_num, rfl⟩
                · rw [e] at hop hcj
                  clear e
                  generalize oF l0 p = z at c1
                  generalize oF l1 p = xp at c2 hvi
                  have gx : (xp != xp) = false := by simp
                  by_cases hz0 : z = 0
                  · subst hz0
                    go_wp2_with fail
                    with_reducible refine (hca.out).mono ?_
                    rintro e9 w9 ⟨rfl, rfl⟩
                    go_wp2_with fail
                    with_reducible refine (hop.out).mono ?_
                    rintro e9 w9 ⟨rfl, rfl⟩
                    go_wp2_with fail
                    with_reducible refine (hvi.out).mono ?_
                    rintro e9 w9 ⟨rfl, rfl⟩
                    go_wp2_with fail
                    with_reducible refine (hcj.out).mono ?_
                    rintro e9 w9 ⟨rfl, rfl⟩
                    go_wp2_with fail
                    go_roundg (np - (p + 1))
                    case measure => omega
                    case rel => exact ⟨p + 1, rfl, by omega, by go_num, rfl⟩
                  · have gz : ((0 : Int) != z) = true := by simp; omega
                    clear hz0
                    go_wp2_with fail
                    with_reducible refine (hca.out).mono ?_
                    rintro e9 w9 ⟨rfl, rfl⟩
                    go_wp2_with fail
                    with_reducible refine (hop.out).mono ?_
                    rintro e9 w9 ⟨rfl, rfl⟩
                    go_wp2_with fail
                    with_reducible refine (hvi.out).mono ?_
                    rintro e9 w9 ⟨rfl, rfl⟩
                    go_wp2_with fail
                    with_reducible refine (hcj.out).mono ?_
                    rintro e9 w9 ⟨rfl, rfl⟩
                    go_wp2_with fail
                    go_roundg (np - (p + 1))
                    case measure => omega
                    case rel => exact ⟨p + 1, rfl, by omega, by go_num, rfl⟩
                · rw [e] at hop hcj
                  rw [e4] at c1
                  clear e e4
                  generalize oF l1 p = xp at c2 hvi
                  have gx : (xp != xp) = false := by simp
                  go_wp2_with fail
                  with_reducible refine (hca.out).mono ?_
                  rintro e9 w9 ⟨rfl, rfl⟩
                  go_wp2_with fail
                  with_reducible refine (hop.out).mono ?_
                  rintro e9 w9 ⟨rfl, rfl⟩
                  go_wp2_with fail
                  with_reducible refine (hvi.out).mono ?_
                  rintro e9 w9 ⟨rfl, rfl⟩
                  go_wp2_with fail
                  with_reducible refine (hcj.out).mono ?_
                  rintro e9 w9 ⟨rfl, rfl⟩
                  go_wp2_with fail
                  go_roundg (np - (p + 1))
                  case measure => omega
                  case rel => exact ⟨p + 1, rfl, by omega, by go_num, rfl⟩
            · go_wp2_with fail
              go_ret
              exact ⟨rfl, HW7.out⟩
    · clear QA0 QA1 QR0 QR1
      go_enter Try.func8, Try.ntmps8
      go_wp2_with fail
      with_reducible refine (hzz.out).mono ?_
      rintro e0 w0 ⟨b, rfl, rfl, hb⟩
      cases b
      all_goals
        clear hb
        go_wp2_with fail
        go_ret
        exact ⟨rfl, Below.refl _ _⟩
  · clear QA0 QA1 QR0 QR1
    go_enter Try.func8, Try.ntmps8
    go_wp2_with fail
    with_reducible refine (hzz.out).mono ?_
    rintro e0 w0 ⟨b, rfl, rfl, hb⟩
    cases b
    all_goals
      clear hb
      go_wp2_with fail
      go_ret
      exact ⟨rfl, Below.refl _ _⟩
end Go.Proofs.Ytaeficfjocinaaa
