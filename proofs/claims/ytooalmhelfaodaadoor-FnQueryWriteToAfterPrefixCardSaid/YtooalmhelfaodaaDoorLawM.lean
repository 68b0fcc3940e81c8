/- The walk of FnQueryWriteToAfterPrefix: true at every prefix and every chain. -/
import Derived.Test.YtooalmhelfaodaaDoorLawK
namespace Go.Proofs.YtooalmhelfaodaaDoor
open Go.RowKit
set_option maxRecDepth 100000
set_option linter.unusedVariables false
theorem gpQ_chain (ks os : List Nat) (ts ps : List ByteArray) (l : List UInt8) (j : Nat) : gpQ (chain ks os ts ps j) l = gpL (zzL (kAt ks 0) (txt ts 0)) l := by
  induction j with
  | zero => rfl
  | succ j ih => exact ih
theorem gpL_zzL (k : Nat) (s : ByteArray) (l : List UInt8) : gpL (zzL k s) l = if k % 6 = 5 then gap l else [] := by
  unfold zzL
  have h6 : k % 6 < 6 := Nat.mod_lt _ (by omega)
  rcases (show k % 6 = 0 ∨ k % 6 = 1 ∨ k % 6 = 2 ∨ k % 6 = 3 ∨ k % 6 = 4 ∨ k % 6 = 5 by omega) with h | h | h | h | h | h
  all_goals
    rw [h]
    simp [gpL]
theorem gpQ_chainQ (ks os : List Nat) (ts ps : List ByteArray) (l : List UInt8) : gpQ (chainQ ks os ts ps) l = if ks.length ≠ 0 ∧ kAt ks 0 % 6 = 5 then gap l else [] := by
  unfold chainQ
  by_cases h : ks.length = 0
  · rw [if_pos h, if_neg (by omega)]; rfl
  · rw [if_neg h, gpQ_chain, gpL_zzL]
    by_cases h5 : kAt ks 0 % 6 = 5
    · rw [if_pos h5, if_pos ⟨h, h5⟩]
    · rw [if_neg h5, if_neg (by omega)]
/-- what the law lays between the prefix and the text -/
theorem pre_eq {S A p sp : ByteArray} {T : Qu} (hS : S = ⟨(outQ T p.data.toList).toArray⟩) (hA : A = ⟨(outQ T []).toArray⟩) (hg : gpQ T p.data.toList = sp.data.toList) : (S.toList == (p ++ sp ++ A).toList) = true := by
  subst hS hA
  rw [beq_iff_eq, Lib.toList_data, Lib.toList_data, ByteArray.data_append, ByteArray.data_append, Array.toList_append, Array.toList_append, ← hg]
  show outQ T p.data.toList = _
  rw [outQ_pre]
  try simp
theorem ret_bool2 {a : Bool} (h : a = true) : Ending.returned (.bool a) = .returned (.bool true) := by rw [h]
set_option maxHeartbeats 8000000 in
theorem law_pre (A0 A1 A2 A3 : Option Addr) (c0 c1 c2 c3 : Nat) (p : ByteArray) (ks os : List Nat) (ts ps : List ByteArray) (w : World) (h0 : RdIn w A0 c0 (u8s ks)) (h1 : RdIn w A1 c1 (u8s os)) (h2 : RdIn w A2 c2 (ts.map Value.string)) (h3 : RdIn w A3 c3 (ps.map Value.string))
    (hk8 : ∀ k ∈ ks, k ≤ 255) (ho8 : ∀ k ∈ os, k ≤ 255) (hpz : p.size ≤ 9223372036854775807) :
    Calls Tryd.prog 11 #[.string p, .slice A0 ks.length c0, .slice A1 os.length c1, .slice A2 ts.length c2, .slice A3 ps.length c3] w fun e w' => e = .returned (.bool true) ∧ Below w.heap.size w w' := by
  have hz := Lib.hid (zzb63p w.heap.size A0 A1 A2 A3 ks.length os.length c0 c1 c2 c3 ts ps p w (txtRd_of h2.2.1) (txtRd_of h3.2.1) (Nat.le_refl _))
  have H0 := Lib.hid h0
  have H1 := Lib.hid h1
  have H2 := Lib.hid h2
  have H3 := Lib.hid h3
  have HK8 := Lib.hid hk8
  have HO8 := Lib.hid ho8
  clear h0 h1 h2 h3 hk8 ho8
  go_enter Tryd.func11, Tryd.ntmps11
  go_wp2_with fail
  with_reducible refine (hz.out).mono ?_
  rintro e1 w1 ⟨b, rfl, rfl, hsz⟩
  cases b with
  | false =>
    go_wp2_with fail
    go_ret
    exact ⟨rfl, Below.refl _ _⟩
  | true =>
    obtain ⟨hts, hps⟩ := hsz rfl
    have HTS := Lib.hid hts
    have HPS := Lib.hid hps
    clear hts hps hsz hz
    by_cases np : p.size ≤ 1048576
    · by_cases n0 : ks.length ≤ 65536
      · by_cases n1 : os.length ≤ 65536
        · by_cases n2 : ts.length ≤ 65536
          · by_cases n3 : ps.length ≤ 65536
            · have s2 := Lib.hid (strsBytes63 w.heap.size A2 c2 ts w (txtRd_of H2.out.2.1) (Nat.le_refl _) n2 (fun s hs => by have := HTS.out s hs; omega))
              have s3 := Lib.hid (strsBytes63 w.heap.size A3 c3 ps w (txtRd_of H3.out.2.1) (Nat.le_refl _) n3 (fun s hs => by have := HPS.out s hs; omega))
              go_wp2_with fail
              with_reducible refine (s2.out).mono ?_
              rintro e2 w2 ⟨m2, rfl, rfl, _, b2⟩
              go_wp2_with fail
              with_reducible refine (s3.out).mono ?_
              rintro e3 w3 ⟨m3, rfl, rfl, _, b3⟩
              by_cases hsum : p.size + ks.length + os.length + m2 + m3 ≤ 1048576
              · have hd : ¬ (1048576 : Int) < (p.size : Int) + (ks.length : Int) + (os.length : Int) + (m2 : Int) + (m3 : Int) := by omega
                have k0 := Lib.hid (cloneU8s_any A0 c0 ks w H0.out.nilU H0.out.2.1 n0)
                clear s2 s3
                go_wp2_with fail
                with_reducible refine (k0.out).mono ?_
                rintro e4 w4 ⟨B0, d0, rfl, r0, bb4⟩
                have k1 := Lib.hid (cloneU8s_any A1 c1 os w4 H1.out.nilU (H1.out.2.1.up bb4) n1)
                have R0 := Lib.hid r0
                clear r0 k0
                go_wp2_with fail
                with_reducible refine (k1.out).mono ?_
                rintro e5 w5 ⟨B1, d1, rfl, r1, bb5'⟩
                have bb5 := bb4.trans (bb5'.mono bb4.size)
                have k2 := Lib.hid (cloneStrs_any A2 c2 ts w5 H2.out.nilS (H2.out.2.1.up bb5) n2)
                have R0' := Lib.hid (R0.out.up bb5')
                have R1 := Lib.hid r1
                clear r1 k1 R0
                go_wp2_with fail
                with_reducible refine (k2.out).mono ?_
                rintro e6 w6 ⟨B2, d2, rfl, r2, bb6'⟩
                have bb6 := bb5.trans (bb6'.mono bb5.size)
                have k3 := Lib.hid (cloneStrs_any A3 c3 ps w6 H3.out.nilS (H3.out.2.1.up bb6) n3)
                have R0 := Lib.hid (R0'.out.up bb6')
                have R1' := Lib.hid (R1.out.up bb6')
                have R2 := Lib.hid r2
                clear r2 k2 R1 R0'
                go_wp2_with fail
                with_reducible refine (k3.out).mono ?_
                rintro e7 w7 ⟨B3, d3, rfl, r3, bb7'⟩
                have bb7 := bb6.trans (bb7'.mono bb6.size)
                have RK := Lib.hid (R0.out.up bb7')
                have kb := Lib.hid (build63_any B0 B1 B2 B3 d0 d1 d2 d3 ks os ts ps w7 RK.out (R1'.out.up bb7') (R2.out.up bb7') r3 HK8.out HO8.out HTS.out HPS.out n0 n2 n3 n1)
                have hwt := chainQ_wt ks os ts ps HTS.out HPS.out n0
                have hgp := Lib.hid (gpQ_chainQ ks os ts ps p.data.toList)
                clear r3 k3 R0 R1' R2
                go_wp2_with fail
                with_reducible refine (kb.out).mono ?_
                rintro e8 w8 ⟨q, v, rfl, hQ, hX, bb8'⟩
                have bb8 := bb7.trans (bb8'.mono bb7.size)
                have RK8 := Lib.hid (RK.out.up bb8')
                generalize chainQ ks os ts ps = T at *
                obtain ⟨S, hS, ha⟩ : ∃ S : ByteArray, Hid (S = ⟨(outQ T p.data.toList).toArray⟩) ∧ Hid (Calls Tryd.prog 42 #[.string p, .pointer (some ⟨q, 0, none⟩)] w8 fun r w' => r = .returned (.string S) ∧ Below w8.heap.size w8 w') :=
                  ⟨_, Lib.hid rfl, Lib.hid (afterQ q T p w8 hQ (by omega))⟩
                have HQ := Lib.hid hQ
                clear hX hQ kb RK
                go_wp2_with fail
                with_reducible refine (ha.out).mono ?_
                rintro e9 w9 ⟨rfl, bb9'⟩
                have bb9 := bb8.trans (bb9'.mono bb8.size)
                have RK9 := Lib.hid (RK8.out.up bb9')
                obtain ⟨A, hA, hal⟩ : ∃ S : ByteArray, Hid (S = ⟨(outQ T []).toArray⟩) ∧ Hid (Calls Tryd.prog 45 #[.pointer (some ⟨q, 0, none⟩)] w9 fun r w' => r = .returned (.string S) ∧ Below w9.heap.size w9 w') :=
                  ⟨_, Lib.hid rfl, Lib.hid (strQ q T w9 ((HQ.out.below bb9').mono bb9'.size) (by omega))⟩
                have hAz : A.size ≤ 200000000000 := by
                  have h1 := outQ_len T []
                  rw [hA.out, ← size_list]
                  simp only [List.length_nil] at h1
                  show (outQ T []).length ≤ _
                  omega
                clear ha RK8 HQ
                go_wp2_with fail
                with_reducible refine (hal.out).mono ?_
                rintro e10 w10 ⟨rfl, bb10'⟩
                have bb10 := bb9.trans (bb10'.mono bb9.size)
                have RK10 := Lib.hid (RK9.out.up bb10')
                clear hal RK9
                by_cases hp0 : 0 < p.size
                · by_cases hk0 : 0 < ks.length
                  · obtain ⟨g, o, rfl, hg, ck⟩ := RK10.out 0 _ (u8s_at hk0)
                    rw [Nat.add_zero] at ck
                    obtain ⟨k, hk⟩ : ∃ k, Hid (kAt ks 0 = k) := ⟨_, Lib.hid rfl⟩
                    have hk255 := getD_le HK8.out 0
                    rw [hk.out] at ck hgp hk255
                    obtain ⟨r, hr⟩ : ∃ r, Hid (k % 6 = r) := ⟨_, Lib.hid rfl⟩
                    have ht : Int.tmod (k : Int) 6 = (r : Int) := by rw [← hr.out]; rfl
                    have hr6 : r < 6 := by rw [← hr.out]; omega
                    rw [hr.out] at hgp
                    clear hk
                    by_cases hr5 : r = 5
                    · subst hr5
                      have hgg := Lib.hid (hgp.out.trans (if_pos ⟨by omega, rfl⟩))
                      have hfu := fuse_last (l := p.data.toList) rfl hp0
                      have i1 : (0 : Int) ≤ (p.size : Int) - 1 := by omega
                      have i2 : (p.size : Int) - 1 < (p.size : Int) := by omega
                      obtain ⟨x, hx⟩ : ∃ x : UInt8, Hid (p[p.size - 1] = x) := ⟨_, Lib.hid rfl⟩
                      rw [hx.out] at hfu
                      have hx8 : x.toNat < 256 := x.toNat_lt
                      by_cases hf : fuse p.data.toList = true
                      · have hG := Lib.hid (hgg.out.trans (show gap p.data.toList = (⟨#[32]⟩ : ByteArray).data.toList by unfold gap; rw [if_pos hf]))
                        rw [hf] at hfu
                        have hor : x.toNat = 46 ∨ (x.toNat ≠ 46 ∧ 48 ≤ x.toNat ∧ x.toNat ≤ 57) := by
                          by_cases h46 : x = 46
                          · left; rw [h46]; rfl
                          · have h1 : x.toNat ≠ 46 := fun e => h46 (UInt8.toNat_inj.1 e)
                            have h2 : (x == 46) = false := by rw [beq_eq_false_iff_ne]; exact h46
                            rw [h2, Bool.false_or] at hfu
                            have h3 := hfu.symm
                            rw [Bool.and_eq_true, decide_eq_true_eq, decide_eq_true_eq, UInt8.le_iff_toNat_le, UInt8.le_iff_toNat_le] at h3
                            exact Or.inr ⟨h1, h3⟩
                        clear hfu hf hgg
                        rcases hor with h46 | ⟨h1, h2, h3⟩
                        · have hc : ((x.toNat : Int) == 46) = true := by rw [beq_iff_eq]; omega
                          have HX : Hid (((p[p.size - 1].toNat : Int) == 46) = true) := by rw [hx.out]; exact hc
                          clear hc h46
                          have hc := HX.out
                          go_wp2_with fail
                          go_ret
                          exact ⟨ret_bool2 (pre_eq (sp := ⟨#[32]⟩) hS.out hA.out hG.out), bb10⟩
                        · have HX : Hid (((p[p.size - 1].toNat : Int) == 46) = false ∧ decide (48 ≤ (p[p.size - 1].toNat : Int)) = true ∧ decide ((p[p.size - 1].toNat : Int) ≤ 57) = true) := by
                            rw [hx.out]
                            exact ⟨by rw [beq_eq_false_iff_ne]; omega, decide_eq_true (by omega), decide_eq_true (by omega)⟩
                          clear h1 h2 h3
                          obtain ⟨hc, hc2, hc3⟩ := HX.out
                          go_wp2_with fail
                          go_ret
                          exact ⟨ret_bool2 (pre_eq (sp := ⟨#[32]⟩) hS.out hA.out hG.out), bb10⟩
                      · have hG := Lib.hid (hgg.out.trans (show gap p.data.toList = [] by unfold gap; rw [if_neg hf]))
                        have hf' : fuse p.data.toList = false := by simpa using hf
                        rw [hf'] at hfu
                        have h1 : x.toNat ≠ 46 := by
                          intro e
                          have : x = 46 := UInt8.toNat_inj.1 e
                          subst this
                          simp at hfu
                        have h2 : ¬ (48 ≤ x.toNat ∧ x.toNat ≤ 57) := by
                          rintro ⟨a, b⟩
                          have e1 : decide ((48 : UInt8) ≤ x) = true := decide_eq_true (UInt8.le_iff_toNat_le.2 a)
                          have e2 : decide (x ≤ (57 : UInt8)) = true := decide_eq_true (UInt8.le_iff_toNat_le.2 b)
                          rw [e1, e2] at hfu
                          simp at hfu
                        clear hfu hf hf' hgg
                        by_cases h48 : 48 ≤ x.toNat
                        · have HX : Hid (((p[p.size - 1].toNat : Int) == 46) = false ∧ decide (48 ≤ (p[p.size - 1].toNat : Int)) = true ∧ decide ((p[p.size - 1].toNat : Int) ≤ 57) = false) := by
                            rw [hx.out]
                            exact ⟨by rw [beq_eq_false_iff_ne]; omega, decide_eq_true (by omega), decide_eq_false (by omega)⟩
                          clear h1 h2 h48
                          obtain ⟨hc, hc2, hc3⟩ := HX.out
                          go_wp2_with fail
                          go_ret
                          exact ⟨ret_bool2 (pre_eq (sp := ⟨#[]⟩) hS.out hA.out hG.out), bb10⟩
                        · have HX : Hid (((p[p.size - 1].toNat : Int) == 46) = false ∧ decide (48 ≤ (p[p.size - 1].toNat : Int)) = false) := by
                            rw [hx.out]
                            exact ⟨by rw [beq_eq_false_iff_ne]; omega, decide_eq_false (by omega)⟩
                          clear h1 h2 h48
                          obtain ⟨hc, hc2⟩ := HX.out
                          go_wp2_with fail
                          go_ret
                          exact ⟨ret_bool2 (pre_eq (sp := ⟨#[]⟩) hS.out hA.out hG.out), bb10⟩
                    · have hG := Lib.hid (hgp.out.trans (if_neg (fun h => hr5 h.2)))
                      have hr5' : ((r : Int) == 5) = false := by rw [beq_eq_false_iff_ne]; omega
                      clear hr5
                      go_wp2_with fail
                      go_ret
                      exact ⟨ret_bool2 (pre_eq (sp := ⟨#[]⟩) hS.out hA.out hG.out), bb10⟩
                  · have hG := Lib.hid (hgp.out.trans (if_neg (fun h => hk0 (by omega))))
                    go_wp2_with fail
                    go_ret
                    exact ⟨ret_bool2 (pre_eq (sp := ⟨#[]⟩) hS.out hA.out hG.out), bb10⟩
                · have hp00 : p.data.toList = [] := List.eq_nil_of_length_eq_zero (by rw [size_list]; omega)
                  have hG : Hid (gpQ T p.data.toList = []) := by
                    refine Lib.hid (hgp.out.trans ?_)
                    rw [hp00, gap_nil]
                    split <;> rfl
                  clear hp00
                  go_wp2_with fail
                  go_ret
                  exact ⟨ret_bool2 (pre_eq (sp := ⟨#[]⟩) hS.out hA.out hG.out), bb10⟩
              · have hd : (1048576 : Int) < (p.size : Int) + (ks.length : Int) + (os.length : Int) + (m2 : Int) + (m3 : Int) := by omega
                go_wp2_with fail
                go_ret
                exact ⟨rfl, Below.refl _ _⟩
            · go_wp2_with fail
              go_ret
              exact ⟨rfl, Below.refl _ _⟩
          · go_wp2_with fail
            go_ret
            exact ⟨rfl, Below.refl _ _⟩
        · go_wp2_with fail
          go_ret
          exact ⟨rfl, Below.refl _ _⟩
      · go_wp2_with fail
        go_ret
        exact ⟨rfl, Below.refl _ _⟩
    · go_wp2_with fail
      go_ret
      exact ⟨rfl, Below.refl _ _⟩
end Go.Proofs.YtooalmhelfaodaaDoor
