/- The peephole pass, walked. -/
import Derived.Test.YtaeficfjocinaaaCoS
namespace Go.Proofs.Ytaeficfjocinaaa
open Go.RowKit
set_option maxRecDepth 100000
set_option linter.unusedVariables false
theorem isP_c (o : Int) (b : Bool) (w : World) (h : isP o = b) : Calls Try.prog 46 #[.int .i64 o] w fun e w' => e = .returned (.bool b) ∧ w = w' := by
  subst h
  have hz : isP o = (o == 1 || o == 3 || o == 5) := rfl
  have HZ := Lib.hid hz
  clear hz
  go_enter Try.func46, Try.ntmps46
  go_wp2_with fail
  all_goals
    go_ret
    exact ⟨ret_bool (by rw [HZ.out]; try simp_all), rfl⟩
theorem isJ_c (o : Int) (b : Bool) (w : World) (h : isJ o = b) : Calls Try.prog 40 #[.int .i64 o] w fun e w' => e = .returned (.bool b) ∧ w = w' := by
  subst h
  have hz : isJ o = (o == 15 || o == 16) := rfl
  have HZ := Lib.hid hz
  clear hz
  go_enter Try.func40, Try.ntmps40
  go_wp2_with fail
  all_goals
    go_ret
    exact ⟨ret_bool (by rw [HZ.out]; try simp_all), rfl⟩
theorem run_assert1 (v : Int) (w : World) : (Instr.typeAssert (.iface 3 (.int .i64 v)) 20 3 false).run Try.prog w = .ok (.int .i64 v) w := by kernel_rfl
def Opt (base C n : Nat) (b : Nat → Nat) (A V : Nat → Int) (w : World) (e : Ending) (w' : World) : Prop := e = .returned (.tuple #[]) ∧ IC w' base C n b A V ∧ Below base w w'
theorem IC.open_ {w : World} {base C n : Nat} {b : Nat → Nat} {A V : Nat → Int} (h : IC w base C n b A V) (hn : 0 < n) : ∃ g cap, w.cell? ⟨C, 5, none⟩ = some (.slice (some ⟨g, 0, none⟩) n cap) ∧ C < w.heap.size ∧ g < w.heap.size ∧ ∀ q, q < n → w.cell? ⟨g, q, none⟩ = some (.pointer (some ⟨b q, 0, none⟩)) := by
  obtain ⟨A', cap, c5, hlt, hc⟩ := h.cs.open_
  rw [cds_len] at c5
  obtain ⟨g, rfl, hg, _⟩ := hc 0 _ (cds_at hn)
  refine ⟨g, cap, c5, hlt, hg, fun q hq => ?_⟩
  obtain ⟨g', e, _, h2⟩ := hc q _ (cds_at hq)
  injection e with e
  injection e with e
  subst e
  exact h2
set_option maxHeartbeats 16000000 in
theorem opt_any (base C n : Nat) (b : Nat → Nat) (o x f : Nat → Int) (w : World) (h : IC w base C n b o x) (hG : Guard n o x) (hF : FinOK n o x f) (hn : n ≤ 10000000) :
    Calls Try.prog 47 #[.pointer (some ⟨C, 0, none⟩)] w (Opt base C n b (want n o x) f w) := by
  have hst : IC w base C n b (opA n o x n) (valA x f n) := h.congr (fun q hq => by unfold opA; rw [if_pos hq]) (fun q hq => by unfold valA; rw [if_pos hq])
  obtain ⟨A0, cap0, c50, hlt0, _⟩ := h.cs.open_
  rw [cds_len] at c50
  have HST := Lib.hid hst
  have HG := Lib.hid hG
  have HF := Lib.hid hF
  clear h hG hF hst
  go_enter Try.func47, Try.ntmps47
  go_wp2_with fail
  clear c50
  go_loopg [2, 3] n (fun gk i nxt wr => gk ≤ n ∧ i = .int .i64 ((gk : Int) - 1) ∧ nxt = nx n b gk ∧ IC wr base C n b (opA n o x gk) (valA x f gk) ∧ Below base w wr)
  case atStart => exact ⟨Nat.le_refl _, rfl, by unfold nx; rw [if_pos rfl], HST.out, Below.refl _ _⟩
  case round =>
    obtain ⟨hkn, rfl, rfl, hIC, hbw⟩ := hrel
    by_cases h0 : gk = 0
    · subst h0
      have HI := Lib.hid hIC
      have HB := Lib.hid hbw
      clear hIC hbw
      go_wp2_with fail
      go_end0
      exact ⟨rfl, HI.out.congr (fun q hq => opA_end HG.out hq) (fun q hq => by unfold valA; rw [if_neg (by omega)]), HB.out⟩
    · obtain ⟨m, rfl⟩ : ∃ m, gk = m + 1 := ⟨gk - 1, by omega⟩
      have hm : m < n := by omega
      have e1 : (((m + 1 : Nat) : Int) - 1) = (m : Int) := by omega
      rw [e1]
      clear e1 h0
      obtain ⟨g, cap, c5, hlC, hlg, hcell⟩ := hIC.open_ (by omega)
      have cm := hcell m hm
      have Bm := hIC.blk hm
      have hom : opA n o x (m + 1) m = o m := by unfold opA; rw [if_pos (by omega)]
      have hvm : valA x f (m + 1) m = x m := by unfold valA; rw [if_pos (by omega)]
      rw [hom, hvm] at Bm
      have km1 : wr.cell? ⟨b m, 1, none⟩ = some (.int .i64 (o m)) := Bm.cell 1
      have km0 : wr.cell? ⟨b m, 0, none⟩ = some (.iface 3 (.int .i64 (x m))) := Bm.cell 0
      have fm1 := Bm.frozen 1
      have fm0 := Bm.frozen 0
      have lm := Bm.lt
      have bb : base ≤ b m := by
        obtain ⟨cc, X, hc⟩ := hIC.cs
        exact hc.lo _ (List.mem_of_getElem? (cds_at hm))
      have hcl := Lib.hid hcell
      have k0 : (0 : Int) ≤ m := by omega
      have k1 : (m : Int) < n := by omega
      have hgx := HG.out.2 m hm
      clear hom hvm Bm hcell
      obtain ⟨bm, hbm⟩ : ∃ bm, Hid (b m = bm) := ⟨_, Lib.hid rfl⟩
      obtain ⟨z, hz⟩ : ∃ z, Hid (o m = z) := ⟨_, Lib.hid rfl⟩
      obtain ⟨xm, hxm⟩ : ∃ xm, Hid (x m = xm) := ⟨_, Lib.hid rfl⟩
      rw [hbm.out] at cm km1 km0 fm1 fm0 lm bb
      rw [hz.out] at km1 hgx
      rw [hxm.out] at km0 hgx
      have HIC := Lib.hid hIC
      have HBW := Lib.hid hbw
      clear hIC hbw
      by_cases hp : isP z = true
      · have hl : m + 1 < n := by
          rcases Nat.lt_or_ge (m + 1) n with h2 | h2
          · exact h2
          · have := HG.out.1 m (by omega)
            rw [hz.out, hp] at this
            cases this
        have hnx : nx n b (m + 1) = .pointer (some ⟨b (m + 1), 0, none⟩) := by unfold nx; rw [if_neg (by omega)]
        rw [hnx]
        have Bn := HIC.out.blk hl
        have hon : opA n o x (m + 1) (m + 1) = ownR o x (m + 1) := by unfold opA; rw [if_neg (by omega), if_pos rfl]
        rw [hon] at Bn
        have kn1 : wr.cell? ⟨b (m + 1), 1, none⟩ = some (.int .i64 (ownR o x (m + 1))) := Bn.cell 1
        have fn1 := Bn.frozen 1
        have ln := Bn.lt
        have hne : b m ≠ b (m + 1) := fun e => by have := HIC.out.inj m (m + 1) hm hl e; omega
        have bbn : base ≤ b (m + 1) := by
          obtain ⟨cc, X, hc⟩ := HIC.out.cs
          exact hc.lo _ (List.mem_of_getElem? (cds_at hl))
        have hjn : isJ z = false := by rw [isJ_no]; rw [isP_iff] at hp; omega
        have HV := Lib.hid (val_same hm HF.out (fin_no (.inl (by rw [hz.out]; exact hjn))))
        have hpo : isP (o m) = true := by rw [hz.out]; exact hp
        have HPO := Lib.hid hpo
        have HL := Lib.hid hl
        rw [hbm.out] at hne
        clear hnx Bn hon hgx hjn hpo
        obtain ⟨bn, hbn⟩ : ∃ bn, Hid (b (m + 1) = bn) := ⟨_, Lib.hid rfl⟩
        obtain ⟨y, hy⟩ : ∃ y, Hid (ownR o x (m + 1) = y) := ⟨_, Lib.hid rfl⟩
        rw [hbn.out] at kn1 fn1 ln hne bbn ⊢
        rw [hy.out] at kn1
        have hne' : bn ≠ bm := fun e => hne e.symm
        rw [isP_iff] at hp
        have HP := Lib.hid hp
        clear hp
        by_cases h2 : y = 2
        · subst h2
          have HS := Lib.hid (stage_pop (n := n) (x := x) hl HPO.out (own_2.1 hy.out))
          have HI2 : Hid (IC ((wr.setCell ⟨bm, 1, none⟩ (.int .i64 0)).setCell ⟨bn, 1, none⟩ (.int .i64 0)) base C n b (opA n o x m) (valA x f m)) := by
            have := (HIC.out.op hm 0).op hl 0
            rw [hbm.out, hbn.out] at this
            exact this.congr HS.out HV.out
          rcases HP.out with rfl | rfl | rfl
          all_goals
            go_wp2_with fail
            go_roundg m
            case measure => omega
            case rel => exact ⟨by omega, by go_num, by unfold nx; rw [if_neg (by omega), hbm.out], HI2.out, (HBW.out.setCell (p := ⟨bm, 1, none⟩) bb _).setCell (p := ⟨bn, 1, none⟩) bbn _⟩
        · by_cases h4 : y = 4
          · subst h4
            have HS := Lib.hid (stage_const (n := n) (x := x) hl HPO.out (own_4.1 hy.out))
            have HI2 : Hid (IC ((wr.setCell ⟨bm, 1, none⟩ (.int .i64 0)).setCell ⟨bn, 1, none⟩ (.int .i64 1)) base C n b (opA n o x m) (valA x f m)) := by
              have := (HIC.out.op hm 0).op hl 1
              rw [hbm.out, hbn.out] at this
              exact this.congr HS.out HV.out
            rcases HP.out with rfl | rfl | rfl
            all_goals
              go_wp2_with fail
              go_roundg m
              case measure => omega
              case rel => exact ⟨by omega, by go_num, by unfold nx; rw [if_neg (by omega), hbm.out], HI2.out, (HBW.out.setCell (p := ⟨bm, 1, none⟩) bb _).setCell (p := ⟨bn, 1, none⟩) bbn _⟩
          · have g2 : (y == 2) = false := by simp [h2]
            have g4 : (y == 4) = false := by simp [h4]
            have HI2 : Hid (IC wr base C n b (opA n o x m) (valA x f m)) := HIC.out.congr (stage_same hm HG.out (fun _ => ⟨fun e => h2 (by rw [← hy.out]; exact own_2.2 e), fun e => h4 (by rw [← hy.out]; exact own_4.2 e)⟩) (fun e => by have := HP.out; rw [hz.out, isJ_iff] at e; omega)) HV.out
            clear h2 h4
            rcases HP.out with rfl | rfl | rfl
            all_goals
              go_wp2_with fail
              go_roundg m
              case measure => omega
              case rel => exact ⟨by omega, by go_num, by unfold nx; rw [if_neg (by omega), hbm.out], HI2.out, HBW.out⟩
      · have HNP := Lib.hid hp
        generalize nx n b (m + 1) = nv
        by_cases hj : isJ z = true
        · have hgx := hgx hj
          have HJ := Lib.hid (isJ_iff.1 hj)
          have HJO : Hid (isJ (o m) = true) := by rw [hz.out]; exact hj
          clear hp hj
          by_cases hx1 : xm = m + 1
          · subst hx1
            have HI2 : Hid (IC (wr.setCell ⟨bm, 1, none⟩ (.int .i64 0)) base C n b (opA n o x m) (valA x f m)) := by
              have := HIC.out.op hm (ownR o x m)
              rw [show ownR o x m = 0 by unfold ownR; rw [if_neg (by rw [hz.out]; exact fun e => HNP.out e.1), if_pos ⟨HJO.out, hxm.out⟩]] at this
              rw [hbm.out] at this
              refine this.congr ?_ (val_same hm HF.out (fin_no (.inr hxm.out)))
              have h3 := stage_own (n := n) (x := x) hm HG.out (fun e => absurd (by rw [← hz.out]; exact e) HNP.out)
              rw [show ownR o x m = 0 by unfold ownR; rw [if_neg (by rw [hz.out]; exact fun e => HNP.out e.1), if_pos ⟨HJO.out, hxm.out⟩]] at h3
              exact h3
            clear hgx
            have hta := run_assert1 ((m : Int) + 1)
            rcases HJ.out with rfl | rfl
            all_goals
              go_wp2_with fail
              go_roundg m
              case measure => omega
              case rel => exact ⟨by omega, by go_num, by unfold nx; rw [if_neg (by omega), hbm.out], HI2.out, HBW.out.setCell (p := ⟨bm, 1, none⟩) bb _⟩
          · have hr := hgx.resolve_left hx1
            obtain ⟨j, rfl⟩ : ∃ j : Nat, xm = j := ⟨xm.toNat, by omega⟩
            have hjn : j < n := by omega
            have cj := hcl.out j hjn
            have Bj := HIC.out.blk hjn
            have kj1 : wr.cell? ⟨b j, 1, none⟩ = some (.int .i64 (opA n o x (m + 1) j)) := Bj.cell 1
            have kj0 : wr.cell? ⟨b j, 0, none⟩ = some (.iface 3 (.int .i64 (valA x f (m + 1) j))) := Bj.cell 0
            have lj := Bj.lt
            have hfj := fin_jump (n := n) (f := f) HJO.out (by rw [hxm.out]; exact hx1) hxm.out
            have HS := Lib.hid (stage_same (n := n) (x := x) hm HG.out (fun e => absurd (by rw [← hz.out]; exact e) HNP.out) (fun _ => by rw [hxm.out]; exact hx1))
            have hta := run_assert1 (j : Int)
            have j0 : (0 : Int) ≤ j := by omega
            have j1 : (j : Int) < n := by omega
            have jne : ((j : Int) - 1 == m) = false := by simp; omega
            clear hgx hr hx1 Bj
            obtain ⟨bj, hbj⟩ : ∃ bj, Hid (b j = bj) := ⟨_, Lib.hid rfl⟩
            obtain ⟨y, hy⟩ : ∃ y, Hid (opA n o x (m + 1) j = y) := ⟨_, Lib.hid rfl⟩
            obtain ⟨v, hv⟩ : ∃ v, Hid (valA x f (m + 1) j = v) := ⟨_, Lib.hid rfl⟩
            rw [hbj.out] at cj kj1 kj0 lj
            rw [hy.out] at kj1 hfj
            rw [hv.out] at kj0 hfj
            by_cases hy15 : y = 15
            · rw [if_pos hy15] at hfj
              subst hy15
              have HI2 : Hid (IC (wr.setCell ⟨bm, 0, none⟩ (.iface 3 (.int .i64 v))) base C n b (opA n o x m) (valA x f m)) := by
                have := HIC.out.val hm v
                rw [hbm.out] at this
                exact this.congr HS.out (val_set hm HF.out hfj)
              clear hfj
              rcases HJ.out with rfl | rfl
              all_goals
                go_wp2_with fail
                go_roundg m
                case measure => omega
                case rel => exact ⟨by omega, by go_num, by unfold nx; rw [if_neg (by omega), hbm.out], HI2.out, HBW.out.setCell (p := ⟨bm, 0, none⟩) bb _⟩
            · rw [if_neg hy15] at hfj
              have g15 : (y == 15) = false := by simp [hy15]
              have HI2 : Hid (IC wr base C n b (opA n o x m) (valA x f m)) := HIC.out.congr HS.out (val_same hm HF.out hfj)
              clear hfj hy15
              rcases HJ.out with rfl | rfl
              all_goals
                go_wp2_with fail
                go_roundg m
                case measure => omega
                case rel => exact ⟨by omega, by go_num, by unfold nx; rw [if_neg (by omega), hbm.out], HI2.out, HBW.out⟩
        · have HI2 : Hid (IC wr base C n b (opA n o x m) (valA x f m)) := HIC.out.congr (stage_same hm HG.out (fun e => absurd (by rw [← hz.out]; exact e) HNP.out) (fun e => absurd (by rw [← hz.out]; exact e) hj)) (val_same hm HF.out (fin_no (.inl (by rw [hz.out]; simpa using hj))))
          rw [isP_iff] at hp
          rw [isJ_iff] at hj
          have g1 : (z == 1) = false := by simp; omega
          have g3 : (z == 3) = false := by simp; omega
          have g5 : (z == 5) = false := by simp; omega
          have g15 : (z == 15) = false := by simp; omega
          have g16 : (z == 16) = false := by simp; omega
          clear hp hj hgx
          go_wp2_with fail
          go_roundg m
          case measure => omega
          case rel => exact ⟨by omega, by go_num, by unfold nx; rw [if_neg (by omega), hbm.out], HI2.out, HBW.out⟩
end Go.Proofs.Ytaeficfjocinaaa
