/- The pass on tail calls: the walk. -/
import Derived.WalkMore
import Derived.Test.YtaeficfjocinaaaTrV
namespace Go.Proofs.Ytaeficfjocinaaa
open Go.RowKit Go.Maps
set_option maxRecDepth 100000
set_option linter.unusedVariables false
theorem run_assert_tri1 (x y z : Int) (w : World) : (Instr.typeAssert (.iface 85 (.agg #[.int .i64 x, .int .i64 y, .int .i64 z])) 20 85 false).run Try.prog w = .ok (.agg #[.int .i64 x, .int .i64 y, .int .i64 z]) w := by kernel_rfl
theorem run_assert_ti (x y z : Int) (w : World) : (Instr.typeAssert (.iface 85 (.agg #[.int .i64 x, .int .i64 y, .int .i64 z])) 20 3 true).run Try.prog w = .ok (.tuple #[.int .i64 0, .bool false]) w := by kernel_rfl
def OptT (base C n : Nat) (V : Value) (b : Nat → Nat) (o x y z : Nat → Int) (w : World) (e : Ending) (w' : World) : Prop :=
  e = .returned (.tuple #[]) ∧ ∃ st, IsStop n o st ∧ GV w' base C n V b (aftO n o x y z st) (aftV n o x y z st) ∧ Below base w w'
/-- where round j stands -/
def AtJ (base C n M : Nat) (A0 : Option Addr) (cap : Nat) (b : Nat → Nat) (o x y z : Nat → Int) (w : World) (j : Nat) (V : Value) (wr : World) : Prop :=
  Pcs wr base V (stk o j) ∧ MapI wr M j o y z ∧ GV wr base C n (.slice A0 n cap) b (aftO n o x y z j) (aftV n o x y z j) ∧ Below base w wr ∧ ∀ q, q < j → ¬ stopAt o q
theorem valT_23 {o x y z : Nat → Int} {i : Nat} (h : o i = 23) : valT o x y z i = tri (x i) (y i) (z i) := valT_yes (by unfold isT; rw [h]; rfl)
theorem key_nat (k : Nat) (h : k ≤ 1000000) : keyOf Try.prog 3 (.int .i64 (k : Int)) = some (.int .i64 k) := keyOf_int_mk Try.underlying3 (WalkArith.wf_i64 (by omega))
section
variable {w w' : World} {M i m base : Nat} {o y z : Nat → Int} {D : DataW Unit}
theorem MapI.put (hm : m ≤ i) (hD : IsMap D) (h2 : ∀ k : Nat, Maps.has D (.int .i64 k) = (decide (k < i) && (o k == 23 && z k == 0)) ∧ (Maps.has D (.int .i64 k) = true → ∀ zd, D.atKey (.int .i64 k) zd = .lit (.bool (y k == 0))))
    (ho : w'.ownsMap Try.prog 3 (plainElem Try.prog 4) M (m + 1) (D.put (.int .i64 i) (.lit (.bool (y i == 0))))) (h23 : o i = 23) (hz : z i = 0) : MapI w' M (i + 1) o y z := by
  refine ⟨m + 1, _, by omega, ho, hD.put _ _, fun k => ?_⟩
  by_cases hk : k = i
  · subst hk
    refine ⟨?_, fun _ zd => atKey_put_same hD (by trivial) _ _⟩
    rw [has_put_same hD (by trivial), h23, hz]
    simp
  · have hne : (Lit.int .i64 (k : Int)) ≠ .int .i64 (i : Int) := fun e => by injection e with _ e; omega
    rw [has_put_other hne]
    refine ⟨?_, fun h zd => by rw [atKey_put_other hne]; exact (h2 k).2 h zd⟩
    rw [(h2 k).1, show decide (k < i + 1) = decide (k < i) from decide_eq_decide.2 (by omega)]
theorem Pcs.alloc' {V : Value} {l : List Nat} (h : Pcs w base V l) (ob : Obj) : Pcs (w.alloc ob) base V l := World.ownsRow.alloc h ob
theorem MapI.nocells (h : MapI w M i o y z) : ∀ g, some M = some g → ∀ c t fz, w.heap[g]? = some (.cells c t fz) → t = 3 := by
  intro g hg c t fz hh
  injection hg with hg
  subst hg
  obtain ⟨es, c', h1⟩ := h.heap
  rw [h1] at hh
  cases hh
end
theorem rew_not {n : Nat} {o x z : Nat → Int} {i : Nat} (h : ∀ k t, stk o i = k :: t → z i = 0 → x i = (k : Int) → z k = 0 → tail_ n o x i = true → False) : rew n o x z i = false := by
  cases hr : rew n o x z i with
  | false => rfl
  | true =>
    obtain ⟨k, t, h1, _, h2, h3, h4, h5⟩ := rew_iff.1 hr
    exact absurd (h k t h1 h2 h3 h4 h5) id
theorem AtJ.keep {base C n M cap : Nat} {A0 : Option Addr} {b : Nat → Nat} {o x y z : Nat → Int} {w wr : World} {j : Nat} {V : Value} (h : AtJ base C n M A0 cap b o x y z w j V wr) (h1 : o j ≠ 23) (h2 : o j ≠ 24) (hr : rew n o x z j = false) : AtJ base C n M A0 cap b o x y z w (j + 1) V wr := by
  obtain ⟨hP, hM, hG, hB, hN⟩ := h
  refine ⟨by rw [stk_keep h1 h2]; exact hP, hM.skip (by simp [h1]), hG.congr (fun q _ => (aft_keepO hr q).symm) (fun q _ => (aft_keepV hr q).symm), hB, fun q hq e => ?_⟩
  by_cases hqj : q = j
  · subst hqj
    exact h2 e.1
  · exact hN q (by omega) e
theorem aft_yes {n : Nat} {o x y z : Nat → Int} {j k : Nat} (hr : rew n o x z j = true) (hk : x j = (k : Int)) : aftO n o x y z (j + 1) j = (if y k = 0 then 15 else 20) ∧ aftV n o x y z (j + 1) j = .iface 3 (.int .i64 (if y k = 0 then (k : Int) + 1 else k)) := by
  obtain ⟨_, _, _, h1, h2, _⟩ := rew_iff.1 hr
  have hT : isT o z j = false := by unfold isT; rw [h1, h2]; rfl
  unfold aftO aftV finO finX
  rw [hT, hr, hk]
  simp
theorem AtJ.turn {base C n M cap : Nat} {A0 : Option Addr} {b : Nat → Nat} {o x y z : Nat → Int} {w wr : World} {j k : Nat} {V : Value} (h : AtJ base C n M A0 cap b o x y z w j V wr) (hj : j < n) (hr : rew n o x z j = true) (hk : x j = (k : Int)) :
    (y k = 0 → AtJ base C n M A0 cap b o x y z w (j + 1) V ((wr.setCell ⟨b j, 1, none⟩ (.int .i64 15)).setCell ⟨b j, 0, none⟩ (.iface 3 (.int .i64 ((k : Int) + 1))))) ∧
    (y k ≠ 0 → AtJ base C n M A0 cap b o x y z w (j + 1) V (wr.setCell ⟨b j, 1, none⟩ (.int .i64 20))) := by
  obtain ⟨hP, hM, hG, hB, hN⟩ := h
  obtain ⟨_, _, hs, h1, h2, _⟩ := rew_iff.1 hr
  have hb := hG.blk hj
  have hlo := hG.lo hj
  have hT : isT o z j = false := by unfold isT; rw [h1, h2]; rfl
  obtain ⟨e1, e2⟩ := aft_yes (y := y) hr hk
  have v0 : aftV n o x y z j j = .iface 3 (.int .i64 (k : Int)) := by rw [aft_hereV (Nat.le_refl j), valT_no hT, hk]
  have hst : stk o (j + 1) = stk o j := stk_keep (by omega) (by omega)
  have hP1 : ∀ v u, World.ownsRow (wr.setCell ⟨b j, 1, none⟩ v) base 3 1 V (stk o j).length ((stk o j).reverse.map fun k : Nat => Value.int .i64 (k : Int)) ∧ World.ownsRow ((wr.setCell ⟨b j, 1, none⟩ v).setCell ⟨b j, 0, none⟩ u) base 3 1 V (stk o j).length ((stk o j).reverse.map fun k : Nat => Value.int .i64 (k : Int)) := by
    intro v u
    have hne : V.ownBlock ≠ some (b j) := Pcs.ne_blk hP hb (by decide)
    have a1 := owns_far hP (p := ⟨b j, 1, none⟩) hne v
    exact ⟨a1, owns_far a1 (p := ⟨b j, 0, none⟩) hne u⟩
  have hMb : M ≠ b j := hM.ne_blk hb
  have hM' := hM.skip (show (o j == 23 && z j == 0) = false by rw [h1]; rfl)
  have hN' : ∀ q, q < j + 1 → ¬ stopAt o q := fun q hq e => by
    by_cases hqj : q = j
    · subst hqj
      have := e.1
      omega
    · exact hN q (by omega) e
  constructor
  · intro hy
    rw [if_pos hy] at e1 e2
    refine ⟨by unfold Pcs; rw [hst]; exact (hP1 _ _).2, (hM'.set_ (p := ⟨b j, 1, none⟩) hMb _).set_ (p := ⟨b j, 0, none⟩) hMb _, ?_, (hB.setCell (p := ⟨b j, 1, none⟩) hlo _).setCell (p := ⟨b j, 0, none⟩) hlo _, hN'⟩
    have g1 : GV (wr.setCell ⟨b j, 1, none⟩ (.int .i64 15)) base C n (.slice A0 n cap) b (aftO n o x y z (j + 1)) (aftV n o x y z j) := hG.set_ hj _ (fun q _ hq => ⟨aft_otherO hq, rfl⟩) (by rw [e1]; rfl)
    exact g1.set_ hj _ (fun q _ hq => ⟨rfl, aft_otherV hq⟩) (by rw [e2]; rfl)
  · intro hy
    rw [if_neg hy] at e1 e2
    refine ⟨by unfold Pcs; rw [hst]; exact (hP1 _ (.int .i64 0)).1, hM'.set_ (p := ⟨b j, 1, none⟩) hMb _, ?_, hB.setCell (p := ⟨b j, 1, none⟩) hlo _, hN'⟩
    exact hG.set_ hj _ (fun q _ hq => ⟨aft_otherO hq, aft_otherV hq⟩) (by rw [e1, e2, v0]; rfl)
set_option maxHeartbeats 16000000 in
theorem optT_any (base C n cap : Nat) (A0 : Option Addr) (b : Nat → Nat) (o x y z : Nat → Int) (w : World) (h : GV w base C n (.slice A0 n cap) b o (valT o x y z)) (hF : FwdJ n o x) (hn : n ≤ 1000000) :
    Calls Try.prog 44 #[.pointer (some ⟨C, 0, none⟩)] w (OptT base C n (.slice A0 n cap) b o x y z w) := by
  have hst : GV w base C n (.slice A0 n cap) b (aftO n o x y z 0) (aftV n o x y z 0) := h.congr (fun q hq => (aft_start.1 q).symm) (fun q hq => (aft_start.2 q).symm)
  have c50 := h.c5
  have hlt0 := h.lt
  have hle0 := h.le
  obtain ⟨i0, hi, hz0, hz1, hz2⟩ := info_parts info_cloneInts
  have hmm := @run_makeMap Try.prog
  have HST := Lib.hid hst
  have HF := Lib.hid hF
  clear h hF hst
  have c50' : (w.alloc (.map #[] 0)).cell? ⟨C, 5, none⟩ = some (.slice A0 n cap) := (GV.alloc HST.out _).c5
  go_enter Try.func44, Try.ntmps44
  go_wp2_with fail
  go_step3
  go_wp2_with fail
  go_step3
  go_wp2_with fail
  clear c50 c50' hmm
  go_loopg [2, 17] n (fun gk V iv wr => ∃ j : Nat, gk = n - j ∧ j ≤ n ∧ iv = .int .i64 j ∧ AtJ base C n w.heap.size A0 cap b o x y z w j V wr)
  case atStart => exact ⟨0, rfl, by omega, rfl, World.ownsRow_nil _ _ _ _, MapI.start w, HST.out.alloc _, (Below.refl _ _).alloc (by omega) _, fun q hq => absurd hq (by omega)⟩
  case round =>
    obtain ⟨j, rfl, hj, rfl, hP, hM, hG, hbw, hns⟩ := hrel
    by_cases hlt : j < n
    · obtain ⟨g, rfl, hlg, hcell⟩ := hG.open_ (by omega)
      have cj := hcell j hlt
      have Bj := hG.blk hlt
      rw [aft_hereO (Nat.le_refl j), aft_hereV (Nat.le_refl j)] at Bj
      have kj1 : wr.cell? ⟨b j, 1, none⟩ = some (.int .i64 (o j)) := Bj.cell 1
      have kj0 : wr.cell? ⟨b j, 0, none⟩ = some (valT o x y z j) := Bj.cell 0
      have lj := Bj.lt
      have j0 : (0 : Int) ≤ j := by omega
      have j1 : (j : Int) < n := by omega
      have HCELL := Lib.hid hcell
      obtain ⟨bj, hbj⟩ : ∃ bj, Hid (b j = bj) := ⟨_, Lib.hid rfl⟩
      obtain ⟨u, hu⟩ : ∃ u, Hid (o j = u) := ⟨_, Lib.hid rfl⟩
      rw [hbj.out] at cj kj1 kj0 lj Bj
      rw [hu.out] at kj1
      have HBJ := Lib.hid Bj
      have hsl := stk_len o j
      have hws : w.heap.size ≤ wr.heap.size := hbw.size
      have hjm : j < 1000000 := by omega
      have HP := Lib.hid hP
      have HM := Lib.hid hM
      have HG := Lib.hid hG
      have HBW := Lib.hid hbw
      have HNS := Lib.hid hns
      clear hcell Bj hP hM hG hbw hns
      by_cases h23 : u = 23
      · subst h23
        rw [valT_23 hu.out] at kj0
        have hrew := Lib.hid (rew_no (o := o) (n := n) (x := x) (z := z) (i := j) (by rw [hu.out]; decide))
        have hta := run_assert_tri1 (x j) (y j) (z j)
        simp only [tri] at kj0
        obtain ⟨A2, cap2, hVe, _⟩ := HP.out.shape
        obtain ⟨xv, hxv⟩ : ∃ xv, Hid (x j = xv) := ⟨_, Lib.hid rfl⟩
        obtain ⟨yv, hyv⟩ : ∃ yv, Hid (y j = yv) := ⟨_, Lib.hid rfl⟩
        obtain ⟨zv, hzv⟩ : ∃ zv, Hid (z j = zv) := ⟨_, Lib.hid rfl⟩
        rw [hxv.out, hyv.out, hzv.out] at kj0 hta
        have HVE := Lib.hid hVe
        clear hVe
        have hns1 := Lib.hid (show ∀ q, q < j + 1 → ¬ stopAt o q from fun q hq e => by
          by_cases hqj : q = j
          · subst hqj
            have := e.1
            rw [hu.out] at this
            omega
          · exact HNS.out q (by omega) e)
        go_wp2_with (at_builtin; go_must (refine wpList_append_lies _ rfl (.tmp 28) (.tmp 30) 22 rfl base 3 i0 (.int .i64 0) 1 8 Try.underlying22 hi hz0 hz1 hz2 rfl (by decide) _ (stk o j).length _ rfl (HP.out.alloc _) ⟨wr.heap.size, 0, none⟩ 1 1 [.int .i64 j] rfl rfl (one_cell (.int .i64 j) _ rfl) (by intro u hu; simp at hu; subst hu; rfl) (by omega) (by unfold maxLen; omega) (by omega) (by simp; omega) _ rfl ?_))
        intro g1 cap1 w1 hown1 hgrow _ hlt1
        rw [← List.map_reverse] at hown1
        have hP1 := Pcs.push hown1
        rw [← stk_push hu.out] at hP1
        have hG1 := (HG.out.alloc (.cells #[.int .i64 j] 3)).grown hgrow (Pcs.kind (HP.out.alloc _))
        have hM1 := (HM.out.alloc (.cells #[.int .i64 j] 3)).kept hgrow (HM.out.ne_row HP.out)
        have hb1 : Below base w w1 := (HBW.out.alloc (by omega) _).grown hgrow (by simp; omega) (fun k hk => (HP.out.lt k hk).1)
        have Bj1 := hG1.blk hlt
        rw [aft_hereO (Nat.le_refl j), aft_hereV (Nat.le_refl j), valT_23 hu.out, hbj.out, hxv.out, hyv.out, hzv.out] at Bj1
        have k1 : w1.cell? ⟨bj, 0, none⟩ = some (.iface 85 (.agg #[.int .i64 xv, .int .i64 yv, .int .i64 zv])) := Bj1.cell 0
        have l1 := Bj1.lt
        have hs1 : w.heap.size ≤ w1.heap.size := hb1.size
        have HG1 := Lib.hid (hG1.congr (fun q _ => (aft_keepO hrew.out q).symm) (fun q _ => (aft_keepV hrew.out q).symm))
        have HP1 := Lib.hid hP1
        have HM1 := Lib.hid hM1
        have HB1 := Lib.hid hb1
        clear hown1 hgrow hP1 hG1 hM1 hb1 Bj1 cj kj1 kj0 HP HG HM HBW HBJ HCELL HVE lj
        by_cases hz0' : zv = 0
        · subst hz0'
          obtain ⟨m, D, hm, hown, hD, h2⟩ := HM1.out
          have HOWN := Lib.hid hown
          have HH2 := Lib.hid h2
          clear hown h2
          go_wp2_with (at_mapUpdate; go_must (refine wpList_mapUpdate_own _ rfl _ _ _ 95 rfl 3 4 law3t Try.underlying95 _ w.heap.size m D rfl (HOWN.out.alloc _) (by unfold maxLen; omega) _ _ _ rfl rfl (key_nat j (by omega)) _ [] (plainElem_bool Try.underlying4 _) ?_))
          intro w2 hown2 hgrow2
          have hM2 : MapI w2 w.heap.size (j + 1) o y z := MapI.put hm hD HH2.out (by rw [hyv.out]; exact hown2) hu.out hzv.out
          have hP2 := (Pcs.alloc' HP1.out _).kept hgrow2 (.inr fun e => (HM1.out.ne_row HP1.out) e.symm)
          have hG2 := (HG1.out.alloc _).grown hgrow2 (HM1.out.alloc _).nocells
          have hb2 : Below base w w2 := (HB1.out.alloc (by omega) _).grown hgrow2 (by simp; omega) (fun k hk => by injection hk with hk; omega)
          have HR := Lib.hid (show AtJ base C n w.heap.size (some ⟨g, 0, none⟩) cap b o x y z w (j + 1) _ w2 from ⟨hP2, hM2, hG2, hb2, hns1.out⟩)
          clear hM2 hP2 hG2 hb2 hown2 hgrow2
          go_wp2_with fail
          go_roundg (n - (j + 1))
          case measure => omega
          case rel => exact ⟨j + 1, rfl, by omega, by go_num, HR.out⟩
        · have gz : (zv == 0) = false := by simp [hz0']
          have hsk := Lib.hid (show (o j == 23 && z j == 0) = false by rw [hzv.out, gz, Bool.and_false])
          clear hz0'
          go_wp2_with fail
          go_roundg (n - (j + 1))
          case measure => omega
          case rel => exact ⟨j + 1, rfl, by omega, by go_num, Pcs.alloc' HP1.out _, (HM1.out.alloc _).skip hsk.out, HG1.out.alloc _, HB1.out.alloc (by omega) _, hns1.out⟩
      · have g23 : (u == 23) = false := by simp [h23]
        have HAJ := Lib.hid (show AtJ base C n w.heap.size (some ⟨g, 0, none⟩) cap b o x y z w j _ wr from ⟨HP.out, HM.out, HG.out, HBW.out, HNS.out⟩)
        obtain ⟨A2, c2, hVe, hAq⟩ := HP.out.shape
        subst hVe
        by_cases h24 : u = 24
        · subst h24
          cases hs : stk o j with
          | nil =>
            have HR := Lib.hid (show OptT base C n (.slice (some ⟨g, 0, none⟩) n cap) b o x y z w (.returned (.tuple #[])) wr from ⟨rfl, j, ⟨hj, HNS.out, fun _ => ⟨hu.out, hs⟩⟩, HG.out, HBW.out⟩)
            clear HP HM HG HBW HNS HAJ hAq h23 HBJ
            simp only [List.length_nil]
            go_wp2_with fail
            try rw [Exit.noGoto_ret]
            go_end0
            exact HR.out
          | cons k t =>
            have hP' := HP.out
            rw [hs] at hP'
            simp only [List.length_cons] at hP'
            obtain ⟨q, hq0⟩ := hAq (by rw [hs]; simp)
            subst hq0
            obtain ⟨cur, _, hcap, _⟩ := owns_row hP'
            have hP2 := hP'.pop
            have hrew := rew_no (o := o) (n := n) (x := x) (z := z) (i := j) (by rw [hu.out]; decide)
            have HR := Lib.hid (show AtJ base C n w.heap.size (some ⟨g, 0, none⟩) cap b o x y z w (j + 1) (.slice (some ⟨q, 0, none⟩) t.length c2) wr from
              ⟨by rw [stk_pop hu.out, hs]; exact hP2, HM.out.skip (by rw [hu.out]; rfl), HG.out.congr (fun q _ => (aft_keepO hrew q).symm) (fun q _ => (aft_keepV hrew q).symm), HBW.out, fun q hq e => by
                by_cases hqj : q = j
                · subst hqj
                  have := e.2
                  rw [hs] at this
                  cases this
                · exact HNS.out q (by omega) e⟩)
            have hlen : t.length < 1000000 := by rw [hs] at hsl; simp at hsl; omega
            clear HP HM HG HBW HNS HAJ h23 HBJ hP' hP2 hrew hAq
            simp only [List.length_cons]
            go_wp2_with fail
            go_roundg (n - (j + 1))
            case measure => omega
            case rel => exact ⟨j + 1, rfl, by omega, by go_num, HR.out⟩
        · have g24 : (u == 24) = false := by simp [h24]
          by_cases h19 : u = 19
          · subst h19
            have keep : rew n o x z j = false → AtJ base C n w.heap.size (some ⟨g, 0, none⟩) cap b o x y z w (j + 1) _ wr := HAJ.out.keep (by rw [hu.out]; exact h23) (by rw [hu.out]; exact h24)
            have KEEP := Lib.hid keep
            clear keep h23 h24
            by_cases hzj : z j = 0
            · have hT : isT o z j = false := by unfold isT; rw [hu.out, hzj]; rfl
              rw [valT_no hT] at kj0
              obtain ⟨xv, hxv⟩ : ∃ xv, Hid (x j = xv) := ⟨_, Lib.hid rfl⟩
              rw [hxv.out] at kj0
              have hta := run_assert_int xv
              cases hs : stk o j with
              | nil =>
                have HR := Lib.hid (KEEP.out (rew_not fun k t e => by rw [hs] at e; cases e))
                clear HP HM HG HBW HNS HAJ HBJ hAq KEEP
                simp only [hs, List.length_nil] at HR ⊢
                go_wp2_with fail
                go_roundg (n - (j + 1))
                case measure => omega
                case rel => exact ⟨j + 1, rfl, by omega, by go_num, HR.out⟩
              | cons k t =>
                have hP' := HP.out
                rw [hs] at hP'
                simp only [List.length_cons] at hP'
                obtain ⟨q, hq0, hql, cq⟩ := hP'.top
                subst hq0
                obtain ⟨cur, _, hcap, _⟩ := owns_row hP'
                have hlen : t.length < 1000000 := by rw [hs] at hsl; simp at hsl; omega
                have hkm := stk_mem (o := o) j k (by rw [hs]; exact List.mem_cons_self)
                simp only [hs, List.length_cons] at KEEP HAJ ⊢
                have HS := Lib.hid hs
                have HKM := Lib.hid hkm
                have hkj : k < j := hkm.1
                clear HP HM HG HBW HNS HBJ hP' hAq hkm hs
                by_cases hxk : xv = k
                · subst hxk
                  have gk : ((k : Int) != (k : Int)) = false := by simp
                  obtain ⟨m, D, hm, hown, hD, h2⟩ := HAJ.out.2.1
                  have h2k := h2 k
                  have hhas : Maps.has D (.int .i64 (k : Int)) = (z k == 0) := by rw [h2k.1, HKM.out.2]; simp [hkj]
                  have HOWN := Lib.hid hown
                  clear hown h2
                  by_cases hzk : z k = 0
                  · have hh : Maps.has D (.int .i64 (k : Int)) = true := by rw [hhas, hzk]; rfl
                    have hat := h2k.2 hh (.lit (.bool false))
                    obtain ⟨cb, hcb⟩ : ∃ cb, Hid ((y k == 0) = cb) := ⟨_, Lib.hid rfl⟩
                    rw [hcb.out] at hat
                    have HH := Lib.hid hh
                    have HAT := Lib.hid hat
                    have HGV := Lib.hid HAJ.out.2.2.1
                    have HPC := Lib.hid HAJ.out.1
                    have hbb := HGV.out.blk hlt
                    rw [hbj.out] at hbb
                    have f1 := hbb.frozen 1
                    have f0 := hbb.frozen 0
                    have hqb : q ≠ bj := fun e => Pcs.ne_blk HPC.out hbb (by decide) (by rw [e]; rfl)
                    have hbq : bj ≠ q := fun e => hqb e.symm
                    have c5 := HGV.out.c5
                    have hCl := HGV.out.lt
                    have HZK := Lib.hid hzk
                    have HZJ := Lib.hid hzj
                    clear hh hat h2k hhas hD hzk hzj hT hbb HPC
                    go_wp2_with (at_lookup; go_must (refine wpList_lookup_own_ok_bool _ rfl _ _ 95 rfl 3 4 law3t Try.underlying95 Try.underlying4 (zero_bool _) w.heap.size m D rfl HOWN.out _ _ rfl (key_nat k (by omega)) true cb HH.out HAT.out ?_))
                    go_loopg [10] (n - (j + 1)) (fun gq pv w2 => ∃ p : Nat, gq = n - p ∧ j + 1 ≤ p ∧ pv = .int .i64 p ∧ w2 = wr ∧ tl n o x (n - p) p = tail_ n o x j)
                    case atStart => exact ⟨j + 1, rfl, by omega, by go_num, rfl, (tail_eq HF.out j).symm⟩
                    case round =>
                      obtain ⟨p, rfl, hjp, rfl, hw2, hI⟩ := hrel
                      subst hw2
                      by_cases hp : p < n
                      · have cp := HCELL.out p hp
                        have Bp := HGV.out.blk hp
                        rw [aft_hereO (show j ≤ p by omega), aft_hereV (show j ≤ p by omega)] at Bp
                        obtain ⟨bp, hbp⟩ : ∃ bp, Hid (b p = bp) := ⟨_, Lib.hid rfl⟩
                        obtain ⟨v, hv⟩ : ∃ v, Hid (o p = v) := ⟨_, Lib.hid rfl⟩
                        rw [hbp.out] at cp Bp
                        rw [hv.out] at Bp
                        have kp1 := Bp.cell 1
                        have kp0 := Bp.cell 0
                        have lp := Bp.lt
                        simp only [List.getElem?_toArray, List.getElem?_cons_succ, List.getElem?_cons_zero] at kp1 kp0
                        have p0 : (0 : Int) ≤ p := by omega
                        have p1 : (p : Int) < n := by omega
                        clear Bp
                        by_cases h15 : v = 15
                        · subst h15
                          have hT : isT o z p = false := by unfold isT; rw [hv.out]; rfl
                          rw [valT_no hT] at kp0
                          have hfw := HF.out p hp hv.out
                          have htj := tl_jump HF.out hp hv.out
                          obtain ⟨xp, hxp⟩ : ∃ xp, Hid (x p = xp) := ⟨_, Lib.hid rfl⟩
                          rw [hxp.out] at kp0 hfw htj
                          obtain ⟨r, rfl⟩ : ∃ r : Nat, xp = r := ⟨xp.toNat, by omega⟩
                          rw [Int.toNat_natCast] at htj
                          have HI := Lib.hid (htj.symm.trans hI)
                          have hta1 := run_assert1 (r : Int)
                          clear hI htj hT KEEP HAJ HGV
                          go_wp2_with fail
                          go_roundg (n - r)
                          case measure => omega
                          case rel => exact ⟨r, rfl, by omega, rfl, rfl, HI.out⟩
                        · have g15 : (v == 15) = false := by simp [h15]
                          have hte := tl_end hp (o := o) (x := x) (by rw [hv.out]; exact h15)
                          rw [hv.out, hI] at hte
                          by_cases hv24 : v = 24
                          · subst hv24
                            have hrw : rew n o x z j = true := rew_iff.2 ⟨k, t, HS.out, hu.out, HZJ.out, hxv.out, HZK.out, hte⟩
                            have HTU := HAJ.out.turn hlt hrw hxv.out
                            rw [hbj.out] at HTU
                            clear hI hte h15 hrw KEEP HAJ HGV
                            cases cb
                            · have HR := Lib.hid (HTU.2 (by have := hcb.out; simpa using this))
                              clear HTU
                              go_wp2_with fail
                              go_roundg (n - (j + 1))
                              case measure => omega
                              case rel => exact ⟨j + 1, rfl, by omega, by go_num, HR.out⟩
                            · have HR := Lib.hid (HTU.1 (by have := hcb.out; simpa using this))
                              clear HTU
                              go_wp2_with fail
                              go_roundg (n - (j + 1))
                              case measure => omega
                              case rel => exact ⟨j + 1, rfl, by omega, by go_num, HR.out⟩
                          · have gv24 : (v == 24) = false := by simp [hv24]
                            rw [gv24] at hte
                            have HR := Lib.hid (KEEP.out (rew_not fun _ _ _ _ _ _ e => by rw [hte] at e; cases e))
                            clear KEEP HAJ HGV hI hte hv24 h15
                            go_wp2_with fail
                            go_roundg (n - (j + 1))
                            case measure => omega
                            case rel => exact ⟨j + 1, rfl, by omega, by go_num, HR.out⟩
                      · have ht := tl_out (o := o) (x := x) (show n ≤ p by omega)
                        rw [hI] at ht
                        have HR := Lib.hid (KEEP.out (rew_not fun _ _ _ _ _ _ e => by rw [ht] at e; cases e))
                        clear KEEP HAJ HGV hI ht
                        go_wp2_with fail
                        go_roundg (n - (j + 1))
                        case measure => omega
                        case rel => exact ⟨j + 1, rfl, by omega, by go_num, HR.out⟩
                  · have hh : Maps.has D (.int .i64 (k : Int)) = false := by rw [hhas]; simp [hzk]
                    have hat := atKey_of_not_has hh (.lit (.bool false))
                    have HH := Lib.hid hh
                    have HAT := Lib.hid hat
                    have HR := Lib.hid (KEEP.out (rew_not fun k' t' e _ _ e3 _ => by
                      rw [HS.out] at e
                      injection e with e _
                      subst e
                      exact hzk e3))
                    clear hh hat h2k hhas hD hzk KEEP HAJ
                    go_wp2_with (at_lookup; go_must (refine wpList_lookup_own_ok_bool _ rfl _ _ 95 rfl 3 4 law3t Try.underlying95 Try.underlying4 (zero_bool _) w.heap.size m D rfl HOWN.out _ _ rfl (key_nat k (by omega)) false false HH.out HAT.out ?_))
                    go_roundg (n - (j + 1))
                    case measure => omega
                    case rel => exact ⟨j + 1, rfl, by omega, by go_num, HR.out⟩
                · have gk : ((k : Int) != xv) = true := by simp; exact fun e => hxk e.symm
                  have HR := Lib.hid (KEEP.out (rew_not fun k' t' e _ e2 _ _ => by
                    rw [HS.out] at e
                    injection e with e _
                    subst e
                    rw [hxv.out] at e2
                    exact hxk e2))
                  clear KEEP HAJ hxk
                  go_wp2_with fail
                  go_roundg (n - (j + 1))
                  case measure => omega
                  case rel => exact ⟨j + 1, rfl, by omega, by go_num, HR.out⟩
            · have hT : isT o z j = true := by
                have : (z j != 0) = true := by simp [hzj]
                unfold isT
                rw [hu.out, this]
                rfl
              rw [valT_yes hT] at kj0
              simp only [tri] at kj0
              have hta := run_assert_ti (x j) (y j) (z j)
              have HR := Lib.hid (KEEP.out (rew_not fun k t _ e => absurd e hzj))
              clear HP HM HG HBW HNS HAJ HBJ hAq KEEP hzj hT
              go_wp2_with fail
              go_roundg (n - (j + 1))
              case measure => omega
              case rel => exact ⟨j + 1, rfl, by omega, by go_num, HR.out⟩
          · have g19 : (u == 19) = false := by simp [h19]
            have HR := Lib.hid (HAJ.out.keep (by rw [hu.out]; exact h23) (by rw [hu.out]; exact h24) (rew_no (by rw [hu.out]; exact h19)))
            clear HP HM HG HBW HNS HAJ h23 HBJ h24 h19 hAq
            go_wp2_with fail
            go_roundg (n - (j + 1))
            case measure => omega
            case rel => exact ⟨j + 1, rfl, by omega, by go_num, HR.out⟩
    · have hjn : j = n := by omega
      subst hjn
      have HR := Lib.hid (show OptT base C j (.slice A0 j cap) b o x y z w (.returned (.tuple #[])) wr from ⟨rfl, j, ⟨Nat.le_refl _, hns, fun e => absurd e (by omega)⟩, hG, hbw⟩)
      clear hP hM hG hbw hns
      go_wp2_with fail
      go_end0
      exact HR.out
end Go.Proofs.Ytaeficfjocinaaa
