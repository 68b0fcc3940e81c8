/- n001_64: what appendEscB2 appends, what modelQuoteB2 answers. -/
import Derived.Test.YtbjjcampiknnpaaDoorMq
import Derived.Deep.LoopGhost
import Derived.Lib.BufferRead
import Derived.Laws.IdiomStrings
import Derived.Laws.MakeOwn
namespace Go.Proofs.YtbjjcampiknnpaaDoor
open Go.RowKit
set_option maxRecDepth 100000
set_option linter.unusedVariables false
set_option linter.unusedSimpArgs false
theorem infoU8 : (Tryd.prog.info? 5).map (fun i => (i.zero, i.size, i.bytes)) = some (some (.int .u8 0), 1, 1) := by kernel_rfl
theorem newsA (w : World) (cs : Array Value) (t : TypeId) (g : Nat) (hg : g = w.heap.size) : ∀ j u, cs.toList[j]? = some u → (w.alloc (.cells cs t)).cell? ((⟨g, 0, none⟩ : Addr).add j) = some u := by
  subst hg
  intro j u hj
  have hadd : (⟨w.heap.size, 0, none⟩ : Addr).add j = ⟨w.heap.size, j, none⟩ := by unfold Addr.add; split <;> simp_all
  rw [hadd]
  exact ((Blk.new w t cs).cell j).trans (by simpa using hj)
theorem one_u8 (l : List Value) (h : ∀ u ∈ l, ∃ x, u = .int .u8 x) : ∀ u ∈ l, u.oneCell' = true := by
  intro u hu
  obtain ⟨x, rfl⟩ := h u hu
  rfl
/-- a slice of bytes of the call's own that holds the text l -/
def Txw (B : Nat) (v : Value) (l : List UInt8) (w : World) : Prop := w.ownsRowF B 5 1 v l.length (Lib.byteCells l)
theorem Txw.next {B : Nat} {v' : Value} {l m : List UInt8} {w' : World} {n : Nat} {cs : List Value} (hn : n = m.length) (hc : cs = Lib.byteCells m) (h : w'.ownsRowF B 5 1 v' (l.length + n) (Lib.byteCells l ++ cs)) : Txw B v' (l ++ m) w' := by
  subst hn hc
  unfold Txw
  rw [Lib.byteCells_append, List.length_append]
  exact h
theorem Txw.of_eq {B : Nat} {v : Value} {l l' : List UInt8} {w : World} (h : Txw B v l w) (e : l' = l) : Txw B v l' w := by rw [e]; exact h
theorem Txw.str {B : Nat} {v : Value} {l : List UInt8} {w : World} (h : Txw B v l w) : (convert 46 9 v).run Tryd.prog w = .ok (.string ⟨l.toArray⟩) w := by
  have h' := h
  rcases h.2 with ⟨hv, hn⟩ | ⟨g, cap, cur, fz, hv, hB, hg, rest⟩
  · have hl : l = [] := List.eq_nil_of_length_eq_zero hn
    subst hv hl
    exact Lib.run_convert_nil_bytes w _ _ _ _ Tryd.underlying46 Tryd.underlying5 Tryd.underlying9
  · subst hv
    refine run_convert_bytes_back w _ _ _ ⟨g, 0, none⟩ cap l Tryd.underlying46 Tryd.underlying5 Tryd.underlying9 fun j hj => ?_
    exact World.ownsRowF.cells h' (g := g) rfl j _ (by unfold Lib.byteCells; rw [List.getElem?_map, List.getElem?_eq_getElem hj]; rfl)
def escD (b : Nat) : List UInt8 := (escB b).getD [UInt8.ofNat b]
theorem and15' : ∀ x : Fin 256, bits .and .u8 ((x.val : Nat) : Int) 15 = ((x.val % 16 : Nat) : Int) := by decide
def Esc (B : Nat) (l : List UInt8) (w : World) (e : Ending) (w' : World) : Prop := ∃ v', e = .returned v' ∧ Txw B v' l w' ∧ Below B w w'
set_option maxHeartbeats 8000000 in
theorem appendEsc_any (B b : Nat) (v : Value) (l : List UInt8) (w : World) (h : Txw B v l w) (B_le : B ≤ w.heap.size) (hb : b < 256) (hl : l.length ≤ 100000000) :
    Calls Tryd.prog 30 #[v, .int .u8 b] w (Esc B (l ++ escD b) w) := by
  obtain ⟨i0, hi, hz0, hz1, hz2⟩ := info_parts infoU8
  have HI := Lib.hid hi
  have HZ0 := Lib.hid hz0
  have HZ1 := Lib.hid hz1
  have HZ2 := Lib.hid hz2
  have H := Lib.hid h
  have hgrow : ∀ (o : Obj) (w2 : World), (w.alloc o).grownBy w2 v.ownBlock → Below B w w2 := fun o w2 hg => ((Below.refl B w).alloc B_le o).grown hg (by simp; omega) (fun k hk => (World.ownsRowF.lt h k hk).1)
  have HG := Lib.hid hgrow
  clear hi hz0 hz1 hz2 h hgrow
  by_cases g34 : b = 34
  · subst g34
    have he : Hid (escD 34 = [92, 34]) := rfl
    go_enter Tryd.func30, Tryd.ntmps30
    go_wp2_with (at_builtin; refine wpList_append_ownF _ rfl _ _ 46 rfl B 5 i0 (.int .u8 0) 1 1 Tryd.underlying46 HI.out HZ0.out HZ1.out HZ2.out rfl (by decide) _ _ _ rfl (World.ownsRowF.alloc H.out _) _ 2 2 [.int .u8 92, .int .u8 34] rfl rfl (newsA _ _ _ _ (by simp)) (one_u8 _ (by simp)) (by unfold maxLen; omega) (by omega) (by simp; have := B_le; omega) ?_; intro v2 w2 hown hgr _)
    have ht := Lib.hid (Txw.next (m := [92, 34]) rfl rfl hown)
    have hbl := Lib.hid (HG.out _ _ hgr)
    clear hown hgr
    go_wp2_with fail
    go_ret
    exact ⟨v2, rfl, ht.out.of_eq (by rw [he.out]), hbl.out⟩
  · skip
    by_cases g92 : b = 92
    · subst g92
      have he : Hid (escD 92 = [92, 92]) := rfl
      go_enter Tryd.func30, Tryd.ntmps30
      go_wp2_with (at_builtin; refine wpList_append_ownF _ rfl _ _ 46 rfl B 5 i0 (.int .u8 0) 1 1 Tryd.underlying46 HI.out HZ0.out HZ1.out HZ2.out rfl (by decide) _ _ _ rfl (World.ownsRowF.alloc H.out _) _ 2 2 [.int .u8 92, .int .u8 92] rfl rfl (newsA _ _ _ _ (by simp)) (one_u8 _ (by simp)) (by unfold maxLen; omega) (by omega) (by simp; have := B_le; omega) ?_; intro v2 w2 hown hgr _)
      have ht := Lib.hid (Txw.next (m := [92, 92]) rfl rfl hown)
      have hbl := Lib.hid (HG.out _ _ hgr)
      clear hown hgr
      go_wp2_with fail
      go_ret
      exact ⟨v2, rfl, ht.out.of_eq (by rw [he.out]), hbl.out⟩
    · skip
      by_cases g8 : b = 8
      · subst g8
        have he : Hid (escD 8 = [92, 98]) := rfl
        go_enter Tryd.func30, Tryd.ntmps30
        go_wp2_with (at_builtin; refine wpList_append_ownF _ rfl _ _ 46 rfl B 5 i0 (.int .u8 0) 1 1 Tryd.underlying46 HI.out HZ0.out HZ1.out HZ2.out rfl (by decide) _ _ _ rfl (World.ownsRowF.alloc H.out _) _ 2 2 [.int .u8 92, .int .u8 98] rfl rfl (newsA _ _ _ _ (by simp)) (one_u8 _ (by simp)) (by unfold maxLen; omega) (by omega) (by simp; have := B_le; omega) ?_; intro v2 w2 hown hgr _)
        have ht := Lib.hid (Txw.next (m := [92, 98]) rfl rfl hown)
        have hbl := Lib.hid (HG.out _ _ hgr)
        clear hown hgr
        go_wp2_with fail
        go_ret
        exact ⟨v2, rfl, ht.out.of_eq (by rw [he.out]), hbl.out⟩
      · skip
        by_cases g12 : b = 12
        · subst g12
          have he : Hid (escD 12 = [92, 102]) := rfl
          go_enter Tryd.func30, Tryd.ntmps30
          go_wp2_with (at_builtin; refine wpList_append_ownF _ rfl _ _ 46 rfl B 5 i0 (.int .u8 0) 1 1 Tryd.underlying46 HI.out HZ0.out HZ1.out HZ2.out rfl (by decide) _ _ _ rfl (World.ownsRowF.alloc H.out _) _ 2 2 [.int .u8 92, .int .u8 102] rfl rfl (newsA _ _ _ _ (by simp)) (one_u8 _ (by simp)) (by unfold maxLen; omega) (by omega) (by simp; have := B_le; omega) ?_; intro v2 w2 hown hgr _)
          have ht := Lib.hid (Txw.next (m := [92, 102]) rfl rfl hown)
          have hbl := Lib.hid (HG.out _ _ hgr)
          clear hown hgr
          go_wp2_with fail
          go_ret
          exact ⟨v2, rfl, ht.out.of_eq (by rw [he.out]), hbl.out⟩
        · skip
          by_cases g10 : b = 10
          · subst g10
            have he : Hid (escD 10 = [92, 110]) := rfl
            go_enter Tryd.func30, Tryd.ntmps30
            go_wp2_with (at_builtin; refine wpList_append_ownF _ rfl _ _ 46 rfl B 5 i0 (.int .u8 0) 1 1 Tryd.underlying46 HI.out HZ0.out HZ1.out HZ2.out rfl (by decide) _ _ _ rfl (World.ownsRowF.alloc H.out _) _ 2 2 [.int .u8 92, .int .u8 110] rfl rfl (newsA _ _ _ _ (by simp)) (one_u8 _ (by simp)) (by unfold maxLen; omega) (by omega) (by simp; have := B_le; omega) ?_; intro v2 w2 hown hgr _)
            have ht := Lib.hid (Txw.next (m := [92, 110]) rfl rfl hown)
            have hbl := Lib.hid (HG.out _ _ hgr)
            clear hown hgr
            go_wp2_with fail
            go_ret
            exact ⟨v2, rfl, ht.out.of_eq (by rw [he.out]), hbl.out⟩
          · skip
            by_cases g13 : b = 13
            · subst g13
              have he : Hid (escD 13 = [92, 114]) := rfl
              go_enter Tryd.func30, Tryd.ntmps30
              go_wp2_with (at_builtin; refine wpList_append_ownF _ rfl _ _ 46 rfl B 5 i0 (.int .u8 0) 1 1 Tryd.underlying46 HI.out HZ0.out HZ1.out HZ2.out rfl (by decide) _ _ _ rfl (World.ownsRowF.alloc H.out _) _ 2 2 [.int .u8 92, .int .u8 114] rfl rfl (newsA _ _ _ _ (by simp)) (one_u8 _ (by simp)) (by unfold maxLen; omega) (by omega) (by simp; have := B_le; omega) ?_; intro v2 w2 hown hgr _)
              have ht := Lib.hid (Txw.next (m := [92, 114]) rfl rfl hown)
              have hbl := Lib.hid (HG.out _ _ hgr)
              clear hown hgr
              go_wp2_with fail
              go_ret
              exact ⟨v2, rfl, ht.out.of_eq (by rw [he.out]), hbl.out⟩
            · skip
              by_cases g9 : b = 9
              · subst g9
                have he : Hid (escD 9 = [92, 116]) := rfl
                go_enter Tryd.func30, Tryd.ntmps30
                go_wp2_with (at_builtin; refine wpList_append_ownF _ rfl _ _ 46 rfl B 5 i0 (.int .u8 0) 1 1 Tryd.underlying46 HI.out HZ0.out HZ1.out HZ2.out rfl (by decide) _ _ _ rfl (World.ownsRowF.alloc H.out _) _ 2 2 [.int .u8 92, .int .u8 116] rfl rfl (newsA _ _ _ _ (by simp)) (one_u8 _ (by simp)) (by unfold maxLen; omega) (by omega) (by simp; have := B_le; omega) ?_; intro v2 w2 hown hgr _)
                have ht := Lib.hid (Txw.next (m := [92, 116]) rfl rfl hown)
                have hbl := Lib.hid (HG.out _ _ hgr)
                clear hown hgr
                go_wp2_with fail
                go_ret
                exact ⟨v2, rfl, ht.out.of_eq (by rw [he.out]), hbl.out⟩
              · skip
                have n34 : ((b : Int) == 34) = false := by rw [beq_eq_false_iff_ne]; omega
                have n92 : ((b : Int) == 92) = false := by rw [beq_eq_false_iff_ne]; omega
                have n8 : ((b : Int) == 8) = false := by rw [beq_eq_false_iff_ne]; omega
                have n12 : ((b : Int) == 12) = false := by rw [beq_eq_false_iff_ne]; omega
                have n10 : ((b : Int) == 10) = false := by rw [beq_eq_false_iff_ne]; omega
                have n13 : ((b : Int) == 13) = false := by rw [beq_eq_false_iff_ne]; omega
                have n9 : ((b : Int) == 9) = false := by rw [beq_eq_false_iff_ne]; omega
                by_cases hctl : b < 32 ∨ b = 127
                · obtain ⟨q, hqq⟩ : ∃ q : Nat, Hid (q = b / 16) := ⟨_, Lib.hid rfl⟩
                  obtain ⟨r, hrr⟩ : ∃ r : Nat, Hid (r = b % 16) := ⟨_, Lib.hid rfl⟩
                  have hdv : ((b : Int) / 16) = (q : Int) := by rw [hqq.out]; omega
                  have hnd : bits .and .u8 (b : Int) 15 = (r : Int) := by rw [hrr.out]; exact and15' ⟨b, hb⟩
                  have q16 : q < 16 := by rw [hqq.out]; omega
                  have r16 : r < 16 := by rw [hrr.out]; omega
                  have he : Hid (escD b = [92, 117, 48, 48, hxd q, hxd r]) := by
                    unfold escD escB
                    rw [if_neg g34, if_neg g92, if_neg g8, if_neg g12, if_neg g10, if_neg g13, if_neg g9, if_pos hctl, hqq.out, hrr.out]
                    exact rfl
                  have x1 := Lib.hid (hexDigit_any q w q16)
                  have x2 := Lib.hid (hexDigit_any r w r16)
                  rcases hctl with hc | hc
                  · have t1 : decide ((b : Int) < 32) = true := decide_eq_true (by omega)
                    clear hc
                    clear g34 g92 g8 g12 g10 g13 g9
                    go_enter Tryd.func30, Tryd.ntmps30
                    go_wp2_with fail
                    with_reducible refine (x1.out).mono ?_
                    rintro e1 w1 ⟨rfl, rfl⟩
                    go_wp2_with fail
                    with_reducible refine (x2.out).mono ?_
                    rintro e1 w1 ⟨rfl, rfl⟩
                    go_wp2_with (at_builtin; refine wpList_append_ownF _ rfl _ _ 46 rfl B 5 i0 (.int .u8 0) 1 1 Tryd.underlying46 HI.out HZ0.out HZ1.out HZ2.out rfl (by decide) _ _ _ rfl (World.ownsRowF.alloc H.out _) _ 6 6 [.int .u8 92, .int .u8 117, .int .u8 48, .int .u8 48, .int .u8 ((hxd q).toNat : Int), .int .u8 ((hxd r).toNat : Int)] rfl rfl (newsA _ _ _ _ (by simp)) (one_u8 _ (by simp)) (by unfold maxLen; omega) (by omega) (by simp; have := B_le; omega) ?_; intro v2 w2 hown hgr _)
                    have ht := Lib.hid (Txw.next (m := [92, 117, 48, 48, hxd q, hxd r]) rfl rfl hown)
                    have hbl := Lib.hid (HG.out _ _ hgr)
                    clear hown hgr
                    go_wp2_with fail
                    go_ret
                    exact ⟨v2, rfl, ht.out.of_eq (by rw [he.out]), hbl.out⟩
                  · have t1 : decide ((b : Int) < 32) = false := decide_eq_false (by omega)
                    have t2 : ((b : Int) == 127) = true := by rw [beq_iff_eq]; omega
                    clear hc
                    clear g34 g92 g8 g12 g10 g13 g9
                    go_enter Tryd.func30, Tryd.ntmps30
                    go_wp2_with fail
                    with_reducible refine (x1.out).mono ?_
                    rintro e1 w1 ⟨rfl, rfl⟩
                    go_wp2_with fail
                    with_reducible refine (x2.out).mono ?_
                    rintro e1 w1 ⟨rfl, rfl⟩
                    go_wp2_with (at_builtin; refine wpList_append_ownF _ rfl _ _ 46 rfl B 5 i0 (.int .u8 0) 1 1 Tryd.underlying46 HI.out HZ0.out HZ1.out HZ2.out rfl (by decide) _ _ _ rfl (World.ownsRowF.alloc H.out _) _ 6 6 [.int .u8 92, .int .u8 117, .int .u8 48, .int .u8 48, .int .u8 ((hxd q).toNat : Int), .int .u8 ((hxd r).toNat : Int)] rfl rfl (newsA _ _ _ _ (by simp)) (one_u8 _ (by simp)) (by unfold maxLen; omega) (by omega) (by simp; have := B_le; omega) ?_; intro v2 w2 hown hgr _)
                    have ht := Lib.hid (Txw.next (m := [92, 117, 48, 48, hxd q, hxd r]) rfl rfl hown)
                    have hbl := Lib.hid (HG.out _ _ hgr)
                    clear hown hgr
                    go_wp2_with fail
                    go_ret
                    exact ⟨v2, rfl, ht.out.of_eq (by rw [he.out]), hbl.out⟩
                · have he : Hid (escD b = [UInt8.ofNat b]) := by
                    unfold escD escB
                    rw [if_neg g34, if_neg g92, if_neg g8, if_neg g12, if_neg g10, if_neg g13, if_neg g9, if_neg hctl]
                    exact rfl
                  have t1 : decide ((b : Int) < 32) = false := decide_eq_false (by omega)
                  have t2 : ((b : Int) == 127) = false := by rw [beq_eq_false_iff_ne]; omega
                  have hnb := Lib.hid (show ([Value.int .u8 (b : Int)] : List Value) = Lib.byteCells [UInt8.ofNat b] from by
                    simp [Lib.byteCells]
                    omega)
                  clear g34 g92 g8 g12 g10 g13 g9 hctl
                  go_enter Tryd.func30, Tryd.ntmps30
                  go_wp2_with (at_builtin; refine wpList_append_ownF _ rfl _ _ 46 rfl B 5 i0 (.int .u8 0) 1 1 Tryd.underlying46 HI.out HZ0.out HZ1.out HZ2.out rfl (by decide) _ _ _ rfl (World.ownsRowF.alloc H.out _) _ 1 1 [.int .u8 b] rfl rfl (newsA _ _ _ _ (by simp)) (one_u8 _ (by simp)) (by unfold maxLen; omega) (by omega) (by simp; have := B_le; omega) ?_; intro v2 w2 hown hgr _)
                  have ht := Lib.hid (Txw.next (m := [UInt8.ofNat b]) rfl hnb.out hown)
                  have hbl := Lib.hid (HG.out _ _ hgr)
                  clear hown hgr
                  go_wp2_with fail
                  go_ret
                  exact ⟨v2, rfl, ht.out.of_eq (by rw [he.out]), hbl.out⟩
end Go.Proofs.YtbjjcampiknnpaaDoor
