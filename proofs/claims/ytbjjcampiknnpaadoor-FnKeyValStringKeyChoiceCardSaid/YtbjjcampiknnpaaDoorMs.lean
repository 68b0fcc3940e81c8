/- n001_64: what modelQuoteB2 answers. -/
import Derived.Test.YtbjjcampiknnpaaDoorMr
namespace Go.Proofs.YtbjjcampiknnpaaDoor
open Go.RowKit
set_option maxRecDepth 100000
set_option linter.unusedVariables false
set_option linter.unusedSimpArgs false
theorem run_make_rowN {P : Program} (t e : TypeId) (i : TypeInfo) (z : Value) (ht : P.underlying t = some (.slice e)) (hi : P.info? e = some i) (hz : i.zero = some z)
    (kl kc : IntKind) (n c : Nat) (hnc : n ≤ c) (hbytes : i.bytes * c ≤ 281474976710656) (h63 : c ≤ 9223372036854775807) (w : World) :
    (Instr.makeSlice t (.int kl (n : Int)) (.int kc (c : Int))).run P w = .ok (.slice (some ⟨w.heap.size, 0, none⟩) n c) (w.alloc (.cells (madeCells z.cells (c * i.size)) e)) := by
  have hb : (i.bytes : Int) * (c : Int) ≤ 281474976710656 := by
    have h : ((i.bytes * c : Nat) : Int) ≤ 281474976710656 := by omega
    rwa [Int.natCast_mul] at h
  have hr := run_make (P := P) w t e i z ht hi hz kl kc n c (by omega) (by omega) hb (by omega)
  simp only [Int.toNat_natCast] at hr
  exact hr
/-- the model's state -/
def MS (L : List UInt8) (w0 : World) (j : Nat) (v : Value) (D : List UInt8) (w : World) : Prop := Txw w0.heap.size v ([34] ++ D) w ∧ Below w0.heap.size w0 w ∧ D ++ enc (L.drop j) = enc L
theorem MS.len {L : List UInt8} {w0 w : World} {j : Nat} {v : Value} {D : List UInt8} (h : MS L w0 j v D w) : D.length ≤ 6 * L.length := by
  have h1 := congrArg List.length h.2.2
  have h2 := enc_len L.length L (Nat.le_refl _)
  simp only [List.length_append] at h1
  omega
theorem MS.tx {L : List UInt8} {w0 w : World} {j : Nat} {v : Value} {D : List UInt8} (h : MS L w0 j v D w) : Txw w0.heap.size v ([34] ++ D) w := h.1
theorem MS.bel {L : List UInt8} {w0 w : World} {j : Nat} {v : Value} {D : List UInt8} (h : MS L w0 j v D w) : Below w0.heap.size w0 w := h.2.1
theorem MS.eqn {L : List UInt8} {w0 w : World} {j : Nat} {v : Value} {D : List UInt8} (h : MS L w0 j v D w) : D ++ enc (L.drop j) = enc L := h.2.2
theorem MS.next {L m : List UInt8} {w0 w w' : World} {j k : Nat} {v v' : Value} {D : List UInt8} (h : MS L w0 j v D w) (hj : j < L.length) (hk : (stepL (L.drop j)).1 = k) (hm : (stepL (L.drop j)).2.getD ((L.drop j).take k) = m) (h1 : Txw w0.heap.size v' ([34] ++ D ++ m) w') (h2 : Below w0.heap.size w0 w') : MS L w0 (j + k) v' (D ++ m) w' := by
  have hne : L.drop j ≠ [] := by intro e; have := congrArg List.length e; rw [List.length_drop] at this; simp at this; omega
  refine ⟨h1.of_eq (by simp), h2, ?_⟩
  rw [← h.2.2, enc_step _ hne, hk, hm, List.drop_drop]
  simp only [List.append_assoc]
theorem step_lo {L : List UInt8} {j x : Nat} (hb : bt (L.drop j) 0 = x) (hx : x < 128) (hj : j < L.length) : (stepL (L.drop j)).1 = 1 ∧ (stepL (L.drop j)).2.getD ((L.drop j).take 1) = escD x := by
  have hs : stepL (L.drop j) = (1, escB x) := by unfold stepL; rw [hb, if_pos hx]
  rw [hs]
  refine ⟨rfl, ?_⟩
  unfold escD
  have ht : (L.drop j).take 1 = [UInt8.ofNat x] := by
    have hl : 0 < (L.drop j).length := by rw [List.length_drop]; omega
    cases hd : L.drop j with
    | nil => rw [hd] at hl; simp at hl
    | cons a r =>
      rw [hd] at hb
      have ha : a.toNat = x := hb
      simp only [List.take_succ_cons, List.take_zero, ← ha]
      rw [UInt8.ofNat_toNat]
  show (escB x).getD _ = _
  rw [ht]
theorem step_bad {L : List UInt8} {j x : Nat} (hb : bt (L.drop j) 0 = x) (hx : ¬ x < 128) (hs : seqL (L.drop j) = 0) : (stepL (L.drop j)).1 = 1 ∧ (stepL (L.drop j)).2.getD ((L.drop j).take 1) = bad6 := by
  have h : stepL (L.drop j) = (1, some bad6) := by unfold stepL; rw [hb, if_neg hx, if_pos hs]
  rw [h]
  exact ⟨rfl, rfl⟩
theorem step_seq {L : List UInt8} {j x k : Nat} (hb : bt (L.drop j) 0 = x) (hx : ¬ x < 128) (hs : seqL (L.drop j) = k) (hk : k ≠ 0) : (stepL (L.drop j)).1 = k ∧ (stepL (L.drop j)).2.getD ((L.drop j).take k) = (L.drop j).take k := by
  have h : stepL (L.drop j) = (k, none) := by unfold stepL; rw [hb, if_neg hx, hs, if_neg hk]
  rw [h]
  exact ⟨rfl, rfl⟩
theorem extract_take (s : ByteArray) (j k : Nat) : (s.extract j (j + k)).data.toList = (s.data.toList.drop j).take k := by
  rw [Lib.extract_data, show j + k - j = k by omega]
set_option maxHeartbeats 8000000 in
theorem model_any (s : ByteArray) (w : World) (hs : s.size ≤ 1048576) :
    Calls Tryd.prog 12 #[.string s] w fun e w' => e = .returned (.string ⟨([34] ++ enc s.data.toList ++ [34]).toArray⟩) ∧ Below w.heap.size w w' := by
  obtain ⟨i0, hi, hz0, hz1, hz2⟩ := info_parts infoU8
  have HI := Lib.hid hi
  have HZ0 := Lib.hid hz0
  have HZ1 := Lib.hid hz1
  have HZ2 := Lib.hid hz2
  obtain ⟨V0, W0, hmk, h0, hb0⟩ : ∃ V0 W0, (Instr.makeSlice 46 (.int .i64 0) (.int .i64 ((s.size : Int) + 2))).run Tryd.prog w = .ok V0 W0 ∧ Txw w.heap.size V0 [] W0 ∧ Below w.heap.size w W0 := by
    have h := run_make_rowN (P := Tryd.prog) 46 5 i0 _ Tryd.underlying46 hi hz0 .i64 .i64 0 (s.size + 2) (Nat.zero_le _) (by rw [hz2]; omega) (by omega) w
    rw [hz1, Nat.mul_one] at h
    exact ⟨_, _, h, ⟨rfl, .inr ⟨w.heap.size, s.size + 2, _, (0, 0), rfl, Nat.le_refl _, Blk.new _ _ _, Nat.le_refl _, Nat.zero_le _, by unfold maxLen; omega, by rw [size_madeCells, Nat.mul_one], rfl⟩⟩, (Below.refl _ _).alloc (Nat.le_refl _) _⟩
  have H0 := Lib.hid h0
  have HB0 := Lib.hid hb0
  clear hi hz0 hz1 hz2 h0 hb0
  go_enter Tryd.func12, Tryd.ntmps12
  go_wp2_with (at_builtin; refine wpList_append_ownF _ rfl _ _ 46 rfl w.heap.size 5 i0 (.int .u8 0) 1 1 Tryd.underlying46 HI.out HZ0.out HZ1.out HZ2.out rfl (by decide) _ _ _ rfl (World.ownsRowF.alloc H0.out _) _ 1 1 [.int .u8 34] rfl rfl (newsA _ _ _ _ (by simp)) (one_u8 _ (by simp)) (by unfold maxLen; (show 0 + 1 ≤ _; omega)) (by (show 0 + 1 ≤ _; omega)) (by simp; have := HB0.out.size; omega) ?_; intro v2 w2 hown hgr _)
  have HM0 := Lib.hid (show MS s.data.toList w 0 v2 [] w2 from ⟨Txw.next (l := []) (m := [34]) rfl rfl hown, (HB0.out.alloc HB0.out.size _).grown hgr (by simp; have := HB0.out.size; omega) (fun k hk => (World.ownsRowF.lt H0.out k hk).1), rfl⟩)
  clear hown hgr hmk H0 HB0
  go_wp2_with fail
  go_loopw [3, 4] (fun ov iv wr => ∃ (j : Nat) (D : List UInt8), iv = .int .i64 j ∧ j ≤ s.size ∧ Hid (MS s.data.toList w j ov D wr)) (fun _ iv _ => s.size - (intOf iv).toNat)
  case atStart => exact ⟨0, [], rfl, Nat.zero_le _, HM0⟩
  case round =>
    obtain ⟨j, D, rfl, hj, HM⟩ := hrel
    clear HM0
    have hlen := HM.out.len
    rw [size_list'] at hlen
    have hwl := HM.out.bel.size
    by_cases hlt : j < s.size
    · have hbt := bt_at s j 0 (by omega)
      obtain ⟨x, hx⟩ : ∃ x : Nat, Hid (s[j].toNat = x) := ⟨_, Lib.hid rfl⟩
      have hcast : Hid (((s[j].toNat : Nat) : Int) = (x : Int)) := by rw [hx.out]; exact rfl
      have hx8 : x < 256 := by rw [← hx.out]; exact s[j].toNat_lt
      have HBT : Hid (bt (s.data.toList.drop j) 0 = x) := by rw [← hx.out]; exact hbt
      have HLJ : Hid (j < s.data.toList.length) := by rw [size_list']; exact hlt
      have i0' : (0 : Int) ≤ (j : Int) := by omega
      have i1 : (j : Int) < (s.size : Int) := by omega
      clear hbt hx
      have hxe := hcast.out
      by_cases hlow : x < 128
      · obtain ⟨t1, t2⟩ := step_lo HBT.out hlow HLJ.out
        have T1 := Lib.hid t1
        have T2 := Lib.hid t2
        have he := Lib.hid fun v (hv : Txw w.heap.size v ([34] ++ D) wr) => appendEsc_any w.heap.size x v ([34] ++ D) wr hv hwl hx8 (by simp only [List.length_append, List.length_cons, List.length_nil]; omega)
        clear t1 t2
        go_wp2_with fail
        with_reducible refine (he.out _ HM.out.tx).mono ?_
        rintro e3 w3 ⟨v3, rfl, ht3, hb3⟩
        have HN := Lib.hid (HM.out.next HLJ.out T1.out T2.out ht3 (HM.out.bel.trans hb3))
        clear ht3 hb3 he
        go_wp2_with fail
        go_roundw
        case rel => exact ⟨j + 1, _, by go_num, by omega, HN⟩
        case measure => simp [intOf]; omega
      · have hv := Lib.hid (validSeq_any s j wr hlt hs)
        obtain ⟨k, hk⟩ : ∃ k : Nat, Hid (seqL (s.data.toList.drop j) = k) := ⟨_, Lib.hid rfl⟩
        rw [hk.out] at hv
        have hc4 := seqL_cases (s.data.toList.drop j)
        rw [hk.out, List.length_drop, size_list'] at hc4
        by_cases hk0 : k = 0
        · subst hk0
          obtain ⟨t1, t2⟩ := step_bad HBT.out hlow hk.out
          have T1 := Lib.hid t1
          have T2 := Lib.hid t2
          clear t1 t2 hc4
          go_wp2_with fail
          with_reducible refine (hv.out).mono ?_
          rintro e3 w3 ⟨rfl, rfl⟩
          go_wp2_with (at_builtin; refine wpList_append_ownF _ rfl _ _ 46 rfl w.heap.size 5 i0 (.int .u8 0) 1 1 Tryd.underlying46 HI.out HZ0.out HZ1.out HZ2.out rfl (by decide) _ _ _ rfl (World.ownsRowF.alloc HM.out.tx _) _ 6 6 [.int .u8 92, .int .u8 117, .int .u8 102, .int .u8 102, .int .u8 102, .int .u8 100] rfl rfl (newsA _ _ _ _ (by simp)) (one_u8 _ (by simp)) (by unfold maxLen; (simp only [List.length_append, List.length_cons, List.length_nil]; omega)) (by (simp only [List.length_append, List.length_cons, List.length_nil]; omega)) (by simp; have := HM.out.bel.size; omega) ?_; intro v2 w2 hown hgr _)
          have HN := Lib.hid (HM.out.next HLJ.out T1.out T2.out (Txw.next (m := bad6) rfl rfl hown) ((HM.out.bel.alloc hwl _).grown hgr (by simp; omega) (fun k hk => (World.ownsRowF.lt HM.out.tx k hk).1)))
          clear hown hgr
          go_wp2_with fail
          go_roundw
          case rel => exact ⟨j + 1, _, by go_num, by omega, HN⟩
          case measure => simp [intOf]; omega
        · obtain ⟨t1, t2⟩ := step_seq HBT.out hlow hk.out hk0
          have T1 := Lib.hid t1
          have T2 := Lib.hid t2
          have hk2 : 2 ≤ k ∧ k ≤ 4 ∧ j + k ≤ s.size := by omega
          obtain ⟨k2, k4, kj⟩ := hk2
          have n0 : ((k : Int) == 0) = false := by rw [beq_eq_false_iff_ne]; omega
          have s1 : (j : Int) ≤ (j : Int) + (k : Int) := by omega
          have s2 : (j : Int) + (k : Int) ≤ (s.size : Int) := by omega
          have hez := Lib.hid (show (s.extract j (j + k)).size ≤ 4 from by rw [← size_list', extract_take, List.length_take]; omega)
          clear t1 t2 hc4 hk0
          go_wp2_with fail
          with_reducible refine (hv.out).mono ?_
          rintro e3 w3 ⟨rfl, rfl⟩
          go_wp2_with (at_builtin; refine Lib.wpList_append_own_stringF _ rfl _ _ 46 9 rfl w.heap.size 5 i0 Tryd.underlying46 Tryd.underlying9 HI.out HZ0.out HZ1.out HZ2.out _ _ _ rfl HM.out.tx (s.extract j (j + k)) rfl (by unfold maxLen; have := hez.out; simp only [List.length_append, List.length_cons, List.length_nil]; omega) (by have := hez.out; simp only [List.length_append, List.length_cons, List.length_nil]; omega) hwl ?_; intro v2 w2 hown hgr _)
          have HN := Lib.hid (HM.out.next HLJ.out T1.out T2.out (Txw.next (m := (s.data.toList.drop j).take k) (by rw [← extract_take, size_list']) (by rw [← extract_take]; rfl) hown) (HM.out.bel.grown hgr hwl (fun k hk => (World.ownsRowF.lt HM.out.tx k hk).1)))
          clear hown hgr hez
          go_wp2_with fail
          go_roundw
          case rel => exact ⟨j + k, _, by go_num, by omega, HN⟩
          case measure => simp [intOf]; omega
    · have hje : j = s.size := by omega
      have HD : Hid (D = enc s.data.toList) := by
        have h := HM.out.eqn
        rw [List.drop_of_length_le (by rw [size_list']; omega), enc_nil, List.append_nil] at h
        exact h
      go_wp2_with (at_builtin; refine wpList_append_ownF _ rfl _ _ 46 rfl w.heap.size 5 i0 (.int .u8 0) 1 1 Tryd.underlying46 HI.out HZ0.out HZ1.out HZ2.out rfl (by decide) _ _ _ rfl (World.ownsRowF.alloc HM.out.tx _) _ 1 1 [.int .u8 34] rfl rfl (newsA _ _ _ _ (by simp)) (one_u8 _ (by simp)) (by unfold maxLen; (simp only [List.length_append, List.length_cons, List.length_nil]; omega)) (by (simp only [List.length_append, List.length_cons, List.length_nil]; omega)) (by simp; have := HM.out.bel.size; omega) ?_; intro v2 w2 hown hgr _)
      have ht := Lib.hid (show Txw w.heap.size v2 ([34] ++ enc s.data.toList ++ [34]) w2 from (Txw.next (m := [34]) rfl rfl hown).of_eq (by rw [← HD.out]))
      have hbl := Lib.hid ((HM.out.bel.alloc hwl _).grown hgr (by simp; omega) (fun k hk => (World.ownsRowF.lt HM.out.tx k hk).1))
      obtain ⟨S, hS, hcv⟩ : ∃ S : ByteArray, Hid (S = ⟨([34] ++ enc s.data.toList ++ [34]).toArray⟩) ∧ (convert 46 9 v2).run Tryd.prog w2 = .ok (.string S) w2 := ⟨_, Lib.hid rfl, ht.out.str⟩
      clear hown hgr
      go_wp2_with fail
      rw [hcv]
      simp only [Result.andThen]
      rw [Oper.upon_value]
      go_wp2_with fail
      go_ret
      exact ⟨by rw [hS.out]; simp, hbl.out⟩
end Go.Proofs.YtbjjcampiknnpaaDoor
