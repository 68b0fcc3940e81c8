/- The walk of FnObjectStringConcat: true at every two lists of pair descriptions. -/
import Derived.Test.YtooalmhelfaodaaDoorLawB
import Derived.BigQuiet
import Derived.Deep.QuietTactic
namespace Go.Proofs.YtooalmhelfaodaaDoor
open Go.RowKit
set_option maxRecDepth 100000
set_option linter.unusedVariables false
theorem joinT_append (a b : List It) (ha : a ≠ []) (hb : b ≠ []) : joinT (a ++ b) = joinT a ++ [44, 32] ++ joinT b := by
  cases a with
  | nil => exact absurd rfl ha
  | cons x r =>
    cases b with
    | nil => exact absurd rfl hb
    | cons y q => simp [joinT, tailT_append, tailT]
theorem objT_some (a : List It) (ha : a ≠ []) : objT a = [123, 32] ++ joinT a ++ [32, 125] := by
  unfold objT
  rw [if_neg (by simpa using ha)]
theorem below_drewN {B : Nat} {a w : World} (h : Below B a w) (n : Nat) : Below B a (w.drewN n) := ⟨h.os, h.tape, h.output, h.size, h.block⟩
theorem concat_eq {SA SB SC : ByteArray} (a b : List It) (ha : a ≠ []) (hb : b ≠ []) (h1 : SA.data.toList = objT a) (h2 : SB.data.toList = objT b) (h3 : SC.data.toList = objT (a ++ b)) :
    (SC.toList == (SA.extract 0 (SA.size - 2) ++ (⟨#[44, 32]⟩ : ByteArray) ++ SB.extract 2 SB.size).toList) = true := by
  have ha2 : SA.size = (joinT a).length + 4 := by rw [← size_list, h1, objT_some _ ha]; simp
  have hb2 : SB.size = (joinT b).length + 4 := by rw [← size_list, h2, objT_some _ hb]; simp
  rw [beq_iff_eq, Lib.toList_data, Lib.toList_data, h3, objT_some _ (by simp [ha]), joinT_append a b ha hb]
  rw [ByteArray.data_append, ByteArray.data_append, Array.toList_append, Array.toList_append, Lib.extract_data, Lib.extract_data, h1, h2, objT_some _ ha, objT_some _ hb, ha2, hb2]
  simp
  rw [List.take_of_length_le (by simp)]
theorem Filled.of_size (xs : List KVd) (arr : Array Value) : Filled arr xs 0 := fun i x hi => absurd hi (by omega)
set_option maxHeartbeats 8000000 in
theorem law_concat (A A2 : Option Addr) (c c2 : Nat) (xs ys : List KVd) (w : World) (hin : KvsIn w A c xs) (hin2 : KvsIn w A2 c2 ys) :
    Calls Tryd.prog 12 #[.slice A xs.length c, .slice A2 ys.length c2] w fun e w' => e = .returned (.bool true) ∧ Below w.heap.size w w' := by
  obtain ⟨hA, hx, hn⟩ := hin
  obtain ⟨hA2, hy, hn2⟩ := hin2
  have HX := Lib.hid hx
  have HY := Lib.hid hy
  have HA := Lib.hid hA
  have HA2 := Lib.hid hA2
  have hz := Lib.hid (zzs_concat A A2 c c2 w.heap.size xs ys w hx hy hn hn2)
  clear hx hA hy hA2
  by_cases hs : xs.length + tot xs + (ys.length + tot ys) ≤ 1048576
  · rw [decide_eq_true hs] at hz
    obtain ⟨m, hm, hkb⟩ : ∃ m : Int, Hid (m = kvsN xs) ∧ Hid (∀ w, KvsAt w w.heap.size A xs → Calls Tryd.prog 24 #[.slice A xs.length c] w fun e w' => e = .returned (.int .i64 m) ∧ Below w.heap.size w w') := ⟨_, Lib.hid rfl, Lib.hid fun w h => kvsBytes_any A c xs w h (by omega) (by omega)⟩
    obtain ⟨m2, hm2, hkb2⟩ : ∃ m : Int, Hid (m = kvsN ys) ∧ Hid (∀ w, KvsAt w w.heap.size A2 ys → Calls Tryd.prog 24 #[.slice A2 ys.length c2] w fun e w' => e = .returned (.int .i64 m) ∧ Below w.heap.size w w') := ⟨_, Lib.hid rfl, Lib.hid fun w h => kvsBytes_any A2 c2 ys w h (by omega) (by omega)⟩
    have hbd := kvsN_bd xs
    have hbd2 := kvsN_bd ys
    rw [← hm.out] at hbd
    rw [← hm2.out] at hbd2
    obtain ⟨b0, b1⟩ := hbd
    obtain ⟨b2, b3⟩ := hbd2
    go_enter Tryd.func12, Tryd.ntmps12
    go_wp2_with fail
    with_reducible refine (hz.out).mono ?_
    rintro e1 w1 ⟨rfl, rfl⟩
    go_wp2_with fail
    with_reducible refine (hkb.out _ HX.out).mono ?_
    rintro e2 w2 ⟨rfl, hb2⟩
    have HY2 := Lib.hid ((KvsAt.below hb2 HY.out).mono hb2.size)
    go_wp2_with fail
    with_reducible refine (hkb2.out _ HY2.out).mono ?_
    rintro e3 w3 ⟨rfl, hb3⟩
    have B3 := hb2.trans (hb3.mono hb2.size)
    have HX3 := Lib.hid ((KvsAt.below B3 HX.out).mono B3.size)
    have HY3 := Lib.hid ((KvsAt.below B3 HY.out).mono B3.size)
    clear HY2 HX HY
    by_cases hs2 : m + m2 ≤ 1048576
    · have hlim := kvsN_hi (xs := xs) (by have := hm.out; omega)
      have hlim2 := kvsN_hi (xs := ys) (by have := hm2.out; omega)
      have hwt := wt_le xs
      have hwt2 := wt_le ys
      by_cases h0 : 0 < xs.length ∧ 0 < ys.length
      · obtain ⟨hx0, hy0⟩ := h0
        have hxz : ((xs.length : Int) == 0) = false := by rw [beq_eq_false_iff_ne]; omega
        have hyz : ((ys.length : Int) == 0) = false := by rw [beq_eq_false_iff_ne]; omega
        have hcl := Lib.hid (clone_any A c xs w3 HA.out HX3.out (by omega))
        go_wp2_with fail
        with_reducible refine (hcl.out).mono ?_
        rintro e4 w4 ⟨Aa, ca, rfl, hKa, hb4⟩
        have B4 := B3.trans (hb4.mono B3.size)
        have HKa := Lib.hid hKa
        have hcl2 := Lib.hid (clone_any A2 c2 ys w4 HA2.out ((KvsAt.below hb4 HY3.out).mono hb4.size) (by omega))
        clear hKa
        go_wp2_with fail
        with_reducible refine (hcl2.out).mono ?_
        rintro e5 w5 ⟨Ab, cb, rfl, hKb, hb5⟩
        have B5 := B4.trans (hb5.mono B4.size)
        have HKa5 := Lib.hid ((KvsAt.below hb5 HKa.out).mono hb5.size)
        have HKb5 := Lib.hid hKb
        clear hKb HKa HX3 HY3 hxz hyz
        obtain ⟨i0, hi, hz0, hz1, hz2⟩ := info_parts infoKV
        have hmk : ∀ W : World, (Instr.makeSlice 36 (.int .i64 ((xs.length : Int) + (ys.length : Int))) (.int .i64 ((xs.length : Int) + (ys.length : Int)))).run Tryd.prog W = .ok (.slice (some ⟨W.heap.size, 0, none⟩) (xs.length + ys.length) (xs.length + ys.length)) (W.alloc (.cells (madeCells #[.string ⟨#[]⟩, .int .i64 0, .string ⟨#[]⟩, .int .i64 0, .string ⟨#[]⟩] ((xs.length + ys.length) * 5)) 23)) := by
          intro W
          have h := run_make_rowN (P := Tryd.prog) 36 23 i0 _ Tryd.underlying36 hi hz0 .i64 .i64 (xs.length + ys.length) (xs.length + ys.length) (Nat.le_refl _) (by rw [hz2]; omega) (by omega) W
          rw [hz1] at h
          rw [Int.natCast_add] at h
          exact h
        clear hi hz0 hz1 hz2 i0
        go_wp2_with fail
        clear hmk
        go_loopw [6] (fun i wr => ∃ (j : Nat) (arr : Array Value), i = .int .i64 j ∧ j ≤ xs.length ∧ Blk wr w5.heap.size 23 arr ∧ Hid (arr.size = (xs.length + ys.length) * 5) ∧ Filled arr (xs ++ ys) j ∧ Below w5.heap.size w5 wr) (fun i _ => xs.length - (intOf i).toNat)
        case atStart => exact ⟨0, _, rfl, by omega, Blk.new _ _ _, by show _ = _; rw [size_madeCells], Filled.of_size _ _, (Below.refl _ _).alloc (Nat.le_refl _) _⟩
        case round =>
          obtain ⟨j, arr, rfl, hj, hB, hsz, hfl, hbw⟩ := hrel
          by_cases hlt : j < xs.length
          · obtain ⟨g, o, rfl, hg, C⟩ := (KvsAt.below hbw HKa5.out) j _ (List.getElem?_eq_getElem hlt)
            have HG : Hid ((xs ++ ys)[j]? = some xs[j]) := by show _ = _; rw [List.getElem?_append_left hlt]; exact List.getElem?_eq_getElem hlt
            obtain ⟨x, hxx⟩ : ∃ x, Hid (xs[j] = x) := ⟨_, Lib.hid rfl⟩
            rw [hxx.out] at C HG
            obtain ⟨c0, c1, c2, c3, c4⟩ := C
            have hz : j * 5 + 4 < arr.size := by rw [hsz.out]; omega
            obtain ⟨o0, q0⟩ : ∃ u, wr.cell? ⟨w5.heap.size, j * 5, none⟩ = some u := ⟨_, (hB.cell _).trans (Array.getElem?_eq_getElem (by omega))⟩
            obtain ⟨o1, q1⟩ : ∃ u, wr.cell? ⟨w5.heap.size, j * 5 + 1, none⟩ = some u := ⟨_, (hB.cell _).trans (Array.getElem?_eq_getElem (by omega))⟩
            obtain ⟨o2, q2⟩ : ∃ u, wr.cell? ⟨w5.heap.size, j * 5 + 2, none⟩ = some u := ⟨_, (hB.cell _).trans (Array.getElem?_eq_getElem (by omega))⟩
            obtain ⟨o3, q3⟩ : ∃ u, wr.cell? ⟨w5.heap.size, j * 5 + 3, none⟩ = some u := ⟨_, (hB.cell _).trans (Array.getElem?_eq_getElem (by omega))⟩
            obtain ⟨o4, q4⟩ : ∃ u, wr.cell? ⟨w5.heap.size, j * 5 + 4, none⟩ = some u := ⟨_, (hB.cell _).trans (Array.getElem?_eq_getElem (by omega))⟩
            have f0 := hB.frozen (j * 5)
            have f1 := hB.frozen (j * 5 + 1)
            have f2 := hB.frozen (j * 5 + 2)
            have f3 := hB.frozen (j * 5 + 3)
            have f4 := hB.frozen (j * 5 + 4)
            have HF := Lib.hid hfl
            have HBk := Lib.hid hB
            clear hfl hB hxx
            go_wp2_with fail
            go_roundw
            case rel =>
              refine ⟨j + 1, put5 arr (j * 5) x, by go_num, by omega, ?_, by show _ = _; rw [put5_size]; exact hsz.out, HF.out.next HG.out hz, ?_⟩
              · exact ((((HBk.out.set_ (j * 5) _).set_ (j * 5 + 1) _).set_ (j * 5 + 2) _).set_ (j * 5 + 3) _).set_ (j * 5 + 4) _
              · exact ((((hbw.setCell (Nat.le_refl _) _).setCell (Nat.le_refl _) _).setCell (Nat.le_refl _) _).setCell (Nat.le_refl _) _).setCell (Nat.le_refl _) _
            case measure => simp [intOf]; omega
          · have hjx : j = xs.length := by omega
            have HB1 := Lib.hid hB
            have HF1 : Hid (Filled arr (xs ++ ys) (xs.length + 0)) := by rw [hjx] at hfl; exact hfl
            have HW1 := Lib.hid hbw
            have HZ1 := Lib.hid hsz
            clear hB hfl hjx
            clear hbw hsz
            go_wp2_with fail
            go_loopw [7] (fun i wr => ∃ (j : Nat) (arr : Array Value), i = .int .i64 j ∧ j ≤ ys.length ∧ Blk wr w5.heap.size 23 arr ∧ Hid (arr.size = (xs.length + ys.length) * 5) ∧ Filled arr (xs ++ ys) (xs.length + j) ∧ Below w5.heap.size w5 wr) (fun i _ => ys.length - (intOf i).toNat)
            case atStart => exact ⟨0, arr, rfl, by omega, HB1.out, HZ1.out, HF1.out, HW1.out⟩
            case round =>
              clear HB1 HZ1 HF1 HW1 hlt hj
              obtain ⟨j, arr, rfl, hj, hB, hsz, hfl, hbw⟩ := hrel
              by_cases hlt : j < ys.length
              · obtain ⟨g, o, rfl, hg, C⟩ := (KvsAt.below hbw HKb5.out) j _ (List.getElem?_eq_getElem hlt)
                have HG : Hid ((xs ++ ys)[xs.length + j]? = some ys[j]) := by show _ = _; rw [List.getElem?_append_right (by omega), show xs.length + j - xs.length = j by omega]; exact List.getElem?_eq_getElem hlt
                obtain ⟨x, hxx⟩ : ∃ x, Hid (ys[j] = x) := ⟨_, Lib.hid rfl⟩
                rw [hxx.out] at C HG
                obtain ⟨c0, c1, c2, c3, c4⟩ := C
                have hz : (xs.length + j) * 5 + 4 < arr.size := by rw [hsz.out]; omega
                obtain ⟨o0, q0⟩ : ∃ u, wr.cell? ⟨w5.heap.size, (xs.length + j) * 5, none⟩ = some u := ⟨_, (hB.cell _).trans (Array.getElem?_eq_getElem (by omega))⟩
                obtain ⟨o1, q1⟩ : ∃ u, wr.cell? ⟨w5.heap.size, (xs.length + j) * 5 + 1, none⟩ = some u := ⟨_, (hB.cell _).trans (Array.getElem?_eq_getElem (by omega))⟩
                obtain ⟨o2, q2⟩ : ∃ u, wr.cell? ⟨w5.heap.size, (xs.length + j) * 5 + 2, none⟩ = some u := ⟨_, (hB.cell _).trans (Array.getElem?_eq_getElem (by omega))⟩
                obtain ⟨o3, q3⟩ : ∃ u, wr.cell? ⟨w5.heap.size, (xs.length + j) * 5 + 3, none⟩ = some u := ⟨_, (hB.cell _).trans (Array.getElem?_eq_getElem (by omega))⟩
                obtain ⟨o4, q4⟩ : ∃ u, wr.cell? ⟨w5.heap.size, (xs.length + j) * 5 + 4, none⟩ = some u := ⟨_, (hB.cell _).trans (Array.getElem?_eq_getElem (by omega))⟩
                have f0 := hB.frozen ((xs.length + j) * 5)
                have f1 := hB.frozen ((xs.length + j) * 5 + 1)
                have f2 := hB.frozen ((xs.length + j) * 5 + 2)
                have f3 := hB.frozen ((xs.length + j) * 5 + 3)
                have f4 := hB.frozen ((xs.length + j) * 5 + 4)
                have HF := Lib.hid hfl
                have HBk := Lib.hid hB
                clear hfl hB hxx
                go_wp2_with fail
                go_roundw
                case rel =>
                  refine ⟨j + 1, put5 arr ((xs.length + j) * 5) x, by go_num, by omega, ?_, by show _ = _; rw [put5_size]; exact hsz.out, HF.out.next HG.out hz, ?_⟩
                  · exact ((((HBk.out.set_ ((xs.length + j) * 5) _).set_ ((xs.length + j) * 5 + 1) _).set_ ((xs.length + j) * 5 + 2) _).set_ ((xs.length + j) * 5 + 3) _).set_ ((xs.length + j) * 5 + 4) _
                  · exact ((((hbw.setCell (Nat.le_refl _) _).setCell (Nat.le_refl _) _).setCell (Nat.le_refl _) _).setCell (Nat.le_refl _) _).setCell (Nat.le_refl _) _
                case measure => simp [intOf]; omega
              · have hfl2 : Filled arr (xs ++ ys) (xs ++ ys).length := by rw [List.length_append]; rw [show j = ys.length by omega] at hfl; exact hfl
                have HKab := Lib.hid (hfl2.at_ hB wr.heap.size hB.lt)
                have HKa6 := Lib.hid ((KvsAt.below hbw HKa5.out).mono hbw.size)
                have HKb6 := Lib.hid ((KvsAt.below hbw HKb5.out).mono hbw.size)
                have B6 := B5.trans (hbw.mono B5.size)
                clear hfl hfl2 hB hsz HKa5 HKb5 hbw
                have hbo := Lib.hid (build_any Aa ca xs wr HKa6.out (by omega))
                go_wp2_with fail
                with_reducible refine (hbo.out).mono ?_
                rintro e7 w7 ⟨oa, rfl, hOa, hb7⟩
                have B7 := B6.trans (hb7.mono B6.size)
                have HKab7 := Lib.hid ((KvsAt.below hb7 HKab.out).mono hb7.size)
                have HKb7 := Lib.hid ((KvsAt.below hb7 HKb6.out).mono hb7.size)
                have hl1 := objT_len (xs.map KVd.it)
                have hl2 := objT_len (ys.map KVd.it)
                obtain ⟨SA, hSA, hsa⟩ : ∃ S : ByteArray, Hid (S.data.toList = objT (xs.map KVd.it)) ∧ Hid (Calls Tryd.prog 20 #[.pointer (some ⟨oa, 0, none⟩)] w7 fun r w' => r = .returned (.string S) ∧ Below w7.heap.size w7 w') := ⟨⟨(objT (xs.map KVd.it)).toArray⟩, Lib.hid rfl, Lib.hid (objString oa _ w7 hOa (by omega))⟩
                clear hOa HKab HKa6 HKb6 hbo
                go_wp2_with fail
                with_reducible refine (hsa.out).mono ?_
                rintro e8 w8 ⟨rfl, hb8⟩
                have B8 := B7.trans (hb8.mono B7.size)
                have HKab8 := Lib.hid ((KvsAt.below hb8 HKab7.out).mono hb8.size)
                have HKb8 := Lib.hid ((KvsAt.below hb8 HKb7.out).mono hb8.size)
                have hbo := Lib.hid (build_any Ab cb ys w8 HKb8.out (by omega))
                clear HKab7 HKb7 hsa
                go_wp2_with fail
                with_reducible refine (hbo.out).mono ?_
                rintro e9 w9 ⟨ob, rfl, hOb, hb9⟩
                have B9 := B8.trans (hb9.mono B8.size)
                have HKab9 := Lib.hid ((KvsAt.below hb9 HKab8.out).mono hb9.size)
                obtain ⟨SB, hSB, hsb⟩ : ∃ S : ByteArray, Hid (S.data.toList = objT (ys.map KVd.it)) ∧ Hid (Calls Tryd.prog 20 #[.pointer (some ⟨ob, 0, none⟩)] w9 fun r w' => r = .returned (.string S) ∧ Below w9.heap.size w9 w') := ⟨⟨(objT (ys.map KVd.it)).toArray⟩, Lib.hid rfl, Lib.hid (objString ob _ w9 hOb (by omega))⟩
                clear hOb HKab8 HKb8 hbo
                go_wp2_with fail
                with_reducible refine (hsb.out).mono ?_
                rintro e10 w10 ⟨rfl, hb10⟩
                have B10 := B9.trans (hb10.mono B9.size)
                have HKab10 := Lib.hid ((KvsAt.below hb10 HKab9.out).mono hb10.size)
                have hta := tot_append xs ys
                have hwab := wt_le (xs ++ ys)
                have hlab : (xs ++ ys).length = xs.length + ys.length := List.length_append
                have hbo' := build_any (some ⟨w5.heap.size, 0, none⟩) (xs.length + ys.length) (xs ++ ys) w10 HKab10.out (by omega)
                rw [hlab] at hbo' hwab
                have hbo := Lib.hid hbo'
                have hwab2 : wtS ((xs ++ ys).map KVd.it) ≤ 3000000 := by omega
                clear HKab9 hsb hta hwab hlab hbo'
                go_wp2_with fail
                with_reducible refine (hbo.out).mono ?_
                rintro e11 w11 ⟨oc, rfl, hOc, hb11⟩
                have B11 := B10.trans (hb11.mono B10.size)
                obtain ⟨SC, hSC, hsc⟩ : ∃ S : ByteArray, Hid (S.data.toList = objT ((xs ++ ys).map KVd.it)) ∧ Hid (Calls Tryd.prog 20 #[.pointer (some ⟨oc, 0, none⟩)] w11 fun r w' => r = .returned (.string S) ∧ Below w11.heap.size w11 w') := ⟨⟨(objT ((xs ++ ys).map KVd.it)).toArray⟩, Lib.hid rfl, Lib.hid (objString oc _ w11 hOc (by omega))⟩
                clear hOc HKab10 hbo hwab2
                go_wp2_with fail
                with_reducible refine (hsc.out).mono ?_
                rintro e12 w12 ⟨rfl, hb12⟩
                have B12 := B11.trans (hb12.mono B11.size)
                clear hsc
                have hxne : xs.map KVd.it ≠ [] := by intro hc; rw [List.map_eq_nil_iff] at hc; rw [hc] at hx0; simp at hx0
                have hyne : ys.map KVd.it ≠ [] := by intro hc; rw [List.map_eq_nil_iff] at hc; rw [hc] at hy0; simp at hy0
                have hsa1 : SA.size = (joinT (xs.map KVd.it)).length + 4 := by rw [← size_list, hSA.out, objT_some _ hxne]; simp
                have hsb1 : SB.size = (joinT (ys.map KVd.it)).length + 4 := by rw [← size_list, hSB.out, objT_some _ hyne]; simp
                have l1 : 4 ≤ SA.size := by omega
                have l2 : 4 ≤ SB.size := by omega
                have l3 : SA.size ≤ 9000000 := by rw [← size_list, hSA.out]; omega
                have l4 : SB.size ≤ 9000000 := by rw [← size_list, hSB.out]; omega
                have i1 : (0 : Int) ≤ (SA.size : Int) - 2 := by omega
                have i2 : ((SA.size : Int) - 2) ≤ (SA.size : Int) := by omega
                have i3 : (2 : Int) ≤ (SB.size : Int) := by omega
                have HSA1 := Lib.hid hsa1
                have HSB1 := Lib.hid hsb1
                have HN := Lib.hid hxne
                have HN2 := Lib.hid hyne
                clear hsa1 hsb1 hxne hyne
                go_wp2_with fail
                go_quiet (fail)
                go_wp2_with fail
                go_ret
                exact ⟨ret_bool (concat_eq _ _ HN.out HN2.out hSA.out hSB.out (by rw [hSC.out, List.map_append])), below_drewN B12 _⟩
      · by_cases hx0 : xs.length = 0
        · have hxz : ((xs.length : Int) == 0) = true := by rw [beq_iff_eq]; omega
          clear hx0
          go_wp2_with fail
          go_ret
          exact ⟨rfl, B3⟩
        · have hxz : ((xs.length : Int) == 0) = false := by rw [beq_eq_false_iff_ne]; omega
          have hyz : ((ys.length : Int) == 0) = true := by rw [beq_iff_eq]; omega
          clear hx0
          go_wp2_with fail
          go_ret
          exact ⟨rfl, B3⟩
    · go_wp2_with fail
      go_ret
      exact ⟨rfl, B3⟩
  · rw [decide_eq_false hs] at hz
    go_enter Tryd.func12, Tryd.ntmps12
    go_wp2_with fail
    with_reducible refine (hz.out).mono ?_
    rintro e1 w1 ⟨rfl, rfl⟩
    go_wp2_with fail
    go_ret
    exact ⟨rfl, Below.refl _ _⟩
end Go.Proofs.YtooalmhelfaodaaDoor
