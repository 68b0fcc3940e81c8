/- render: the text of a tree. -/
import Derived.Test.YtbjjcampiknnpaaDoorBt
import Derived.Test.YtbjjcampiknnpaaDoorWu
import Derived.Deep.RegionHeld3
import Derived.Laws.Concat
namespace Go.Proofs.YtbjjcampiknnpaaDoor
open Go.RowKit
set_option maxRecDepth 100000
set_option linter.unusedVariables false
set_option linter.unusedSimpArgs false
theorem ret_str {a b : ByteArray} (h : a.data.toList = b.data.toList) : Ending.returned (.string a) = .returned (.string b) := by
  obtain ⟨a⟩ := a; obtain ⟨b⟩ := b
  congr
  exact Array.toList_inj.1 h
def RnR (l : List UInt8) (w : World) (e : Ending) (w' : World) : Prop := e = .returned (.string ⟨l.toArray⟩) ∧ Below w.heap.size w w'
set_option maxHeartbeats 1000000 in
theorem keyText_any (k : ByteArray) (w : World) : Calls Tryd.prog 35 #[.string k] w fun e w' => e = .returned (.string ⟨(keyT k).toArray⟩) ∧ w = w' := by
  by_cases hk : k.size = 0
  · have hkt : keyT k = [34, 34] := by unfold keyT; rw [if_pos hk]
    obtain rfl : k = ⟨#[]⟩ := by
      obtain ⟨d⟩ := k
      have : d.size = 0 := hk
      rw [Array.eq_empty_of_size_eq_zero this]
    rw [hkt]
    clear hkt hk
    go_enter Tryd.func35, Tryd.ntmps35
    go_wp2_with fail
    go_ret
    exact ⟨rfl, rfl⟩
  · have hkt : keyT k = k.data.toList := by unfold keyT; rw [if_neg hk]
    obtain ⟨k1, k2⟩ := size_ne' hk
    rw [hkt]
    clear hkt hk
    go_enter Tryd.func35, Tryd.ntmps35
    go_wp2_with fail
    go_ret
    exact ⟨rfl, rfl⟩
theorem str_of (l : List UInt8) : ∃ X : ByteArray, Hid (X = ⟨l.toArray⟩) ∧ Hid (X.data.toList = l) ∧ X.size = l.length := ⟨_, Lib.hid rfl, Lib.hid rfl, by show l.toArray.size = _; simp⟩
theorem add3 (W : World) (S Y X : ByteArray) (h : S.size + Y.size + X.size ≤ 9000000) : (Op.stringOp .add Y ⟨#[58, 32]⟩).run Tryd.prog W = .ok (.string (Y ++ ⟨#[58, 32]⟩)) W ∧ (Op.stringOp .add (Y ++ ⟨#[58, 32]⟩) X).run Tryd.prog W = .ok (.string (Y ++ ⟨#[58, 32]⟩ ++ X)) W ∧
    (Op.stringOp .add S (Y ++ ⟨#[58, 32]⟩ ++ X)).run Tryd.prog W = .ok (.string (S ++ (Y ++ ⟨#[58, 32]⟩ ++ X))) W := by
  have h2 : (⟨#[58, 32]⟩ : ByteArray).size = 2 := rfl
  refine ⟨run_string_add_sum W _ _ (by rw [h2]; omega), run_string_add_sum W _ _ (by rw [ByteArray.size_append, h2]; omega), run_string_add_sum W _ _ (by rw [ByteArray.size_append, ByteArray.size_append, h2]; omega)⟩
set_option maxHeartbeats 8000000 in
theorem render_any : ∀ (n : Nat) (T : Nd) (v : Value) (B : Nat) (w : World), NdAt w B n v T → B ≤ w.heap.size → sz n T ≤ 1048576 →
    Calls Tryd.prog 17 #[v] w (RnR (jT n T) w) := by
  intro n
  induction n with
  | zero => intro T v B w h; exact h.elim
  | succ n ih =>
    intro T v B w h hB hz
    have hjl := jT_len (n + 1) T
    obtain ⟨k, num, key, kids⟩ := T
    obtain ⟨A, cap, rfl, hk, hl, hn, hy, hK⟩ := h
    have HK := Lib.hid hK
    have IH := Lib.hid ih
    have hs : sz (n + 1) (.mk k num key kids) = num.size + key.size + szs (sz n) kids := rfl
    have hjs : (jT (n + 1) (.mk k num key kids)).length ≤ 1048584 := by omega
    rw [hs] at hz
    have hlen := szs_len (sz n) kids
    have HZ := Lib.hid (show ∀ x ∈ kids, sz n x ≤ 1048576 from fun x hx => by have := szs_mem (sz n) hx; omega)
    have hkl : kids.length ≤ 16384 := by omega
    clear hK ih hs hz hlen hjl
    have hbox : Below w.heap.size w (w.alloc (.cells (ndv k num key A kids.length cap) 26)) := (Below.refl _ _).alloc (Nat.le_refl _) _
    have HBX := Lib.hid hbox
    clear hbox
    rcases (show k % 6 = 0 ∨ k % 6 = 1 ∨ k % 6 = 2 ∨ k % 6 = 3 ∨ k % 6 = 4 ∨ k % 6 = 5 by omega) with h6 | h6 | h6 | h6 | h6 | h6
    · have hj : jT (n + 1) (.mk k num key kids) = [110, 117, 108, 108] := by simp [jT, h6]
      rw [hj] at hjs ⊢
      have e6 : (k : Int) % 6 = 0 := by omega
      clear hj hjs
      go_enter Tryd.func17, Tryd.ntmps17
      go_wp2_with fail
      go_ret
      exact ⟨rfl, HBX.out⟩
    · have hj : jT (n + 1) (.mk k num key kids) = [116, 114, 117, 101] := by simp [jT, h6]
      rw [hj] at hjs ⊢
      have e6 : (k : Int) % 6 = 1 := by omega
      clear hj hjs
      go_enter Tryd.func17, Tryd.ntmps17
      go_wp2_with fail
      go_ret
      exact ⟨rfl, HBX.out⟩
    · have hj : jT (n + 1) (.mk k num key kids) = [102, 97, 108, 115, 101] := by simp [jT, h6]
      rw [hj] at hjs ⊢
      have e6 : (k : Int) % 6 = 2 := by omega
      clear hj hjs
      go_enter Tryd.func17, Tryd.ntmps17
      go_wp2_with fail
      go_ret
      exact ⟨rfl, HBX.out⟩
    · have hj : jT (n + 1) (.mk k num key kids) = keyT num := by simp [jT, h6]
      rw [hj] at hjs ⊢
      have e6 : (k : Int) % 6 = 3 := by omega
      by_cases hk0 : num.size = 0
      · have hkt : keyT num = [34, 34] := by unfold keyT; rw [if_pos hk0]
        obtain rfl : num = ⟨#[]⟩ := by
          obtain ⟨d⟩ := num
          have : d.size = 0 := hk0
          rw [Array.eq_empty_of_size_eq_zero this]
        rw [hkt]
        clear hj hjs hkt hk0
        go_enter Tryd.func17, Tryd.ntmps17
        go_wp2_with fail
        go_ret
        exact ⟨rfl, HBX.out⟩
      · have hkt : keyT num = num.data.toList := by unfold keyT; rw [if_neg hk0]
        obtain ⟨k1, k2⟩ := size_ne' hk0
        rw [hkt]
        clear hj hjs hkt hk0
        go_enter Tryd.func17, Tryd.ntmps17
        go_wp2_with fail
        go_ret
        exact ⟨rfl, HBX.out⟩
    · have hj : jT (n + 1) (.mk k num key kids) = [91] ++ joinL (kids.map (jT n)) ++ [93] := by simp [jT, h6]
      rw [hj] at hjs ⊢
      have e6 : (k : Int) % 6 = 4 := by omega
      simp only [List.length_append, List.length_cons, List.length_nil] at hjs
      clear hj
      go_enter Tryd.func17, Tryd.ntmps17
      go_wp2_with fail
      clear e6 h6
      go_loopw [3, 4] (fun sv iv wr => ∃ (j : Nat) (S : ByteArray), sv = .string S ∧ iv = .int .i64 j ∧ j ≤ kids.length ∧ Hid (S.data.toList = [91] ++ joinL ((kids.take j).map (jT n))) ∧ Hid (Blk wr w.heap.size 26 (ndv k num key A kids.length cap)) ∧ Hid (Below w.heap.size w wr)) (fun _ iv _ => kids.length - (intOf iv).toNat)
      case atStart => exact ⟨0, _, rfl, rfl, Nat.zero_le _, Lib.hid (by simp [joinL]), Lib.hid (Blk.new _ _ _), HBX⟩
      case round =>
        obtain ⟨j, S, rfl, rfl, hj, HS, HX, HW⟩ := hrel
        have d3 : wr.cell? ⟨w.heap.size, 3, none⟩ = some (.slice A kids.length cap) := HX.out.cell 3
        have hSz : S.size ≤ 1048600 := by
          have h1 := joinL_all (jT n) kids j
          rw [← size_list, HS.out]
          simp only [List.length_append, List.length_cons, List.length_nil]
          omega
        by_cases hlt : j < kids.length
        · obtain ⟨⟨k', num', key', kids'⟩, hx⟩ : ∃ x, Hid (kids[j]? = some x) := ⟨_, Lib.hid (List.getElem?_eq_getElem hlt)⟩
          obtain ⟨g, o, A', cap', rfl, hg, c0, c1, c2, c3, hN⟩ := HK.out j k' num' key' kids' hx.out
          have hgw : g < w.heap.size := Nat.lt_of_lt_of_le hg hB
          have d4 := (HW.out.cell (p := ⟨g, o + j * 4, none⟩) hgw).trans c0
          have d5 := (HW.out.cell (p := ⟨g, o + j * 4 + 1, none⟩) hgw).trans c1
          have d6 := (HW.out.cell (p := ⟨g, o + j * 4 + 2, none⟩) hgw).trans c2
          have d7 := (HW.out.cell (p := ⟨g, o + j * 4 + 3, none⟩) hgw).trans c3
          have HRX := Lib.hid (joinL_take (jT n) hx.out)
          have hall := joinL_all (jT n) kids (j + 1)
          obtain ⟨X, hX, hXl, hXs⟩ := str_of (jT n (.mk k' num' key' kids'))
          have hc := Lib.hid (IH.out (.mk k' num' key' kids') _ w.heap.size wr ((hN.mono hB).below HW.out) HW.out.size (HZ.out _ (List.mem_of_getElem? hx.out)))
          have hXz : X.size ≤ 1048600 := by
            rw [hXs]
            rw [HRX.out] at hall
            split at hall
            · omega
            · simp only [List.length_append] at hall; omega
          unfold RnR at hc
          rw [← hX.out] at hc
          have j0 : (0 : Int) ≤ j := by omega
          have j1 : (j : Int) < kids.length := by omega
          clear c0 c1 c2 c3 hN hall
          by_cases hjz : j = 0
          · have jn : ¬ ((0 : Int) < j) := by omega
            have HJ := Lib.hid hjz
            clear hjz
            go_wp2_with fail
            with_reducible refine (hc.out).mono ?_
            rintro e1 w1 ⟨rfl, hb1⟩
            have HX1 := Lib.hid (HX.out.below hb1 HX.out.lt)
            have HW1 := Lib.hid (HW.out.trans (hb1.mono HW.out.size))
            clear hb1 d3 d4 d5 d6 d7
            go_wp2_with fail
            go_roundw
            case rel => exact ⟨j + 1, _, rfl, by go_num, by omega, Lib.hid (by rw [HRX.out, if_pos HJ.out]; simp only [ByteArray.data_append, Array.toList_append, HS.out, hXl.out, HJ.out]; simp [joinL]), HX1, HW1⟩
            case measure => simp [intOf]; omega
          · have jn : ((0 : Int) < j) := by omega
            go_wp2_with fail
            with_reducible refine (hc.out).mono ?_
            rintro e1 w1 ⟨rfl, hb1⟩
            have HX1 := Lib.hid (HX.out.below hb1 HX.out.lt)
            have HW1 := Lib.hid (HW.out.trans (hb1.mono HW.out.size))
            clear hb1 d3 d4 d5 d6 d7
            go_wp2_with fail
            go_roundw
            case rel => exact ⟨j + 1, _, rfl, by go_num, by omega, Lib.hid (by rw [HRX.out, if_neg hjz]; simp only [ByteArray.data_append, Array.toList_append, HS.out, hXl.out]; simp), HX1, HW1⟩
            case measure => simp [intOf]; omega
        · obtain rfl : j = kids.length := by omega
          have HS' : Hid (S.data.toList = [91] ++ joinL (kids.map (jT n))) := Lib.hid (by have := HS.out; rwa [List.take_length] at this)
          go_wp2_with fail
          go_ret
          exact ⟨ret_str (by simp [ByteArray.data_append, HS'.out]), HW.out⟩
    · have hj : jT (n + 1) (.mk k num key kids) = if kids = [] then [123, 125] else [123, 32] ++ joinL (kids.map (kvJ n)) ++ [32, 125] := jT_five h6
      rw [hj] at hjs ⊢
      have e6 : (k : Int) % 6 = 5 := by omega
      clear hj
      by_cases hk0 : kids = []
      · subst hk0
        rw [if_pos rfl]
        clear hjs
        go_enter Tryd.func17, Tryd.ntmps17
        go_wp2_with fail
        go_ret
        exact ⟨rfl, HBX.out⟩
      · rw [if_neg hk0] at hjs ⊢
        simp only [List.length_append, List.length_cons, List.length_nil] at hjs
        have hpos := List.length_pos_iff.2 hk0
        have hp1 : ¬ ((kids.length : Int) = 0) := by omega
        have hp2 : ((kids.length : Int) == 0) = false := by rw [beq_eq_false_iff_ne]; omega
        go_enter Tryd.func17, Tryd.ntmps17
        go_wp2_with fail
        clear e6 h6
        go_loopw [5, 6] (fun sv iv wr => ∃ (j : Nat) (S : ByteArray), sv = .string S ∧ iv = .int .i64 j ∧ j ≤ kids.length ∧ Hid (S.data.toList = [123, 32] ++ joinL ((kids.take j).map (kvJ n))) ∧ Hid (Blk wr w.heap.size 26 (ndv k num key A kids.length cap)) ∧ Hid (Below w.heap.size w wr)) (fun _ iv _ => kids.length - (intOf iv).toNat)
        case atStart => exact ⟨0, _, rfl, rfl, Nat.zero_le _, Lib.hid (by simp [joinL]), Lib.hid (Blk.new _ _ _), HBX⟩
        case round =>
          obtain ⟨j, S, rfl, rfl, hj, HS, HX, HW⟩ := hrel
          have d3 : wr.cell? ⟨w.heap.size, 3, none⟩ = some (.slice A kids.length cap) := HX.out.cell 3
          have hlw := Lib.hid HX.out.lt
          have hSz : S.size ≤ 1048600 := by
            have h1 := joinL_all (kvJ n) kids j
            rw [← size_list, HS.out]
            simp only [List.length_append, List.length_cons, List.length_nil]
            omega
          by_cases hlt : j < kids.length
          · obtain ⟨⟨k', num', key', kids'⟩, hx⟩ : ∃ x, Hid (kids[j]? = some x) := ⟨_, Lib.hid (List.getElem?_eq_getElem hlt)⟩
            obtain ⟨g, o, A', cap', rfl, hg, c0, c1, c2, c3, hN⟩ := HK.out j k' num' key' kids' hx.out
            have hgw : g < w.heap.size := Nat.lt_of_lt_of_le hg hB
            have d4 := (HW.out.cell (p := ⟨g, o + j * 4, none⟩) hgw).trans c0
            have d5 := (HW.out.cell (p := ⟨g, o + j * 4 + 1, none⟩) hgw).trans c1
            have d6 := (HW.out.cell (p := ⟨g, o + j * 4 + 2, none⟩) hgw).trans c2
            have d7 := (HW.out.cell (p := ⟨g, o + j * 4 + 3, none⟩) hgw).trans c3
            have HRX := Lib.hid (joinL_take (kvJ n) hx.out)
            have hall := joinL_all (kvJ n) kids (j + 1)
            obtain ⟨X, hX, hXl, hXs⟩ := str_of (jT n (.mk k' num' key' kids'))
            obtain ⟨Y, hY, hYl, hYs⟩ := str_of (keyT key')
            have HKV : Hid (kvJ n (.mk k' num' key' kids') = Y.data.toList ++ [58, 32] ++ X.data.toList) := Lib.hid (by rw [hXl.out, hYl.out]; exact rfl)
            have hc := Lib.hid fun W (hW : Below w.heap.size wr W) => IH.out (.mk k' num' key' kids') _ w.heap.size W ((hN.mono hB).below (HW.out.trans hW)) (HW.out.trans hW).size (HZ.out _ (List.mem_of_getElem? hx.out))
            have ht := Lib.hid fun W => keyText_any key' W
            have hXY : X.size ≤ 1048600 ∧ Y.size ≤ 1048600 := by
              have h1 := congrArg List.length HKV.out
              simp only [List.length_append, List.length_cons, List.length_nil, size_list] at h1
              rw [HRX.out] at hall
              split at hall
              · omega
              · simp only [List.length_append, List.length_cons, List.length_nil] at hall; omega
            obtain ⟨hXz, hYz⟩ := hXY
            unfold RnR at hc
            rw [← hX.out] at hc
            rw [← hY.out] at ht
            have j0 : (0 : Int) ≤ j := by omega
            have j1 : (j : Int) < kids.length := by omega
            have hcells := Lib.hid fun (W' : World) (ba : Below (w.heap.size + 1) wr W') => (show W'.cell? ⟨w.heap.size, 3, none⟩ = some (.slice (some ⟨g, o, none⟩) kids.length cap) ∧ W'.cell? ⟨g, o + j * 4, none⟩ = some (.int .u8 k') ∧ W'.cell? ⟨g, o + j * 4 + 1, none⟩ = some (.string num') ∧ W'.cell? ⟨g, o + j * 4 + 2, none⟩ = some (.string key') ∧ W'.cell? ⟨g, o + j * 4 + 3, none⟩ = some (.slice A' kids'.length cap') from ⟨(ba.cell (p := ⟨w.heap.size, 3, none⟩) (Nat.lt_succ_self _)).trans d3, (ba.cell (p := ⟨g, _, none⟩) (Nat.lt_succ_of_lt hgw)).trans d4, (ba.cell (p := ⟨g, _, none⟩) (Nat.lt_succ_of_lt hgw)).trans d5, (ba.cell (p := ⟨g, _, none⟩) (Nat.lt_succ_of_lt hgw)).trans d6, (ba.cell (p := ⟨g, _, none⟩) (Nat.lt_succ_of_lt hgw)).trans d7⟩)
            clear c0 c1 c2 c3 hN hall
            by_cases hjz : j = 0
            · have jn : ¬ ((0 : Int) < j) := by omega
              have HJ := Lib.hid hjz
              clear hjz
              have hadd := fun W => add3 W S Y X (by omega)
              have ha1 := fun W => (hadd W).1
              have ha2 := fun W => (hadd W).2.1
              have ha3 := fun W => (hadd W).2.2
              clear hadd
              go_wp2_with fail
              go_region_held3 (fun W => W.cell? ⟨w.heap.size, 3, none⟩ = some (.slice (some ⟨g, o, none⟩) kids.length cap) ∧ W.cell? ⟨g, o + j * 4, none⟩ = some (.int .u8 k') ∧ W.cell? ⟨g, o + j * 4 + 1, none⟩ = some (.string num') ∧ W.cell? ⟨g, o + j * 4 + 2, none⟩ = some (.string key') ∧ W.cell? ⟨g, o + j * 4 + 3, none⟩ = some (.slice A' kids'.length cap'))
                (first | exact ⟨d3, d4, d5, d6, d7⟩ | exact hcells.out _ kC.out)
                (first
                  | (go_at_call 35; ((with_reducible refine (ht.out _).mono ?_); rintro e1 w1 ⟨rfl, rfl⟩))
                  | (go_at_call 17; ((with_reducible refine (hc.out _ ((Below.refl _ _).drew)).mono ?_); rintro e2 w2 ⟨rfl, hb2'⟩; have hb2 := ((Below.refl wr.heap.size wr).drew).trans (show Below wr.heap.size wr.drew w2 from hb2'); have HX1 := Lib.hid (HX.out.below hb2 HX.out.lt); have HW1 := Lib.hid (HW.out.trans (hb2.mono HW.out.size)); have kC := Lib.hid (hb2.mono (show w.heap.size + 1 ≤ wr.heap.size from hlw.out)); clear hb2 hb2')))
              go_wp2_with fail
              go_roundw
              case rel => exact ⟨j + 1, _, rfl, by go_num, by omega, Lib.hid (by rw [HRX.out, if_pos HJ.out, HKV.out]; simp only [ByteArray.data_append, Array.toList_append, HS.out, HJ.out]; simp [joinL]), HX1, HW1⟩
              case measure => simp [intOf]; omega
            · have jn : ((0 : Int) < j) := by omega
              have hadd := fun W => add3 W (S ++ ⟨#[44, 32]⟩) Y X (by rw [ByteArray.size_append]; show S.size + 2 + _ + _ ≤ _; omega)
              have ha1 := fun W => (hadd W).1
              have ha2 := fun W => (hadd W).2.1
              have ha3 := fun W => (hadd W).2.2
              clear hadd
              go_wp2_with fail
              go_region_held3 (fun W => W.cell? ⟨w.heap.size, 3, none⟩ = some (.slice (some ⟨g, o, none⟩) kids.length cap) ∧ W.cell? ⟨g, o + j * 4, none⟩ = some (.int .u8 k') ∧ W.cell? ⟨g, o + j * 4 + 1, none⟩ = some (.string num') ∧ W.cell? ⟨g, o + j * 4 + 2, none⟩ = some (.string key') ∧ W.cell? ⟨g, o + j * 4 + 3, none⟩ = some (.slice A' kids'.length cap'))
                (first | exact ⟨d3, d4, d5, d6, d7⟩ | exact hcells.out _ kC.out)
                (first
                  | (go_at_call 35; ((with_reducible refine (ht.out _).mono ?_); rintro e1 w1 ⟨rfl, rfl⟩))
                  | (go_at_call 17; ((with_reducible refine (hc.out _ ((Below.refl _ _).drew)).mono ?_); rintro e2 w2 ⟨rfl, hb2'⟩; have hb2 := ((Below.refl wr.heap.size wr).drew).trans (show Below wr.heap.size wr.drew w2 from hb2'); have HX1 := Lib.hid (HX.out.below hb2 HX.out.lt); have HW1 := Lib.hid (HW.out.trans (hb2.mono HW.out.size)); have kC := Lib.hid (hb2.mono (show w.heap.size + 1 ≤ wr.heap.size from hlw.out)); clear hb2 hb2')))
              go_wp2_with fail
              go_roundw
              case rel => exact ⟨j + 1, _, rfl, by go_num, by omega, Lib.hid (by rw [HRX.out, if_neg hjz, HKV.out]; simp only [ByteArray.data_append, Array.toList_append, HS.out]; simp), HX1, HW1⟩
              case measure => simp [intOf]; omega
          · obtain rfl : j = kids.length := by omega
            have HS' : Hid (S.data.toList = [123, 32] ++ joinL (kids.map (kvJ n))) := Lib.hid (by have := HS.out; rwa [List.take_length] at this)
            go_wp2_with fail
            go_ret
            exact ⟨ret_str (by simp [ByteArray.data_append, HS'.out]), HW.out⟩
end Go.Proofs.YtbjjcampiknnpaaDoor
