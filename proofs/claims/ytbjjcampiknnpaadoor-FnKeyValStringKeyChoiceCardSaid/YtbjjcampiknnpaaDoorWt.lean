/- What the writers of constant terms, arrays, objects and pairs write for a tree. -/
import Derived.Test.YtbjjcampiknnpaaDoorNd
namespace Go.Proofs.YtbjjcampiknnpaaDoor
open Go.RowKit
set_option maxRecDepth 100000
set_option linter.unusedVariables false
set_option linter.unusedSimpArgs false
theorem joinL_more : ∀ a b : List (List UInt8), (joinL a).length ≤ (joinL (a ++ b)).length
  | [], b => by simp [joinL]
  | [x], [] => by simp
  | [x], y :: r => by simp only [List.cons_append, List.nil_append, joinL, List.length_append]; omega
  | x :: y :: r, b => by
    have ih := joinL_more (y :: r) b
    simp only [List.cons_append, joinL, List.length_append] at ih ⊢
    omega
theorem joinL_all {α : Type} (f : α → List UInt8) (xs : List α) (j : Nat) : (joinL ((xs.take j).map f)).length ≤ (joinL (xs.map f)).length := by
  have h := joinL_more ((xs.take j).map f) ((xs.drop j).map f)
  rw [← List.map_append, List.take_append_drop] at h
  exact h
theorem size_ne' {s : ByteArray} (h : s.size ≠ 0) : s.toList.isEmpty = false ∧ (!s.toList.isEmpty) = true := by
  have hl : s.toList.length = s.size := by rw [Lib.toList_data]; exact size_list s
  cases hs : s.toList with
  | nil => rw [hs] at hl; exact absurd hl.symm h
  | cons a r => exact ⟨rfl, rfl⟩
def keyP (k ks : ByteArray) : List UInt8 := if k.size = 0 then qT ks else k.data.toList
theorem keyP_nil (k : ByteArray) : keyP k ⟨#[]⟩ = keyT k := by unfold keyP keyT; rw [qT_nil]
def TermW (n : Nat) : Prop := ∀ (B b t : Nat) (l : List UInt8) (T : Nd) (w : World), Bd B b l w → 2 ≤ B → Lib.Utf8Tabs 0 1 w → TermAt w 0 B n t T → l.length + (jT n T).length ≤ 1099511627776 →
  Calls Tryd.prog 44 #[.pointer (some ⟨t, 0, none⟩), .pointer (some ⟨b, 0, none⟩)] w (Wrote B b (l ++ jT n T) w)
set_option maxHeartbeats 4000000 in
theorem arrWn (n : Nat) (ih : TermW n) (B b a R : Nat) (l : List UInt8) (arr : Array Value) (kids : List Nd) (w : World) (h : Bd B b l w) (hB : 2 ≤ B) (hT : Lib.Utf8Tabs 0 1 w) (ha : a < B) (hA : Blk w a 75 #[.slice (some ⟨R, 0, none⟩) kids.length kids.length]) (hRl : R < B)
    (hR : Blk w R 57 arr) (hE : ∀ (i : Nat) (x : Nd), kids[i]? = some x → ∃ u : Nat, arr[i]? = some (.pointer (some ⟨u, 0, none⟩)) ∧ TermAt w 0 B n u x) (hkl : kids.length ≤ 9223372036854775807) (hl : l.length + (joinL (kids.map (jT n))).length + 2 ≤ 1099511627776) :
    Calls Tryd.prog 39 #[.pointer (some ⟨a, 0, none⟩), .pointer (some ⟨b, 0, none⟩)] w (Wrote B b (l ++ ([91] ++ joinL (kids.map (jT n)) ++ [93])) w) := by
  have hj := Lib.hid (wByte B b l 91 91 w (by decide) h (by omega))
  have HA := Lib.hid hA
  have HR := Lib.hid hR
  have HE := Lib.hid hE
  have HT := Lib.hid hT
  have IH := Lib.hid ih
  have hb := h.2
  clear hA hE hT h ih hR
  go_enter Tryd.func39, Tryd.ntmps39
  go_wp2_with fail
  with_reducible refine (hj.out).mono ?_
  rintro e1 w1 ⟨rfl, h1, hb1⟩
  have d0 : w1.cell? ⟨a, 0, none⟩ = some (.slice (some ⟨R, 0, none⟩) kids.length kids.length) := (hb1.cell (p := ⟨a, 0, none⟩) ha).trans (HA.out.cell 0)
  have HW := Lib.hid h1
  clear h1 hj
  go_wp2_with fail
  go_loopw [13] (fun iv wr => ∃ j : Nat, iv = .int .i64 j ∧ j ≤ kids.length ∧ Hid (Bd B b (l ++ [91] ++ joinL ((kids.take j).map (jT n))) wr) ∧ Below B w wr) (fun iv _ => kids.length - (intOf iv).toNat)
  case atStart => exact ⟨0, rfl, Nat.zero_le _, Lib.hid (HW.out.of_eq (by simp [joinL])), hb1⟩
  case round =>
    obtain ⟨j, rfl, hj, hW, hbw⟩ := hrel
    clear HW
    by_cases hlt : j < kids.length
    · obtain ⟨x, hx⟩ : ∃ x, Hid (kids[j]? = some x) := ⟨_, Lib.hid (List.getElem?_eq_getElem hlt)⟩
      obtain ⟨u, u1, u2⟩ := HE.out j x hx.out
      have c0 : wr.cell? ⟨R, j, none⟩ = some (.pointer (some ⟨u, 0, none⟩)) := (hbw.cell (p := ⟨R, j, none⟩) hRl).trans ((HR.out.cell j).trans u1)
      have HE' := Lib.hid (u2.below hbw)
      have HRX := Lib.hid (joinL_take (jT n) hx.out)
      have hall := joinL_all (jT n) kids (j + 1)
      have hgl : R < wr.heap.size := Nat.lt_of_lt_of_le hRl hW.out.2
      have j0 : (0 : Int) ≤ j := by omega
      have j1 : (j : Int) < kids.length := by omega
      clear u1 u2
      by_cases hjz : j = 0
      · have hlx : (jT n x).length ≤ (joinL (kids.map (jT n))).length := by rw [HRX.out, if_pos hjz] at hall; exact hall
        have hel := Lib.hid (IH.out B b u _ x wr hW.out hB (tabs_below hB hbw HT.out) HE'.out (by subst hjz; simp only [List.length_append, List.length_cons, List.length_nil, List.take_zero, List.map_nil, joinL]; omega))
        have jn : ¬ ((0 : Int) < j) := by omega
        have HJ := Lib.hid hjz
        clear hjz hall
        go_wp2_with fail
        with_reducible refine (hel.out).mono ?_
        rintro e6 w6 ⟨rfl, h6, hb6⟩
        have H6 := Lib.hid (h6.of_eq (l' := l ++ [91] ++ joinL ((kids.take (j + 1)).map (jT n))) (by rw [HRX.out, if_pos HJ.out, HJ.out]; simp [joinL]))
        clear h6 hel
        go_wp2_with fail
        go_roundw
        case rel => exact ⟨j + 1, by go_num, by omega, H6, hbw.trans hb6⟩
        case measure => simp [intOf]; omega
      · have hlx : (joinL ((kids.take j).map (jT n))).length + 2 + (jT n x).length ≤ (joinL (kids.map (jT n))).length := by rw [HRX.out, if_neg hjz] at hall; simpa only [List.length_append, List.length_cons, List.length_nil] using hall
        have hsp := Lib.hid (wStr B b _ ⟨#[44, 32]⟩ wr hW.out (by simp only [List.length_append, List.length_cons, List.length_nil]; show _ + 2 ≤ _; omega))
        have jn : ((0 : Int) < j) := by omega
        clear hall
        go_wp2_with fail
        with_reducible refine (hsp.out).mono ?_
        rintro e5 w5 ⟨rfl, h5, hb5⟩
        have hel := Lib.hid (IH.out B b u _ x w5 h5 hB (tabs_below hB (hbw.trans hb5) HT.out) (HE'.out.below hb5) (by simp only [List.length_append, List.length_cons, List.length_nil]; show _ + _ + _ + 2 + _ ≤ _; omega))
        clear h5 hsp
        go_wp2_with fail
        with_reducible refine (hel.out).mono ?_
        rintro e6 w6 ⟨rfl, h6, hb6⟩
        have H6 := Lib.hid (h6.of_eq (l' := l ++ [91] ++ joinL ((kids.take (j + 1)).map (jT n))) (by rw [HRX.out, if_neg hjz]; simp))
        clear h6 hel
        go_wp2_with fail
        go_roundw
        case rel => exact ⟨j + 1, by go_num, by omega, H6, (hbw.trans hb5).trans hb6⟩
        case measure => simp [intOf]; omega
    · obtain rfl : j = kids.length := by omega
      rw [List.take_length] at hW
      have hq := Lib.hid (wByte B b _ 93 93 wr (by decide) hW.out (by simp only [List.length_append, List.length_cons, List.length_nil]; omega))
      clear hW
      go_wp2_with fail
      with_reducible refine (hq.out).mono ?_
      rintro e7 w7 ⟨rfl, h7, hb7⟩
      go_wp2_with fail
      go_end0
      exact ⟨rfl, h7.of_eq (by simp), hbw.trans hb7⟩
set_option maxHeartbeats 2000000 in
theorem kvWn (n : Nat) (ih : TermW n) (B b c t : Nat) (l : List UInt8) (k ks : ByteArray) (x : Nd) (w : World) (h : Bd B b l w) (hB : 2 ≤ B) (hTb : Lib.Utf8Tabs 0 1 w) (hc : c < B) (hC : Blk w c 60 #[.string k, .string ks, .pointer (some ⟨t, 0, none⟩)]) (hT : TermAt w 0 B n t x)
    (hks : ks.size ≤ 1048576) (hl : l.length + (keyP k ks).length + 2 + (jT n x).length ≤ 1099511627776) :
    Calls Tryd.prog 33 #[.pointer (some ⟨c, 0, none⟩), .pointer (some ⟨b, 0, none⟩)] w (Wrote B b (l ++ (keyP k ks ++ [58, 32] ++ jT n x)) w) := by
  have c0 : w.cell? ⟨c, 0, none⟩ = some (.string k) := hC.cell 0
  have c1 : w.cell? ⟨c, 1, none⟩ = some (.string ks) := hC.cell 1
  have HC := Lib.hid hC
  have HT := Lib.hid hT
  have HTB := Lib.hid hTb
  have IH := Lib.hid ih
  clear hC hT hTb ih
  by_cases hk : k.size = 0
  · have hkt : keyP k ks = qT ks := by unfold keyP; rw [if_pos hk]
    obtain rfl : k = ⟨#[]⟩ := by
      obtain ⟨d⟩ := k
      have : d.size = 0 := hk
      rw [Array.eq_empty_of_size_eq_zero this]
    rw [hkt] at hl ⊢
    have hj := Lib.hid (jsonG B b l ks w h hB HTB.out (by omega))
    clear hkt hk h
    go_enter Tryd.func33, Tryd.ntmps33
    go_wp2_with fail
    with_reducible refine (hj.out).mono ?_
    rintro e1 w1 ⟨rfl, h1, hb1⟩
    have hd := Lib.hid (wStr B b _ ⟨#[58, 32]⟩ w1 h1 (by simp only [List.length_append]; show _ + 2 ≤ _; omega))
    clear h1 hj c0 c1
    go_wp2_with fail
    with_reducible refine (hd.out).mono ?_
    rintro e2 w2 ⟨rfl, h2, hb2⟩
    have c2 : w2.cell? ⟨c, 2, none⟩ = some (.pointer (some ⟨t, 0, none⟩)) := ((hb1.trans hb2).cell (p := ⟨c, 2, none⟩) hc).trans (HC.out.cell 2)
    have hv := Lib.hid (IH.out B b t _ x w2 h2 hB (tabs_below hB (hb1.trans hb2) HTB.out) (HT.out.below (hb1.trans hb2)) (by simp only [List.length_append]; show _ + 2 + _ ≤ _; omega))
    clear h2 hd
    go_wp2_with fail
    with_reducible refine (hv.out).mono ?_
    rintro e3 w3 ⟨rfl, h3, hb3⟩
    go_wp2_with fail
    go_end0
    exact ⟨rfl, h3.of_eq (by simp), (hb1.trans hb2).trans hb3⟩
  · have hkt : keyP k ks = k.data.toList := by unfold keyP; rw [if_neg hk]
    obtain ⟨k1, k2⟩ := size_ne' hk
    rw [hkt] at hl ⊢
    have hj := Lib.hid (wStr B b l k w h (by rw [size_list] at hl; omega))
    clear hkt hk h
    go_enter Tryd.func33, Tryd.ntmps33
    go_wp2_with fail
    with_reducible refine (hj.out).mono ?_
    rintro e1 w1 ⟨rfl, h1, hb1⟩
    have hd := Lib.hid (wStr B b _ ⟨#[58, 32]⟩ w1 h1 (by simp only [List.length_append]; show _ + 2 ≤ _; omega))
    clear h1 hj c0 c1
    go_wp2_with fail
    with_reducible refine (hd.out).mono ?_
    rintro e2 w2 ⟨rfl, h2, hb2⟩
    have c2 : w2.cell? ⟨c, 2, none⟩ = some (.pointer (some ⟨t, 0, none⟩)) := ((hb1.trans hb2).cell (p := ⟨c, 2, none⟩) hc).trans (HC.out.cell 2)
    have hv := Lib.hid (IH.out B b t _ x w2 h2 hB (tabs_below hB (hb1.trans hb2) HTB.out) (HT.out.below (hb1.trans hb2)) (by simp only [List.length_append]; show _ + 2 + _ ≤ _; omega))
    clear h2 hd
    go_wp2_with fail
    with_reducible refine (hv.out).mono ?_
    rintro e3 w3 ⟨rfl, h3, hb3⟩
    go_wp2_with fail
    go_end0
    exact ⟨rfl, h3.of_eq (by simp), (hb1.trans hb2).trans hb3⟩
def kvJ (n : Nat) (x : Nd) : List UInt8 := keyT x.key ++ [58, 32] ++ jT n x
theorem jT_five {n k : Nat} {num key : ByteArray} {kids : List Nd} (h6 : k % 6 = 5) : jT (n + 1) (.mk k num key kids) = if kids = [] then [123, 125] else [123, 32] ++ joinL (kids.map (kvJ n)) ++ [32, 125] := by
  show (if k % 6 = 0 then _ else _) = _
  rw [if_neg (by omega), if_neg (by omega), if_neg (by omega), if_neg (by omega), if_neg (by omega)]
  rfl
set_option maxHeartbeats 4000000 in
theorem objWn (n : Nat) (ih : TermW n) (B b a R : Nat) (l : List UInt8) (arr : Array Value) (kids : List Nd) (w : World) (h : Bd B b l w) (hB : 2 ≤ B) (hT : Lib.Utf8Tabs 0 1 w) (ha : a < B) (hA : Blk w a 84 #[.slice (some ⟨R, 0, none⟩) kids.length kids.length]) (hRl : R < B)
    (hR : Blk w R 28 arr) (hE : ∀ (i : Nat) (x : Nd), kids[i]? = some x → ∃ c u : Nat, arr[i]? = some (.pointer (some ⟨c, 0, none⟩)) ∧ c < B ∧ Blk w c 60 #[.string x.key, .string ⟨#[]⟩, .pointer (some ⟨u, 0, none⟩)] ∧ TermAt w 0 B n u x) (hkl : kids.length ≤ 9223372036854775807) (hl0 : l.length + 2 ≤ 1099511627776) (hl : kids ≠ [] → l.length + (joinL (kids.map (kvJ n))).length + 4 ≤ 1099511627776) :
    Calls Tryd.prog 49 #[.pointer (some ⟨a, 0, none⟩), .pointer (some ⟨b, 0, none⟩)] w (Wrote B b (l ++ if kids = [] then [123, 125] else [123, 32] ++ joinL (kids.map (kvJ n)) ++ [32, 125]) w) := by
  have HA := Lib.hid hA
  have HR := Lib.hid hR
  have HE := Lib.hid hE
  have HT := Lib.hid hT
  have IH := Lib.hid ih
  have hb := h.2
  have c0 : w.cell? ⟨a, 0, none⟩ = some (.slice (some ⟨R, 0, none⟩) kids.length kids.length) := HA.out.cell 0
  by_cases hk0 : kids = []
  · have hj := Lib.hid (wStr B b l ⟨#[123, 125]⟩ w h (by show _ + 2 ≤ _; omega))
    rw [if_pos hk0]
    subst hk0
    clear hA hE hT h hR ih
    go_enter Tryd.func49, Tryd.ntmps49
    go_wp2_with fail
    with_reducible refine (hj.out).mono ?_
    rintro e1 w1 ⟨rfl, h1, hb1⟩
    go_wp2_with fail
    go_end0
    exact ⟨rfl, h1.of_eq (by simp), hb1⟩
  · have hj := Lib.hid (wStr B b l ⟨#[123, 32]⟩ w h (by show _ + 2 ≤ _; omega))
    rw [if_neg hk0]
    have hl := hl hk0
    have hpos := List.length_pos_iff.2 hk0
    have hp1 : ¬ ((kids.length : Int) = 0) := by omega
    have hp2 : ((kids.length : Int) == 0) = false := by rw [beq_eq_false_iff_ne]; omega
    clear hA hE hT h hR ih hk0
    go_enter Tryd.func49, Tryd.ntmps49
    go_wp2_with fail
    with_reducible refine (hj.out).mono ?_
    rintro e1 w1 ⟨rfl, h1, hb1⟩
    have d0 : w1.cell? ⟨a, 0, none⟩ = some (.slice (some ⟨R, 0, none⟩) kids.length kids.length) := (hb1.cell (p := ⟨a, 0, none⟩) ha).trans (HA.out.cell 0)
    have HW := Lib.hid h1
    clear h1 hj c0
    go_wp2_with fail
    go_loopw [21] (fun iv wr => ∃ j : Nat, iv = .int .i64 j ∧ j ≤ kids.length ∧ Hid (Bd B b (l ++ [123, 32] ++ joinL ((kids.take j).map (kvJ n))) wr) ∧ Below B w wr) (fun iv _ => kids.length - (intOf iv).toNat)
    case atStart => exact ⟨0, rfl, Nat.zero_le _, Lib.hid (HW.out.of_eq (by simp [joinL])), hb1⟩
    case round =>
      obtain ⟨j, rfl, hj, hW, hbw⟩ := hrel
      clear HW
      by_cases hlt : j < kids.length
      · obtain ⟨x, hx⟩ : ∃ x, Hid (kids[j]? = some x) := ⟨_, Lib.hid (List.getElem?_eq_getElem hlt)⟩
        obtain ⟨c, u, u1, hcB, u3, u4⟩ := HE.out j x hx.out
        have c0 : wr.cell? ⟨R, j, none⟩ = some (.pointer (some ⟨c, 0, none⟩)) := (hbw.cell (p := ⟨R, j, none⟩) hRl).trans ((HR.out.cell j).trans u1)
        have HE' := Lib.hid (u4.below hbw)
        have HC' := Lib.hid (u3.below hbw hcB)
        have HRX := Lib.hid (joinL_take (kvJ n) hx.out)
        have hall := joinL_all (kvJ n) kids (j + 1)
        have hkj : (kvJ n x).length = (keyP x.key ⟨#[]⟩).length + 2 + (jT n x).length := by rw [keyP_nil]; simp only [kvJ, List.length_append, List.length_cons, List.length_nil]
        have HKJ := Lib.hid (show keyP x.key ⟨#[]⟩ ++ [58, 32] ++ jT n x = kvJ n x by rw [keyP_nil]; rfl)
        have hgl : R < wr.heap.size := Nat.lt_of_lt_of_le hRl hW.out.2
        have j0 : (0 : Int) ≤ j := by omega
        have j1 : (j : Int) < kids.length := by omega
        clear u1 u3 u4
        by_cases hjz : j = 0
        · have hlx : (kvJ n x).length ≤ (joinL (kids.map (kvJ n))).length := by rw [HRX.out, if_pos hjz] at hall; exact hall
          have hel := Lib.hid (kvWn n IH.out B b c u _ x.key ⟨#[]⟩ x wr hW.out hB (tabs_below hB hbw HT.out) hcB HC'.out HE'.out (by show 0 ≤ _; omega) (by subst hjz; simp only [List.length_append, List.length_cons, List.length_nil, List.take_zero, List.map_nil, joinL]; omega))
          rw [HKJ.out] at hel
          have jn : ¬ ((0 : Int) < j) := by omega
          have HJ := Lib.hid hjz
          clear hjz hall hkj
          go_wp2_with fail
          with_reducible refine (hel.out).mono ?_
          rintro e6 w6 ⟨rfl, h6, hb6⟩
          have H6 := Lib.hid (h6.of_eq (l' := l ++ [123, 32] ++ joinL ((kids.take (j + 1)).map (kvJ n))) (by rw [HRX.out, if_pos HJ.out, HJ.out]; simp [joinL]))
          clear h6 hel
          go_wp2_with fail
          go_roundw
          case rel => exact ⟨j + 1, by go_num, by omega, H6, hbw.trans hb6⟩
          case measure => simp [intOf]; omega
        · have hlx : (joinL ((kids.take j).map (kvJ n))).length + 2 + (kvJ n x).length ≤ (joinL (kids.map (kvJ n))).length := by rw [HRX.out, if_neg hjz] at hall; simpa only [List.length_append, List.length_cons, List.length_nil] using hall
          have hsp := Lib.hid (wStr B b _ ⟨#[44, 32]⟩ wr hW.out (by simp only [List.length_append, List.length_cons, List.length_nil]; show _ + 2 ≤ _; omega))
          have jn : ((0 : Int) < j) := by omega
          clear hall
          go_wp2_with fail
          with_reducible refine (hsp.out).mono ?_
          rintro e5 w5 ⟨rfl, h5, hb5⟩
          have hel := Lib.hid (kvWn n IH.out B b c u _ x.key ⟨#[]⟩ x w5 h5 hB (tabs_below hB (hbw.trans hb5) HT.out) hcB (HC'.out.below hb5 hcB) (HE'.out.below hb5) (by show 0 ≤ _; omega) (by simp only [List.length_append, List.length_cons, List.length_nil]; show _ + _ + _ + 2 + _ + _ + _ ≤ _; omega))
          rw [HKJ.out] at hel
          clear h5 hsp hkj
          go_wp2_with fail
          with_reducible refine (hel.out).mono ?_
          rintro e6 w6 ⟨rfl, h6, hb6⟩
          have H6 := Lib.hid (h6.of_eq (l' := l ++ [123, 32] ++ joinL ((kids.take (j + 1)).map (kvJ n))) (by rw [HRX.out, if_neg hjz]; simp))
          clear h6 hel
          go_wp2_with fail
          go_roundw
          case rel => exact ⟨j + 1, by go_num, by omega, H6, (hbw.trans hb5).trans hb6⟩
          case measure => simp [intOf]; omega
      · obtain rfl : j = kids.length := by omega
        rw [List.take_length] at hW
        have hq := Lib.hid (wStr B b _ ⟨#[32, 125]⟩ wr hW.out (by simp only [List.length_append, List.length_cons, List.length_nil]; show _ + 2 ≤ _; omega))
        clear hW
        go_wp2_with fail
        with_reducible refine (hq.out).mono ?_
        rintro e7 w7 ⟨rfl, h7, hb7⟩
        go_wp2_with fail
        go_end0
        exact ⟨rfl, h7.of_eq (by simp), hbw.trans hb7⟩
end Go.Proofs.YtbjjcampiknnpaaDoor
