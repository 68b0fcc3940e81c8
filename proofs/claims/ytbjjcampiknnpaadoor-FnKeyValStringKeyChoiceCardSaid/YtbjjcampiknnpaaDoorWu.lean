/- The writer of a constant term writes its tree's text; pairs as texts. -/
import Derived.Test.YtbjjcampiknnpaaDoorWt
namespace Go.Proofs.YtbjjcampiknnpaaDoor
open Go.RowKit
set_option maxRecDepth 100000
set_option linter.unusedVariables false
set_option linter.unusedSimpArgs false
theorem ctv_cells {w : World} {t : Nat} {O A : Option Addr} {num : ByteArray} {a b c : Bool} (h : Blk w t 73 (ctv O A num a b c)) :
    w.cell? ⟨t, 0, none⟩ = some (.pointer O) ∧ w.cell? ⟨t, 1, none⟩ = some (.pointer A) ∧ w.cell? ⟨t, 2, none⟩ = some (.string num) ∧ w.cell? ⟨t, 3, none⟩ = some (.string ⟨#[]⟩) ∧ w.cell? ⟨t, 4, none⟩ = some (.bool a) ∧ w.cell? ⟨t, 5, none⟩ = some (.bool b) ∧ w.cell? ⟨t, 6, none⟩ = some (.bool c) :=
  ⟨h.cell 0, h.cell 1, h.cell 2, h.cell 3, h.cell 4, h.cell 5, h.cell 6⟩
theorem joinL_ge {α : Type} (f : α → List UInt8) : ∀ xs : List α, 2 * xs.length ≤ (joinL (xs.map f)).length + 2
  | [] => by simp
  | [x] => by simp
  | x :: y :: r => by
    have ih := joinL_ge f (y :: r)
    simp only [List.map_cons, joinL, List.length_append, List.length_cons, List.length_nil] at ih ⊢
    omega
set_option maxHeartbeats 4000000 in
theorem termW_any : ∀ n, TermW n := by
  intro n
  induction n with
  | zero => intro B b t l T w _ _ _ h; exact h.elim
  | succ n ih =>
    intro B b t l T w h hB hT hA hl
    obtain ⟨k, num, key, kids⟩ := T
    obtain ⟨hL, ht, hc⟩ := hA
    have IH := Lib.hid ih
    have HT := Lib.hid hT
    clear ih hT
    rcases hc with ⟨h6, hc⟩ | ⟨h6, hc⟩ | ⟨h6, hc⟩ | ⟨h6, hc⟩ | ⟨h6, a, R, arr, hc, ha0, ha, hAr, hR0, hR, hRo, hE⟩ | ⟨h6, a, R, arr, hc, ha0, ha, hAr, hR0, hR, hRo, hE⟩
    · have hj : jT (n + 1) (.mk k num key kids) = [110, 117, 108, 108] := by simp [jT, h6]
      rw [hj] at hl ⊢
      obtain ⟨c0, c1, c2, c3, c4, c5, c6⟩ := ctv_cells hc
      have hq := Lib.hid (wStr B b l ⟨#[110, 117, 108, 108]⟩ w h (by show _ + 4 ≤ _; omega))
      clear h hc hj
      go_enter Tryd.func44, Tryd.ntmps44
      go_wp2_with fail
      with_reducible refine (hq.out).mono ?_
      rintro e1 w1 ⟨rfl, h1, hb1⟩
      go_wp2_with fail
      go_end0
      exact ⟨rfl, h1, hb1⟩
    · have hj : jT (n + 1) (.mk k num key kids) = [116, 114, 117, 101] := by simp [jT, h6]
      rw [hj] at hl ⊢
      obtain ⟨c0, c1, c2, c3, c4, c5, c6⟩ := ctv_cells hc
      have hq := Lib.hid (wStr B b l ⟨#[116, 114, 117, 101]⟩ w h (by show _ + 4 ≤ _; omega))
      clear h hc hj
      go_enter Tryd.func44, Tryd.ntmps44
      go_wp2_with fail
      with_reducible refine (hq.out).mono ?_
      rintro e1 w1 ⟨rfl, h1, hb1⟩
      go_wp2_with fail
      go_end0
      exact ⟨rfl, h1, hb1⟩
    · have hj : jT (n + 1) (.mk k num key kids) = [102, 97, 108, 115, 101] := by simp [jT, h6]
      rw [hj] at hl ⊢
      obtain ⟨c0, c1, c2, c3, c4, c5, c6⟩ := ctv_cells hc
      have hq := Lib.hid (wStr B b l ⟨#[102, 97, 108, 115, 101]⟩ w h (by show _ + 5 ≤ _; omega))
      clear h hc hj
      go_enter Tryd.func44, Tryd.ntmps44
      go_wp2_with fail
      with_reducible refine (hq.out).mono ?_
      rintro e1 w1 ⟨rfl, h1, hb1⟩
      go_wp2_with fail
      go_end0
      exact ⟨rfl, h1, hb1⟩
    · have hj : jT (n + 1) (.mk k num key kids) = keyT num := by simp [jT, h6]
      rw [hj] at hl ⊢
      obtain ⟨c0, c1, c2, c3, c4, c5, c6⟩ := ctv_cells hc
      by_cases hk : num.size = 0
      · have hkt : keyT num = qT ⟨#[]⟩ := by unfold keyT; rw [if_pos hk, qT_nil]
        obtain rfl : num = ⟨#[]⟩ := by
          obtain ⟨d⟩ := num
          have : d.size = 0 := hk
          rw [Array.eq_empty_of_size_eq_zero this]
        rw [hkt]
        have hq := Lib.hid (jsonG B b l ⟨#[]⟩ w h hB HT.out (by show _ + 6 * 0 + 20 ≤ _; omega))
        clear h hc hj hkt hk
        go_enter Tryd.func44, Tryd.ntmps44
        go_wp2_with fail
        with_reducible refine (hq.out).mono ?_
        rintro e1 w1 ⟨rfl, h1, hb1⟩
        go_wp2_with fail
        go_end0
        exact ⟨rfl, h1, hb1⟩
      · have hkt : keyT num = num.data.toList := by unfold keyT; rw [if_neg hk]
        obtain ⟨k1, k2⟩ := size_ne' hk
        rw [hkt] at hl ⊢
        have hq := Lib.hid (wStr B b l num w h (by rw [size_list] at hl; omega))
        clear h hc hj hkt hk
        go_enter Tryd.func44, Tryd.ntmps44
        go_wp2_with fail
        with_reducible refine (hq.out).mono ?_
        rintro e1 w1 ⟨rfl, h1, hb1⟩
        go_wp2_with fail
        go_end0
        exact ⟨rfl, h1, hb1⟩
    · have hj : jT (n + 1) (.mk k num key kids) = [91] ++ joinL (kids.map (jT n)) ++ [93] := by simp [jT, h6]
      rw [hj] at hl ⊢
      obtain ⟨c0, c1, c2, c3, c4, c5, c6⟩ := ctv_cells hc
      have hkl : kids.length ≤ 9223372036854775807 := by
        have := joinL_ge (jT n) kids
        simp only [List.length_append, List.length_cons, List.length_nil] at hl
        omega
      have hq := Lib.hid (arrWn n IH.out B b a R l arr kids w h hB HT.out ha hAr hR hRo hE hkl (by simp only [List.length_append, List.length_cons, List.length_nil] at hl; omega))
      clear h hc hj hE hAr hRo
      go_enter Tryd.func44, Tryd.ntmps44
      go_wp2_with fail
      with_reducible refine (hq.out).mono ?_
      rintro e1 w1 ⟨rfl, h1, hb1⟩
      go_wp2_with fail
      go_end0
      exact ⟨rfl, h1, hb1⟩
    · have hj : jT (n + 1) (.mk k num key kids) = if kids = [] then [123, 125] else [123, 32] ++ joinL (kids.map (kvJ n)) ++ [32, 125] := jT_five h6
      rw [hj] at hl ⊢
      obtain ⟨c0, c1, c2, c3, c4, c5, c6⟩ := ctv_cells hc
      have hkl : kids.length ≤ 9223372036854775807 := by
        have := joinL_ge (kvJ n) kids
        split at hl
        · rename_i h0; subst h0; simp
        · simp only [List.length_append, List.length_cons, List.length_nil] at hl
          omega
      have hq := Lib.hid (objWn n IH.out B b a R l arr kids w h hB HT.out ha hAr hR hRo (fun i x hi => by obtain ⟨c, u, a1, a2, a3, a4, a5⟩ := hE i x hi; exact ⟨c, u, a1, a3, a4, a5⟩) hkl (by
        split at hl
        · simp only [List.length_cons, List.length_nil] at hl; omega
        · simp only [List.length_append, List.length_cons, List.length_nil] at hl; omega) (fun h0 => by
        rw [if_neg h0] at hl
        simp only [List.length_append, List.length_cons, List.length_nil] at hl; omega))
      clear h hc hj hE hAr hRo hl hkl
      generalize (if kids = [] then ([123, 125] : List UInt8) else [123, 32] ++ joinL (kids.map (kvJ n)) ++ [32, 125]) = TX at hq ⊢
      go_enter Tryd.func44, Tryd.ntmps44
      go_wp2_with fail
      with_reducible refine (hq.out).mono ?_
      rintro e1 w1 ⟨rfl, h1, hb1⟩
      go_wp2_with fail
      go_end0
      exact ⟨rfl, h1, hb1⟩
set_option maxHeartbeats 1000000 in
theorem kvStr (n c t : Nat) (k ks : ByteArray) (x : Nd) (w : World) (hB : 2 ≤ w.heap.size) (hT : Lib.Utf8Tabs 0 1 w) (hC : Blk w c 60 #[.string k, .string ks, .pointer (some ⟨t, 0, none⟩)]) (hA : TermAt w 0 w.heap.size n t x) (hks : ks.size ≤ 1048576) (hl : (keyP k ks).length + 2 + (jT n x).length ≤ 1099511627776) :
    Calls Tryd.prog 15 #[.pointer (some ⟨c, 0, none⟩)] w fun r w' => r = .returned (.string ⟨(keyP k ks ++ [58, 32] ++ jT n x).toArray⟩) ∧ Below w.heap.size w w' := by
  have hb0 : Below w.heap.size w (w.alloc (.cells #[.pointer none, .slice none 0 0] 48)) := (Below.refl _ _).alloc (Nat.le_refl _) _
  have hK := Lib.hid (kvWn n (termW_any n) w.heap.size w.heap.size c t [] k ks x _ (Bd.fresh w) hB (tabs_below hB hb0 hT) hC.lt (hC.below hb0 hC.lt) (hA.below hb0) hks (by simp only [List.length_nil]; omega))
  clear hC hA hT
  go_enter Tryd.func15, Tryd.ntmps15
  go_wp2_with fail
  with_reducible refine (hK.out).mono ?_
  rintro e1 w1 ⟨rfl, h1, hb1⟩
  go_wp2_with fail
  with_reducible refine (bStr _ _ _ _ h1).mono ?_
  rintro e2 w2 ⟨rfl, h2, hb2⟩
  go_wp2_with fail
  go_ret
  exact ⟨by simp, (hb0.trans hb1).trans hb2⟩
end Go.Proofs.YtbjjcampiknnpaaDoor
