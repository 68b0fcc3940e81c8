/- nodeBytes: the bytes that a tree unfolds into, or one more than the budget. -/
import Derived.Test.YtbjjcampiknnpaaDoorNd
namespace Go.Proofs.YtbjjcampiknnpaaDoor
open Go.RowKit
set_option maxRecDepth 100000
set_option linter.unusedVariables false
set_option linter.unusedSimpArgs false
def NbR (m : Nat) (w : World) (e : Ending) (w' : World) : Prop := e = .returned (.int .i64 m) ∧ Below w.heap.size w w'
def ndv (k : Nat) (num key : ByteArray) (A : Option Addr) (l cap : Nat) : Array Value := #[.int .u8 k, .string num, .string key, .slice A l cap]
set_option maxHeartbeats 4000000 in
theorem nodeBytes_any : ∀ (n : Nat) (T : Nd) (v : Value) (b B : Nat) (w : World), NdAt w B n v T → B ≤ w.heap.size → b ≤ 1048576 →
    Calls Tryd.prog 13 #[v, .int .i64 b] w (NbR (min (sz n T) (b + 1)) w) := by
  intro n
  induction n with
  | zero => intro T v b B w h; exact h.elim
  | succ n ih =>
    intro T v b B w h hB hb
    obtain ⟨k, num, key, kids⟩ := T
    obtain ⟨A, cap, rfl, hk, hl, hn, hy, hK⟩ := h
    have HK := Lib.hid hK
    have IH := Lib.hid ih
    have hs : sz (n + 1) (.mk k num key kids) = num.size + key.size + szs (sz n) kids := rfl
    rw [hs]
    clear hK ih hs
    obtain ⟨R, hR⟩ : ∃ R, Hid (R = min (num.size + key.size + szs (sz n) kids) (b + 1)) := ⟨_, Lib.hid rfl⟩
    rw [← hR.out]
    by_cases h1 : num.size ≤ b
    · by_cases h2 : num.size + key.size ≤ b
      · have i1 : ¬ ((b : Int) < (num.size : Int)) := by omega
        have i2 : ¬ ((b : Int) < (num.size : Int) + (key.size : Int)) := by omega
        go_enter Tryd.func13, Tryd.ntmps13
        go_wp2_with fail
        go_loopw [5, 6] (fun t i wr => ∃ m j : Nat, t = .int .i64 m ∧ i = .int .i64 j ∧ j ≤ kids.length ∧ m ≤ b ∧ Hid (m = num.size + key.size + szs (sz n) (kids.take j)) ∧ Hid (Blk wr w.heap.size 26 (ndv k num key A kids.length cap)) ∧ Hid (Below w.heap.size w wr)) (fun _ i _ => kids.length - (intOf i).toNat)
        case atStart => exact ⟨num.size + key.size, 0, by go_num, rfl, Nat.zero_le _, h2, Lib.hid (by simp [szs]), Lib.hid (Blk.new _ _ _), Lib.hid ((Below.refl _ _).alloc (Nat.le_refl _) _)⟩
        case round =>
          obtain ⟨m, j, rfl, rfl, hj, hm, HM, HX, HW⟩ := hrel
          have d3 : wr.cell? ⟨w.heap.size, 3, none⟩ = some (.slice A kids.length cap) := HX.out.cell 3
          by_cases hlt : j < kids.length
          · obtain ⟨⟨k', num', key', kids'⟩, hx⟩ : ∃ x, Hid (kids[j]? = some x) := ⟨_, Lib.hid (List.getElem?_eq_getElem hlt)⟩
            obtain ⟨g, o, A', cap', rfl, hg, c0, c1, c2, c3, hN⟩ := HK.out j k' num' key' kids' hx.out
            have hgw : g < w.heap.size := Nat.lt_of_lt_of_le hg hB
            have d4 := (HW.out.cell (p := ⟨g, o + j * 4, none⟩) hgw).trans c0
            have d5 := (HW.out.cell (p := ⟨g, o + j * 4 + 1, none⟩) hgw).trans c1
            have d6 := (HW.out.cell (p := ⟨g, o + j * 4 + 2, none⟩) hgw).trans c2
            have d7 := (HW.out.cell (p := ⟨g, o + j * 4 + 3, none⟩) hgw).trans c3
            have HT := Lib.hid (szs_take (sz n) hx.out)
            have HL := Lib.hid (szs_le (sz n) kids (j + 1))
            have HN := Lib.hid ((hN.mono hB).below HW.out)
            have j0 : (0 : Int) ≤ j := by omega
            have j1 : (j : Int) < kids.length := by omega
            clear c0 c1 c2 c3 hN
            by_cases h3 : m + 64 ≤ b
            · obtain ⟨q, hq⟩ : ∃ q : Nat, m + 64 + q = b := ⟨b - (m + 64), by omega⟩
              obtain ⟨r, hr⟩ : ∃ r, Hid (r = min (sz n (.mk k' num' key' kids')) (q + 1)) := ⟨_, Lib.hid rfl⟩
              have hc := Lib.hid (IH.out (.mk k' num' key' kids') _ q w.heap.size wr HN.out HW.out.size (by omega))
              rw [← hr.out, show ((q : Nat) : Int) = (b : Int) - ((m : Int) + 64) by omega] at hc
              have hrq : r ≤ q + 1 := by rw [hr.out]; exact Nat.min_le_right _ _
              have i3 : ¬ ((b : Int) < (m : Int) + 64) := by omega
              go_wp2_with fail
              with_reducible refine (hc.out).mono ?_
              rintro e1 w1 ⟨rfl, hb1⟩
              have HX1 := Lib.hid (HX.out.below hb1 HX.out.lt)
              have HW1 := Lib.hid (HW.out.trans (hb1.mono HW.out.size))
              clear hb1 d3 d4 d5 d6 d7
              by_cases h4 : r ≤ q
              · have i4 : ¬ ((b : Int) < (m : Int) + 64 + (r : Int)) := by omega
                go_wp2_with fail
                go_roundw
                case rel => exact ⟨m + 64 + r, j + 1, by go_num, by go_num, by omega, by omega, Lib.hid (by rw [HT.out]; have := HM.out; have := hr.out; omega), HX1, HW1⟩
                case measure => simp [intOf]; omega
              · have i4 : ((b : Int) < (m : Int) + 64 + (r : Int)) := by omega
                go_wp2_with fail
                go_ret
                exact ⟨ret_int8 (by rw [hR.out]; have := HT.out; have := HL.out; have := HM.out; have := hr.out; omega), HW1.out⟩
            · have i3 : ((b : Int) < (m : Int) + 64) := by omega
              go_wp2_with fail
              go_ret
              exact ⟨ret_int8 (by rw [hR.out]; have := HT.out; have := HL.out; have := HM.out; omega), HW.out⟩
          · obtain rfl : j = kids.length := by omega
            go_wp2_with fail
            go_ret
            exact ⟨ret_int8 (by rw [hR.out]; have := HM.out; rw [List.take_length] at this; omega), HW.out⟩
      · have i1 : ¬ ((b : Int) < (num.size : Int)) := by omega
        have i2 : ((b : Int) < (num.size : Int) + (key.size : Int)) := by omega
        go_enter Tryd.func13, Tryd.ntmps13
        go_wp2_with fail
        go_ret
        exact ⟨ret_int8 (by rw [hR.out]; omega), (Below.refl _ _).alloc (Nat.le_refl _) _⟩
    · have i1 : ((b : Int) < (num.size : Int)) := by omega
      go_enter Tryd.func13, Tryd.ntmps13
      go_wp2_with fail
      go_ret
      exact ⟨ret_int8 (by rw [hR.out]; omega), (Below.refl _ _).alloc (Nat.le_refl _) _⟩
end Go.Proofs.YtbjjcampiknnpaaDoor
