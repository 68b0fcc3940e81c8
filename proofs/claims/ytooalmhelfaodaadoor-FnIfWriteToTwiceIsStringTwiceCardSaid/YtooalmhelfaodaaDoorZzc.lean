/- The bound that stands ahead of a law on chains: some bool. -/
import Derived.Test.YtooalmhelfaodaaDoorStb
namespace Go.Proofs.YtooalmhelfaodaaDoor
open Go.RowKit
set_option maxRecDepth 100000
set_option linter.unusedVariables false
def SomeBool (Q : Prop) (w : World) (e : Ending) (w' : World) : Prop := ∃ b : Bool, e = .returned (.bool b) ∧ w = w' ∧ (b = true → Q)
theorem take_le {xs : List ByteArray} {j m : Nat} {s : ByteArray} (h : ∀ s ∈ xs.take j, s.size ≤ m) (hj : xs[j]? = some s) (hs : s.size ≤ m) : ∀ s ∈ xs.take (j + 1), s.size ≤ m := by
  rw [List.take_add_one, hj]
  intro x hx
  rcases List.mem_append.1 hx with h1 | h1
  · exact h x h1
  · simp at h1; subst h1; exact hs
theorem take_all {xs : List ByteArray} {j m : Nat} (hj : j = xs.length) (h : ∀ s ∈ xs.take j, s.size ≤ m) : ∀ s ∈ xs, s.size ≤ m := by
  subst hj
  rwa [List.take_length] at h
set_option maxHeartbeats 4000000 in
theorem zzb63 (B : Nat) (A0 A1 A2 A3 : Option Addr) (n0 n1 c0 c1 c2 c3 : Nat) (xs ys : List ByteArray) (w : World) (hx : TxtRd w B A2 xs) (hy : TxtRd w B A3 ys) (hB : B ≤ w.heap.size) :
    Calls Tryd.prog 37 #[.slice A0 n0 c0, .slice A1 n1 c1, .slice A2 xs.length c2, .slice A3 ys.length c3] w (SomeBool ((∀ s ∈ xs, s.size ≤ 1048576) ∧ (∀ s ∈ ys, s.size ≤ 1048576)) w) := by
  have HX := Lib.hid hx
  have HY := Lib.hid hy
  clear hx hy
  by_cases h0 : n0 ≤ 1048576
  · by_cases h1 : n1 ≤ 1048576
    · by_cases h01 : n0 + n1 ≤ 1048576
      · by_cases h2 : xs.length ≤ 1048576
        · by_cases h012 : n0 + n1 + xs.length ≤ 1048576
          · go_enter Tryd.func37, Tryd.ntmps37
            go_wp2_with fail
            go_loopg [9, 10] xs.length (fun gk nv iv wr => ∃ (j n : Nat), gk = xs.length - j ∧ j ≤ xs.length ∧ nv = .int .i64 n ∧ iv = .int .i64 j ∧ w = wr ∧ n ≤ 1048576 ∧ Hid (∀ s ∈ xs.take j, s.size ≤ 1048576))
            case atStart => exact ⟨0, n0 + n1 + xs.length, rfl, by omega, by go_num, rfl, rfl, by omega, Lib.hid (by intro s hs; simp at hs)⟩
            case round =>
              obtain ⟨j, n, rfl, hj, rfl, rfl, hw, hle, HTK⟩ := hrel
              subst hw
              by_cases hlt : j < xs.length
              · obtain ⟨g, o, rfl, hg, c1⟩ := HX.out j _ (List.getElem?_eq_getElem hlt)
                have HG := Lib.hid (List.getElem?_eq_getElem hlt)
                generalize xs[j] = s at *
                have hgl : g < w.heap.size := by omega
                have j0 : (0 : Int) ≤ j := by omega
                have j1 : (j : Int) < xs.length := by omega
                by_cases hs : s.size ≤ 1048576
                · by_cases hb : n + s.size ≤ 1048576
                  · go_wp2_with fail
                    go_roundg (xs.length - (j + 1))
                    case measure => omega
                    case rel => exact ⟨j + 1, n + s.size, rfl, by omega, by go_num, by go_num, rfl, hb, take_le HTK.out HG.out hs⟩
                  · go_wp2_with fail
                    go_ret
                    exact ⟨_, rfl, rfl, fun h => by cases h⟩
                · go_wp2_with fail
                  go_ret
                  exact ⟨_, rfl, rfl, fun h => by cases h⟩
              · have hjn : j = xs.length := by omega
                have HXF := Lib.hid (take_all hjn HTK.out)
                subst hjn
                by_cases h3 : ys.length ≤ 1048576
                · by_cases h4 : n + ys.length ≤ 1048576
                  · go_wp2_with fail
                    go_loopg [9, 11] ys.length (fun gk nv iv wr => ∃ (j n : Nat), gk = ys.length - j ∧ j ≤ ys.length ∧ nv = .int .i64 n ∧ iv = .int .i64 j ∧ w = wr ∧ n ≤ 1048576 ∧ Hid (∀ s ∈ ys.take j, s.size ≤ 1048576))
                    case atStart => exact ⟨0, n + ys.length, rfl, by omega, by go_num, rfl, rfl, by omega, Lib.hid (by intro s hs; simp at hs)⟩
                    case round =>
                      obtain ⟨j, n, rfl, hj, rfl, rfl, hw, hle, HTK⟩ := hrel
                      subst hw
                      by_cases hlt : j < ys.length
                      · obtain ⟨g, o, rfl, hg, c1⟩ := HY.out j _ (List.getElem?_eq_getElem hlt)
                        have HG := Lib.hid (List.getElem?_eq_getElem hlt)
                        generalize ys[j] = s at *
                        have hgl : g < w.heap.size := by omega
                        have j0 : (0 : Int) ≤ j := by omega
                        have j1 : (j : Int) < ys.length := by omega
                        by_cases hs : s.size ≤ 1048576
                        · by_cases hb : n + s.size ≤ 1048576
                          · go_wp2_with fail
                            go_roundg (ys.length - (j + 1))
                            case measure => omega
                            case rel => exact ⟨j + 1, n + s.size, rfl, by omega, by go_num, by go_num, rfl, hb, take_le HTK.out HG.out hs⟩
                          · go_wp2_with fail
                            go_ret
                            exact ⟨_, rfl, rfl, fun h => by cases h⟩
                        · go_wp2_with fail
                          go_ret
                          exact ⟨_, rfl, rfl, fun h => by cases h⟩
                      · have hjn : j = ys.length := by omega
                        have HYF := Lib.hid (take_all hjn HTK.out)
                        subst hjn
                        go_wp2_with fail
                        go_ret
                        exact ⟨_, rfl, rfl, fun _ => ⟨HXF.out, HYF.out⟩⟩
                  · go_wp2_with fail
                    go_ret
                    exact ⟨_, rfl, rfl, fun h => by cases h⟩
                · go_wp2_with fail
                  go_ret
                  exact ⟨_, rfl, rfl, fun h => by cases h⟩
            
          · go_enter Tryd.func37, Tryd.ntmps37
            go_wp2_with fail
            all_goals
              go_ret
              exact ⟨_, rfl, rfl, fun h => by cases h⟩
        · go_enter Tryd.func37, Tryd.ntmps37
          go_wp2_with fail
          all_goals
            go_ret
            exact ⟨_, rfl, rfl, fun h => by cases h⟩
      · go_enter Tryd.func37, Tryd.ntmps37
        go_wp2_with fail
        all_goals
          go_ret
          exact ⟨_, rfl, rfl, fun h => by cases h⟩
    · go_enter Tryd.func37, Tryd.ntmps37
      go_wp2_with fail
      all_goals
        go_ret
        exact ⟨_, rfl, rfl, fun h => by cases h⟩
  · go_enter Tryd.func37, Tryd.ntmps37
    go_wp2_with fail
    all_goals
      go_ret
      exact ⟨_, rfl, rfl, fun h => by cases h⟩
end Go.Proofs.YtooalmhelfaodaaDoor
