/- Slices of strings that are read; strsBytes, zzBytes and strArray. -/
import Derived.Test.YtbjjcampiknnpaaDoorArw
namespace Go.Proofs.YtbjjcampiknnpaaDoor
open Go.RowKit
set_option maxRecDepth 100000
set_option linter.unusedVariables false
set_option linter.unusedSimpArgs false
theorem set_at (arr : Array Value) (p : Nat) (v : Value) (h : p < arr.size) : (arr.setIfInBounds p v)[p]? = some v := by
  rw [Array.getElem?_setIfInBounds_self_of_lt h]
/-- a slice of one-cell elements below block B that reads as xs -/
def RdAt (w : World) (B : Nat) (A : Option Addr) (xs : List Value) : Prop := ∀ i v, xs[i]? = some v → ∃ g o, A = some ⟨g, o, none⟩ ∧ g < B ∧ w.cell? ⟨g, o + i, none⟩ = some v
theorem RdAt.below {w w' : World} {B : Nat} {A : Option Addr} {xs : List Value} (hb : Below B w w') (h : RdAt w B A xs) : RdAt w' B A xs := fun i x hx => by
  obtain ⟨g, o, h1, h2, h3⟩ := h i x hx
  exact ⟨g, o, h1, h2, (hb.cell (p := ⟨g, o + i, none⟩) h2).trans h3⟩
theorem RdAt.mono {w : World} {B B' : Nat} {A : Option Addr} {xs : List Value} (hB : B ≤ B') (h : RdAt w B A xs) : RdAt w B' A xs := fun i x hx => by
  obtain ⟨g, o, h1, h2, h3⟩ := h i x hx
  exact ⟨g, o, h1, Nat.lt_of_lt_of_le h2 hB, h3⟩
theorem lt_of_some {α : Type} {xs : List α} {i : Nat} {x : α} (hx : xs[i]? = some x) : i < xs.length := by
  rcases Nat.lt_or_ge i xs.length with hlt | hge
  · exact hlt
  · rw [List.getElem?_eq_none hge] at hx; cases hx
def SomeBool (Q : Prop) (w : World) (e : Ending) (w' : World) : Prop := ∃ b : Bool, e = .returned (.bool b) ∧ w = w' ∧ (b = true → Q)
theorem take_le {xs : List ByteArray} {j m : Nat} {s : ByteArray} (h : ∀ s ∈ xs.take j, s.size ≤ m) (hj : xs[j]? = some s) (hs : s.size ≤ m) : ∀ s ∈ xs.take (j + 1), s.size ≤ m := by
  rw [List.take_add_one, hj]
  intro x hx
  rcases List.mem_append.1 hx with h1 | h1
  · exact h x h1
  · simp at h1; subst h1; exact hs
theorem take_all {xs : List ByteArray} {j m : Nat} (hj : j = xs.length) (h : ∀ s ∈ xs.take j, s.size ≤ m) : ∀ s ∈ xs, s.size ≤ m := by
  subst hj
  rwa [List.take_length] at h
theorem str_at {xs : List ByteArray} {w : World} {B : Nat} {A : Option Addr} (h : RdAt w B A (xs.map Value.string)) {j : Nat} {s : ByteArray} (hs : xs[j]? = some s) : ∃ g o, A = some ⟨g, o, none⟩ ∧ g < B ∧ w.cell? ⟨g, o + j, none⟩ = some (.string s) :=
  h j _ (by rw [List.getElem?_map, hs]; rfl)
set_option maxHeartbeats 4000000 in
theorem strsB (B : Nat) (A : Option Addr) (c : Nat) (xs : List ByteArray) (w : World) (hx : RdAt w B A (xs.map Value.string)) (hz : ∀ s ∈ xs, s.size ≤ 1048576) (hB : B ≤ w.heap.size) (hn : xs.length ≤ 1048576) :
    Calls Tryd.prog 25 #[.slice A xs.length c] w fun e w' => ∃ n : Nat, e = .returned (.int .i64 n) ∧ n ≤ 4194304 ∧ w = w' := by
  have HX := Lib.hid hx
  have HZ := Lib.hid hz
  clear hx hz
  go_enter Tryd.func25, Tryd.ntmps25
  go_wp2_with fail
  go_loopg [3, 4] xs.length (fun gk nv iv wr => ∃ (j n : Nat), gk = xs.length - j ∧ j ≤ xs.length ∧ nv = .int .i64 n ∧ iv = .int .i64 j ∧ w = wr ∧ n ≤ 2097152)
  case atStart => exact ⟨0, 0, rfl, by omega, rfl, rfl, rfl, by omega⟩
  case round =>
    obtain ⟨j, n, rfl, hj, rfl, rfl, hw, hle⟩ := hrel
    subst hw
    by_cases hlt : j < xs.length
    · obtain ⟨g, o, rfl, hg, c1⟩ := str_at HX.out (List.getElem?_eq_getElem hlt)
      have hs := HZ.out _ (List.getElem_mem hlt)
      generalize xs[j] = s at *
      have hgl : g < w.heap.size := by omega
      have j0 : (0 : Int) ≤ j := by omega
      have j1 : (j : Int) < xs.length := by omega
      by_cases hb : n + (16 + s.size) ≤ 2097152
      · go_wp2_with fail
        go_roundg (xs.length - (j + 1))
        case measure => omega
        case rel => exact ⟨j + 1, n + (16 + s.size), rfl, by omega, by go_num, by go_num, rfl, hb⟩
      · go_wp2_with fail
        go_ret
        exact ⟨n + (16 + s.size), by go_num, by omega, rfl⟩
    · go_wp2_with fail
      go_ret
      exact ⟨n, rfl, by omega, rfl⟩
set_option maxHeartbeats 4000000 in
theorem zzb65 (B : Nat) (A0 A1 : Option Addr) (c0 c1 : Nat) (xs ys : List ByteArray) (w : World) (hx : RdAt w B A0 (xs.map Value.string)) (hy : RdAt w B A1 (ys.map Value.string)) (hB : B ≤ w.heap.size) :
    Calls Tryd.prog 24 #[.slice A0 xs.length c0, .slice A1 ys.length c1] w (SomeBool ((∀ s ∈ xs, s.size ≤ 1048576) ∧ (∀ s ∈ ys, s.size ≤ 1048576)) w) := by
  have HX := Lib.hid hx
  have HY := Lib.hid hy
  clear hx hy
  by_cases h2 : xs.length ≤ 1048576
  · go_enter Tryd.func24, Tryd.ntmps24
    go_wp2_with fail
    go_loopg [5, 6] xs.length (fun gk nv iv wr => ∃ (j n : Nat), gk = xs.length - j ∧ j ≤ xs.length ∧ nv = .int .i64 n ∧ iv = .int .i64 j ∧ w = wr ∧ n ≤ 1048576 ∧ Hid (∀ s ∈ xs.take j, s.size ≤ 1048576))
    case atStart => exact ⟨0, xs.length, rfl, by omega, by go_num, rfl, rfl, by omega, Lib.hid (by intro s hs; simp at hs)⟩
    case round =>
      obtain ⟨j, n, rfl, hj, rfl, rfl, hw, hle, HTK⟩ := hrel
      subst hw
      by_cases hlt : j < xs.length
      · obtain ⟨g, o, rfl, hg, c1⟩ := str_at HX.out (List.getElem?_eq_getElem hlt)
        have HG := Lib.hid (List.getElem?_eq_getElem hlt)
        generalize xs[j] = s at *
        have hgl : g < w.heap.size := by omega
        have j0 : (0 : Int) ≤ j := by omega
        have j1 : (j : Int) < xs.length := by omega
        by_cases hs : s.size ≤ 1048576
        · by_cases hb : n + s.size ≤ 1048576
          · go_wp2_with fail
            go_roundg (xs.length - (j + 1))
            case measure => omega
            case rel => exact ⟨j + 1, n + s.size, rfl, by omega, by go_num, by go_num, rfl, hb, take_le HTK.out HG.out hs⟩
          · go_wp2_with fail
            go_ret
            exact ⟨_, rfl, rfl, fun h => by cases h⟩
        · go_wp2_with fail
          go_ret
          exact ⟨_, rfl, rfl, fun h => by cases h⟩
      · have hjn : j = xs.length := by omega
        have HXF := Lib.hid (take_all hjn HTK.out)
        subst hjn
        by_cases h3 : ys.length ≤ 1048576
        · by_cases h4 : n + ys.length ≤ 1048576
          · go_wp2_with fail
            go_loopg [5, 7] ys.length (fun gk nv iv wr => ∃ (j n : Nat), gk = ys.length - j ∧ j ≤ ys.length ∧ nv = .int .i64 n ∧ iv = .int .i64 j ∧ w = wr ∧ n ≤ 1048576 ∧ Hid (∀ s ∈ ys.take j, s.size ≤ 1048576))
            case atStart => exact ⟨0, n + ys.length, rfl, by omega, by go_num, rfl, rfl, by omega, Lib.hid (by intro s hs; simp at hs)⟩
            case round =>
              obtain ⟨j, n, rfl, hj, rfl, rfl, hw, hle, HTK⟩ := hrel
              subst hw
              by_cases hlt : j < ys.length
              · obtain ⟨g, o, rfl, hg, c1⟩ := str_at HY.out (List.getElem?_eq_getElem hlt)
                have HG := Lib.hid (List.getElem?_eq_getElem hlt)
                generalize ys[j] = s at *
                have hgl : g < w.heap.size := by omega
                have j0 : (0 : Int) ≤ j := by omega
                have j1 : (j : Int) < ys.length := by omega
                by_cases hs : s.size ≤ 1048576
                · by_cases hb : n + s.size ≤ 1048576
                  · go_wp2_with fail
                    go_roundg (ys.length - (j + 1))
                    case measure => omega
                    case rel => exact ⟨j + 1, n + s.size, rfl, by omega, by go_num, by go_num, rfl, hb, take_le HTK.out HG.out hs⟩
                  · go_wp2_with fail
                    go_ret
                    exact ⟨_, rfl, rfl, fun h => by cases h⟩
                · go_wp2_with fail
                  go_ret
                  exact ⟨_, rfl, rfl, fun h => by cases h⟩
              · have hjn : j = ys.length := by omega
                have HYF := Lib.hid (take_all hjn HTK.out)
                subst hjn
                go_wp2_with fail
                go_ret
                exact ⟨_, rfl, rfl, fun _ => ⟨HXF.out, HYF.out⟩⟩
          · go_wp2_with fail
            go_ret
            exact ⟨_, rfl, rfl, fun h => by cases h⟩
        · go_wp2_with fail
          go_ret
          exact ⟨_, rfl, rfl, fun h => by cases h⟩
  · go_enter Tryd.func24, Tryd.ntmps24
    go_wp2_with fail
    all_goals
      go_ret
      exact ⟨_, rfl, rfl, fun h => by cases h⟩
end Go.Proofs.YtbjjcampiknnpaaDoor
