/- The laws' sum of a list's lengths; copies of what came in, nil or not. -/
import Derived.Deep.LoopGhost
import Derived.Test.YtooalmhelfaodaaDoorCln
namespace Go.Proofs.YtooalmhelfaodaaDoor
open Go.RowKit
set_option maxRecDepth 100000
set_option linter.unusedVariables false
theorem ret_int' {k : IntKind} {a b : Int} (h : a = b) : Ending.returned (.int k a) = .returned (.int k b) := by rw [h]
def tot (xs : List ByteArray) : Nat := (xs.map ByteArray.size).sum
theorem tot_take (xs : List ByteArray) (j : Nat) (s : ByteArray) (h : xs[j]? = some s) : tot (xs.take (j + 1)) = tot (xs.take j) + s.size := by
  unfold tot
  rw [List.take_add_one, h]
  simp
def Summed (xs : List ByteArray) (w : World) (e : Ending) (w' : World) : Prop := ∃ n : Nat, e = .returned (.int .i64 (n : Int)) ∧ w = w' ∧ (n ≤ 1048576 → n = 16 * xs.length + tot xs) ∧ n ≤ 281474977759232
set_option maxHeartbeats 2000000 in
theorem strsBytes63 (B : Nat) (A : Option Addr) (c : Nat) (xs : List ByteArray) (w : World) (hx : TxtRd w B A xs) (hB : B ≤ w.heap.size) (hn : xs.length ≤ 65536) (hs : ∀ s ∈ xs, s.size ≤ 281474976710656) :
    Calls Tryd.prog 38 #[.slice A xs.length c] w (Summed xs w) := by
  have HX := Lib.hid hx
  have HS := Lib.hid hs
  clear hx hs
  go_enter Tryd.func38, Tryd.ntmps38
  go_wp2_with fail
  go_loopg [3, 4] xs.length (fun gk nv iv wr => ∃ (j n : Nat), gk = xs.length - j ∧ j ≤ xs.length ∧ nv = .int .i64 n ∧ iv = .int .i64 j ∧ w = wr ∧ n = 16 * xs.length + tot (xs.take j) ∧ n ≤ 1048576)
  case atStart => exact ⟨0, 16 * xs.length, rfl, by omega, by go_num, rfl, rfl, by simp [tot], by omega⟩
  case round =>
    obtain ⟨j, n, rfl, hj, rfl, rfl, hw, hsum, hle⟩ := hrel
    subst hw
    by_cases hlt : j < xs.length
    · obtain ⟨g, o, rfl, hg, c1⟩ := HX.out j _ (List.getElem?_eq_getElem hlt)
      have hz := HS.out _ (List.getElem_mem hlt)
      have htk := tot_take xs j _ (List.getElem?_eq_getElem hlt)
      generalize xs[j] = s at *
      have hgl : g < w.heap.size := by omega
      have j0 : (0 : Int) ≤ j := by omega
      have j1 : (j : Int) < xs.length := by omega
      have HT := Lib.hid (show n + s.size = 16 * xs.length + tot (xs.take (j + 1)) by omega)
      clear hsum htk
      by_cases hb : n + s.size ≤ 1048576
      · have hb' : ¬ (1048576 : Int) < (n : Int) + (s.size : Int) := by omega
        go_wp2_with fail
        go_roundg (xs.length - (j + 1))
        case measure => omega
        case rel => exact ⟨j + 1, n + s.size, rfl, by omega, by go_num, by go_num, rfl, HT.out, hb⟩
      · have hb' : (1048576 : Int) < (n : Int) + (s.size : Int) := by omega
        go_wp2_with fail
        go_ret
        exact ⟨n + s.size, by first | rfl | (apply ret_int'; omega), rfl, fun e => absurd e hb, by omega⟩
    · have hjn : j = xs.length := by omega
      subst hjn
      rw [List.take_length] at hsum
      have HT := Lib.hid hsum
      clear hsum
      go_wp2_with fail
      go_ret
      exact ⟨n, rfl, rfl, fun _ => HT.out, by omega⟩
end Go.Proofs.YtooalmhelfaodaaDoor
