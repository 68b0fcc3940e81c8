/- n001_56: what the laws ask of the texts: some bool. -/
import Derived.Test.YtooalmhelfaodaaDoorIfA
import Derived.BigQuiet
import Derived.Deep.QuietTactic
import Derived.Deep.LoopGhost
namespace Go.Proofs.YtooalmhelfaodaaDoor
open Go.RowKit
set_option maxRecDepth 100000
set_option linter.unusedVariables false
set_option linter.unusedSimpArgs false
def SomeB (w : World) (e : Ending) (w' : World) : Prop := ∃ b : Bool, e = .returned (.bool b) ∧ w = w'
def SomeBB (w : World) (e : Ending) (w' : World) : Prop := ∃ b : Bool, e = .returned (.bool b) ∧ Below w.heap.size w w'
set_option maxHeartbeats 2000000 in
theorem identByte (c : Int) (w : World) : Calls Tryd.prog 82 #[.int .u8 c] w (SomeB w) := by
  go_enter Tryd.func82, Tryd.ntmps82
  go_wp2_with fail
  all_goals
    go_ret
    exact ⟨_, rfl, rfl⟩
set_option maxHeartbeats 2000000 in
theorem identTail (s : ByteArray) (w : World) (hs : s.size ≤ 1048576) : Calls Tryd.prog 73 #[.string s] w (SomeB w) := by
  have hi := Lib.hid fun c => identByte c w
  go_enter Tryd.func73, Tryd.ntmps73
  go_wp2_with fail
  go_loopg [3] s.size (fun gk i wr => ∃ j : Nat, gk = s.size - j ∧ i = .int .i64 j ∧ j ≤ s.size ∧ w = wr)
  case atStart => exact ⟨0, rfl, rfl, Nat.zero_le _, rfl⟩
  case round =>
    obtain ⟨j, rfl, rfl, hj, hw⟩ := hrel
    subst hw
    by_cases hlt : j < s.size
    · have i0 : (0 : Int) ≤ (j : Int) := by omega
      have i1 : (j : Int) < (s.size : Int) := by omega
      go_wp2_with fail
      with_reducible refine (hi.out _).mono ?_
      rintro e1 w1 ⟨b, rfl, rfl⟩
      cases b with
      | false =>
        go_wp2_with fail
        go_ret
        exact ⟨_, rfl, rfl⟩
      | true =>
        go_wp2_with fail
        go_roundg (s.size - (j + 1))
        case measure => omega
        case rel => exact ⟨j + 1, rfl, by go_num, by omega, rfl⟩
    · go_wp2_with fail
      go_ret
      exact ⟨_, rfl, rfl⟩
set_option maxHeartbeats 4000000 in
theorem numberText (s : ByteArray) (w : World) (hs : s.size ≤ 1048576) : Calls Tryd.prog 72 #[.string s] w (SomeB w) := by
  by_cases h0 : s.size = 0
  · have hz : ((s.size : Int) == 0) = true := by rw [beq_iff_eq]; omega
    clear h0
    go_enter Tryd.func72, Tryd.ntmps72
    go_wp2_with fail
    go_ret
    exact ⟨_, rfl, rfl⟩
  · have hz : ((s.size : Int) == 0) = false := by rw [beq_eq_false_iff_ne]; omega
    have h0' : 0 < s.size := by omega
    obtain ⟨x, hx⟩ : ∃ x : Nat, Hid (s[0].toNat = x) := ⟨_, Lib.hid rfl⟩
    by_cases g1 : x < 48
    · have HX : Hid (decide ((s[0].toNat : Int) < 48) = true) := by rw [hx.out]; exact decide_eq_true (by omega)
      have q1 := HX.out
      clear h0 g1
      go_enter Tryd.func72, Tryd.ntmps72
      go_wp2_with fail
      go_ret
      exact ⟨_, rfl, rfl⟩
    · by_cases g2 : 57 < x
      · have HX : Hid (decide ((s[0].toNat : Int) < 48) = false ∧ decide ((57 : Int) < (s[0].toNat : Int)) = true) := by rw [hx.out]; exact ⟨decide_eq_false (by omega), decide_eq_true (by omega)⟩
        obtain ⟨q1, q2⟩ := HX.out
        clear h0 g1 g2
        go_enter Tryd.func72, Tryd.ntmps72
        go_wp2_with fail
        go_ret
        exact ⟨_, rfl, rfl⟩
      · have HX : Hid (decide ((s[0].toNat : Int) < 48) = false ∧ decide ((57 : Int) < (s[0].toNat : Int)) = false) := by rw [hx.out]; exact ⟨decide_eq_false (by omega), decide_eq_false (by omega)⟩
        obtain ⟨q1, q2⟩ := HX.out
        clear h0 g1 g2
        go_enter Tryd.func72, Tryd.ntmps72
        go_wp2_with fail
        clear q1 q2 hz
        go_loopg [3, 4] s.size (fun gk d i wr => ∃ (j n : Nat), gk = s.size - j ∧ i = .int .i64 j ∧ d = .int .i64 n ∧ n ≤ j ∧ j ≤ s.size ∧ w = wr)
        case atStart => exact ⟨0, 0, rfl, rfl, rfl, Nat.zero_le _, Nat.zero_le _, rfl⟩
        case round =>
          obtain ⟨j, n, rfl, rfl, rfl, hn, hj, hw⟩ := hrel
          subst hw
          by_cases hlt : j < s.size
          · have i0 : (0 : Int) ≤ (j : Int) := by omega
            have i1 : (j : Int) < (s.size : Int) := by omega
            obtain ⟨y, hy⟩ : ∃ y : Nat, Hid (s[j].toNat = y) := ⟨_, Lib.hid rfl⟩
            by_cases g3 : y = 46
            · have HY : Hid (((s[j].toNat : Int) == 46) = true) := by rw [hy.out]; exact beq_iff_eq.2 (by omega)
              have q3 := HY.out
              clear g3
              by_cases g4 : 1 ≤ n
              · go_wp2_with fail
                go_ret
                exact ⟨_, rfl, rfl⟩
              · go_wp2_with fail
                go_roundg (s.size - (j + 1))
                case measure => omega
                case rel => exact ⟨j + 1, n + 1, rfl, by go_num, by go_num, by omega, by omega, rfl⟩
            · by_cases g4 : y < 48
              · have HY : Hid (((s[j].toNat : Int) == 46) = false ∧ decide ((s[j].toNat : Int) < 48) = true) := by rw [hy.out]; exact ⟨by rw [beq_eq_false_iff_ne]; omega, decide_eq_true (by omega)⟩
                obtain ⟨q3, q4⟩ := HY.out
                clear g3 g4
                go_wp2_with fail
                go_ret
                exact ⟨_, rfl, rfl⟩
              · by_cases g5 : 57 < y
                · have HY : Hid (((s[j].toNat : Int) == 46) = false ∧ decide ((s[j].toNat : Int) < 48) = false ∧ decide ((57 : Int) < (s[j].toNat : Int)) = true) := by rw [hy.out]; exact ⟨by rw [beq_eq_false_iff_ne]; omega, decide_eq_false (by omega), decide_eq_true (by omega)⟩
                  obtain ⟨q3, q4, q5⟩ := HY.out
                  clear g3 g4 g5
                  go_wp2_with fail
                  go_ret
                  exact ⟨_, rfl, rfl⟩
                · have HY : Hid (((s[j].toNat : Int) == 46) = false ∧ decide ((s[j].toNat : Int) < 48) = false ∧ decide ((57 : Int) < (s[j].toNat : Int)) = false) := by rw [hy.out]; exact ⟨by rw [beq_eq_false_iff_ne]; omega, decide_eq_false (by omega), decide_eq_false (by omega)⟩
                  obtain ⟨q3, q4, q5⟩ := HY.out
                  clear g3 g4 g5
                  go_wp2_with fail
                  go_roundg (s.size - (j + 1))
                  case measure => omega
                  case rel => exact ⟨j + 1, n, rfl, by go_num, rfl, by omega, by omega, rfl⟩
          · go_wp2_with fail
            go_ret
            exact ⟨_, rfl, rfl⟩
set_option maxHeartbeats 4000000 in
theorem atomOut (k : Int) (s : ByteArray) (w : World) (hs : s.size ≤ 1048576) : Calls Tryd.prog 61 #[.agg #[.int .i64 k, .string s]] w (SomeBB w) := by
  have h1 := Lib.hid fun W => numberText s W hs
  have h2 := Lib.hid fun W => identTail s W hs
  have hb : Below w.heap.size w (w.alloc (.cells #[.int .i64 k, .string s] 45)) := (Below.refl _ _).alloc (Nat.le_refl _) _
  have HB := Lib.hid hb
  clear hb
  rcases (show k = 4 ∨ k = 8 ∨ k = 5 ∨ k = 6 ∨ k = 7 ∨ (k ≠ 4 ∧ k ≠ 8 ∧ k ≠ 5 ∧ k ≠ 6 ∧ k ≠ 7) by omega) with rfl | rfl | rfl | rfl | rfl | ⟨g1, g2, g3, g4, g5⟩
  · go_enter Tryd.func61, Tryd.ntmps61
    go_wp2_with fail
    with_reducible refine (h1.out _).mono ?_
    rintro e1 w1 ⟨b, rfl, rfl⟩
    cases b <;> (go_wp2_with fail; go_ret; exact ⟨_, rfl, HB.out⟩)
  · go_enter Tryd.func61, Tryd.ntmps61
    go_wp2_with fail
    with_reducible refine (h1.out _).mono ?_
    rintro e1 w1 ⟨b, rfl, rfl⟩
    cases b <;> (go_wp2_with fail; go_ret; exact ⟨_, rfl, HB.out⟩)
  · go_enter Tryd.func61, Tryd.ntmps61
    go_wp2_with fail
    with_reducible refine (h2.out _).mono ?_
    rintro e1 w1 ⟨b, rfl, rfl⟩
    cases b <;> (go_wp2_with fail; go_ret; exact ⟨_, rfl, HB.out⟩)
  · go_enter Tryd.func61, Tryd.ntmps61
    go_wp2_with fail
    with_reducible refine (h2.out _).mono ?_
    rintro e1 w1 ⟨b, rfl, rfl⟩
    cases b <;> (go_wp2_with fail; go_ret; exact ⟨_, rfl, HB.out⟩)
  · go_enter Tryd.func61, Tryd.ntmps61
    go_wp2_with fail
    with_reducible refine (h2.out _).mono ?_
    rintro e1 w1 ⟨b, rfl, rfl⟩
    cases b <;> (go_wp2_with fail; go_ret; exact ⟨_, rfl, HB.out⟩)
  · have c1 : (k == 4) = false := by rw [beq_eq_false_iff_ne]; exact g1
    have c2 : (k == 8) = false := by rw [beq_eq_false_iff_ne]; exact g2
    have c3 : (k == 5) = false := by rw [beq_eq_false_iff_ne]; exact g3
    have c4 : (k == 6) = false := by rw [beq_eq_false_iff_ne]; exact g4
    have c5 : (k == 7) = false := by rw [beq_eq_false_iff_ne]; exact g5
    clear g1 g2 g3 g4 g5
    go_enter Tryd.func61, Tryd.ntmps61
    go_wp2_with fail
    go_ret
    exact ⟨_, rfl, HB.out⟩
/-- a branch: two small queries -/
structure Br where
  k1 : Int
  s1 : ByteArray
  k2 : Int
  s2 : ByteArray
def C4 (w : World) (g p : Nat) (x : Br) : Prop := w.cell? ⟨g, p, none⟩ = some (.int .i64 x.k1) ∧ w.cell? ⟨g, p + 1, none⟩ = some (.string x.s1) ∧ w.cell? ⟨g, p + 2, none⟩ = some (.int .i64 x.k2) ∧ w.cell? ⟨g, p + 3, none⟩ = some (.string x.s2)
def BrsAt (w : World) (B : Nat) (A : Option Addr) (xs : List Br) : Prop := ∀ i x, xs[i]? = some x → ∃ g o, A = some ⟨g, o, none⟩ ∧ g < B ∧ C4 w g (o + i * 4) x
theorem C4.below {w w' : World} {B g p : Nat} {x : Br} (hb : Below B w w') (hg : g < B) (h : C4 w g p x) : C4 w' g p x := by
  obtain ⟨h0, h1, h2, h3⟩ := h
  exact ⟨(hb.cell (p := ⟨g, _, none⟩) hg).trans h0, (hb.cell (p := ⟨g, _, none⟩) hg).trans h1, (hb.cell (p := ⟨g, _, none⟩) hg).trans h2, (hb.cell (p := ⟨g, _, none⟩) hg).trans h3⟩
theorem BrsAt.below {w w' : World} {B : Nat} {A : Option Addr} {xs : List Br} (hb : Below B w w') (h : BrsAt w B A xs) : BrsAt w' B A xs := fun i x hx => by
  obtain ⟨g, o, h1, h2, h3⟩ := h i x hx
  exact ⟨g, o, h1, h2, h3.below hb h2⟩
theorem BrsAt.mono {w : World} {B B' : Nat} {A : Option Addr} {xs : List Br} (hB : B ≤ B') (h : BrsAt w B A xs) : BrsAt w B' A xs := fun i x hx => by
  obtain ⟨g, o, h1, h2, h3⟩ := h i x hx
  exact ⟨g, o, h1, Nat.lt_of_lt_of_le h2 hB, h3⟩
theorem BrsAt.up {w w' : World} {A : Option Addr} {xs : List Br} (h : BrsAt w w.heap.size A xs) (hb : Below w.heap.size w w') : BrsAt w' w'.heap.size A xs := (h.below hb).mono hb.size
def Br.le (x : Br) : Prop := x.s1.size ≤ 1048576 ∧ x.s2.size ≤ 1048576
end Go.Proofs.YtooalmhelfaodaaDoor
