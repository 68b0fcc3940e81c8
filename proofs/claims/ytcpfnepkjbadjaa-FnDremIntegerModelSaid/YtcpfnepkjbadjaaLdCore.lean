/- What math.ldexp does on a finite number that is not zero: the walk. -/
import Derived.Test.YtcpfnepkjbadjaaLdWalks
namespace Go.Proofs.Ytcpfnepkjbadjaa
open Go.ChangeShapes Go.WideShapes Go.ChangeAt Go.RowKit
set_option linter.unusedVariables false
/-- what the walk of ldexp wants of its number and of what normalize hands back -/
structure Ldx (x y q E c0 : Nat) (e1 : Int) : Prop where
  hx : x < 2 ^ 64
  hy : y < 2 ^ 64
  hz : (FloatKind.f64.format.order x 0 == some .eq) = false
  hi : infB x = false
  hn : nanB x = false
  hN : ∀ w, Calls Try.prog 44 #[.float .f64 x] w fun e w' => e = .returned (.tuple #[.float .f64 y, .int .i64 e1]) ∧ w = w'
  he1 : -52 ≤ e1
  he2 : e1 ≤ 0
  hq : (y : Int) / 4503599627370496 = (q : Int)
  hq2 : q ≤ 4095
  hE : bits .and .i64 (q : Int) 2047 = (E : Int)
  hE1 : 1 ≤ E
  hE2 : E ≤ 2046
  hC : bits .andNot .u64 (y : Int) 9218868437227405312 = (c0 : Int)
set_option maxHeartbeats 400000 in
theorem ldexp_under (x y q E c0 : Nat) (e e1 : Int) (w : World) (H : Ldx x y q E c0 e1) (h1 : -200000 ≤ e) (h2 : e ≤ 200000) (hp : e + e1 + (E - 1023) < -1075) :
    Calls Try.prog 38 #[.float .f64 x, .int .i64 e] w fun e w' => e = .returned (.float .f64 (y / 2 ^ 63 * 2 ^ 63)) ∧ w = w' := by
  have fb := from_bits
  have tb := to_bits
  obtain ⟨hx, hy, hz, hi, hn, hN, he1, he2, hq, hq2, hE, hE1, hE2, hC⟩ := H
  have HN := Lib.hid hN
  have a1 := Lib.hid (isInf_any x w hx)
  have a2 := Lib.hid (isNaN_any x w hx)
  have a3 := copysign_any 0 y w (by omega) hy
  rw [show (0 : Nat) % 2 ^ 63 = 0 by rfl, Nat.add_zero] at a3
  have A3 := Lib.hid a3
  generalize y / 2 ^ 63 * 2 ^ 63 = z at A3 ⊢
  clear hN hC hx hy a3
  go_enter Try.func38, Try.ntmps38
  go_wp2_with (first | (go_at_call 43; ((with_reducible refine (a1.out).mono ?_); rintro e w' ⟨rfl, rfl⟩)) | (go_at_call 36; ((with_reducible refine (a2.out).mono ?_); rintro e w' ⟨rfl, rfl⟩)) | (go_at_call 44; ((with_reducible refine (HN.out _).mono ?_); rintro e w' ⟨rfl, rfl⟩)) | (go_at_call 35; ((with_reducible refine (A3.out).mono ?_); rintro e w' ⟨rfl, rfl⟩)))
  go_ret
  exact ⟨rfl, rfl⟩
theorem inf_c (s : Int) (z : Nat) (w : World) (h : (s = 1 ∧ z = 9218868437227405312) ∨ (s = -1 ∧ z = 18442240474082181120)) : Calls Try.prog 33 #[.int .i64 s] w fun e w' => e = .returned (.float .f64 z) ∧ w = w' := by
  have fb := from_bits
  rcases h with ⟨rfl, rfl⟩ | ⟨rfl, rfl⟩
  all_goals
    go_enter Try.func33, Try.ntmps33
    go_wp2
    go_ret
    exact ⟨rfl, rfl⟩
set_option maxHeartbeats 400000 in
theorem ldexp_over (x y q E c0 z : Nat) (e e1 : Int) (w : World) (H : Ldx x y q E c0 e1) (h1 : -200000 ≤ e) (h2 : e ≤ 200000) (hp : 1023 < e + e1 + (E - 1023))
    (hs : ((FloatKind.f64.format.order y 0 == some .lt) = true ∧ z = 18442240474082181120) ∨ ((FloatKind.f64.format.order y 0 == some .lt) = false ∧ z = 9218868437227405312)) :
    Calls Try.prog 38 #[.float .f64 x, .int .i64 e] w fun e w' => e = .returned (.float .f64 z) ∧ w = w' := by
  have fb := from_bits
  have tb := to_bits
  obtain ⟨hx, hy, hz, hi, hn, hN, he1, he2, hq, hq2, hE, hE1, hE2, hC⟩ := H
  have HN := Lib.hid hN
  have a1 := Lib.hid (isInf_any x w hx)
  have a2 := Lib.hid (isNaN_any x w hx)
  clear hN hC hx hy
  rcases hs with ⟨hs, hz1⟩ | ⟨hs, hz1⟩
  · have a3 := Lib.hid (inf_c (-1) z w (.inr ⟨rfl, hz1⟩))
    clear hz1
    go_enter Try.func38, Try.ntmps38
    go_wp2_with (first | (go_at_call 43; ((with_reducible refine (a1.out).mono ?_); rintro e w' ⟨rfl, rfl⟩)) | (go_at_call 36; ((with_reducible refine (a2.out).mono ?_); rintro e w' ⟨rfl, rfl⟩)) | (go_at_call 44; ((with_reducible refine (HN.out _).mono ?_); rintro e w' ⟨rfl, rfl⟩)) | (go_at_call 33; ((with_reducible refine (a3.out).mono ?_); rintro e w' ⟨rfl, rfl⟩)))
    go_ret
    exact ⟨rfl, rfl⟩
  · have a3 := Lib.hid (inf_c 1 z w (.inl ⟨rfl, hz1⟩))
    clear hz1
    go_enter Try.func38, Try.ntmps38
    go_wp2_with (first | (go_at_call 43; ((with_reducible refine (a1.out).mono ?_); rintro e w' ⟨rfl, rfl⟩)) | (go_at_call 36; ((with_reducible refine (a2.out).mono ?_); rintro e w' ⟨rfl, rfl⟩)) | (go_at_call 44; ((with_reducible refine (HN.out _).mono ?_); rintro e w' ⟨rfl, rfl⟩)) | (go_at_call 33; ((with_reducible refine (a3.out).mono ?_); rintro e w' ⟨rfl, rfl⟩)))
    go_ret
    exact ⟨rfl, rfl⟩
set_option maxHeartbeats 400000 in
theorem ldexp_norm (x y q E c0 X z : Nat) (e e1 : Int) (w : World) (H : Ldx x y q E c0 e1) (h1 : -200000 ≤ e) (h2 : e ≤ 200000) (hp : -1022 ≤ e + e1 + (E - 1023)) (hp2 : e + e1 + (E - 1023) ≤ 1023)
    (hor : bits .or .u64 (c0 : Int) ((e + e1 + ((E : Int) - 1023) + 1023) * 4503599627370496) = (X : Int)) (hmul : (binOp .mul 22 (.float .f64 4607182418800017408) (.float .f64 X)).run Try.prog w = .ok (.float .f64 z) w) :
    Calls Try.prog 38 #[.float .f64 x, .int .i64 e] w fun e w' => e = .returned (.float .f64 z) ∧ w = w' := by
  have fb := from_bits
  have tb := to_bits
  obtain ⟨hx, hy, hz, hi, hn, hN, he1, he2, hq, hq2, hE, hE1, hE2, hC⟩ := H
  have HN := Lib.hid hN
  have a1 := Lib.hid (isInf_any x w hx)
  have a2 := Lib.hid (isNaN_any x w hx)
  clear hN hx hy
  go_enter Try.func38, Try.ntmps38
  go_wp2_with (first | (go_at_call 43; ((with_reducible refine (a1.out).mono ?_); rintro e w' ⟨rfl, rfl⟩)) | (go_at_call 36; ((with_reducible refine (a2.out).mono ?_); rintro e w' ⟨rfl, rfl⟩)) | (go_at_call 44; ((with_reducible refine (HN.out _).mono ?_); rintro e w' ⟨rfl, rfl⟩)))
  go_ret
  exact ⟨rfl, rfl⟩
set_option maxHeartbeats 400000 in
theorem ldexp_den (x y q E c0 X z : Nat) (e e1 : Int) (w : World) (H : Ldx x y q E c0 e1) (h1 : -200000 ≤ e) (h2 : e ≤ 200000) (hp : -1075 ≤ e + e1 + (E - 1023)) (hp2 : e + e1 + (E - 1023) < -1022)
    (hor : bits .or .u64 (c0 : Int) ((e + e1 + ((E : Int) - 1023) + 53 + 1023) * 4503599627370496) = (X : Int)) (hmul : (binOp .mul 22 (.float .f64 4368491638549381120) (.float .f64 X)).run Try.prog w = .ok (.float .f64 z) w) :
    Calls Try.prog 38 #[.float .f64 x, .int .i64 e] w fun e w' => e = .returned (.float .f64 z) ∧ w = w' := by
  have fb := from_bits
  have tb := to_bits
  obtain ⟨hx, hy, hz, hi, hn, hN, he1, he2, hq, hq2, hE, hE1, hE2, hC⟩ := H
  have HN := Lib.hid hN
  have a1 := Lib.hid (isInf_any x w hx)
  have a2 := Lib.hid (isNaN_any x w hx)
  clear hN hx hy
  go_enter Try.func38, Try.ntmps38
  go_wp2_with (first | (go_at_call 43; ((with_reducible refine (a1.out).mono ?_); rintro e w' ⟨rfl, rfl⟩)) | (go_at_call 36; ((with_reducible refine (a2.out).mono ?_); rintro e w' ⟨rfl, rfl⟩)) | (go_at_call 44; ((with_reducible refine (HN.out _).mono ?_); rintro e w' ⟨rfl, rfl⟩)))
  go_ret
  exact ⟨rfl, rfl⟩
theorem ldexp_zero (x : Nat) (e : Int) (w : World) (hz : (FloatKind.f64.format.order x 0 == some .eq) = true) :
    Calls Try.prog 38 #[.float .f64 x, .int .i64 e] w fun e w' => e = .returned (.float .f64 x) ∧ w = w' := by
  go_enter Try.func38, Try.ntmps38
  go_wp2_with fail
  go_ret
  exact ⟨rfl, rfl⟩
theorem ldexp_odd (x : Nat) (e : Int) (w : World) (hx : x < 2 ^ 64) (hz : (FloatKind.f64.format.order x 0 == some .eq) = false) (h : infB x = true ∨ nanB x = true) :
    Calls Try.prog 38 #[.float .f64 x, .int .i64 e] w fun e w' => e = .returned (.float .f64 x) ∧ w = w' := by
  have a1 := isInf_any x w hx
  have a2 := isNaN_any x w hx
  cases hi : infB x
  · have hn : nanB x = true := h.resolve_left (by rw [hi]; simp)
    rw [hi] at a1
    rw [hn] at a2
    have A1 := Lib.hid a1
    have A2 := Lib.hid a2
    clear a1 a2 h hi hn
    go_enter Try.func38, Try.ntmps38
    go_wp2_with (first | (go_at_call 43; ((with_reducible refine (A1.out).mono ?_); rintro e w' ⟨rfl, rfl⟩)) | (go_at_call 36; ((with_reducible refine (A2.out).mono ?_); rintro e w' ⟨rfl, rfl⟩)))
    go_ret
    exact ⟨rfl, rfl⟩
  · rw [hi] at a1
    have A1 := Lib.hid a1
    clear a1 a2 h hi
    go_enter Try.func38, Try.ntmps38
    go_wp2_with (go_at_call 43; ((with_reducible refine (A1.out).mono ?_); rintro e w' ⟨rfl, rfl⟩))
    go_ret
    exact ⟨rfl, rfl⟩
end Go.Proofs.Ytcpfnepkjbadjaa
