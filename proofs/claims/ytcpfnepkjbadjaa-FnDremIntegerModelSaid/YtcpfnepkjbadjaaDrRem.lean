/- math.remainder, walked: one theorem a path, over abstract facts of its numbers. -/
import Derived.Test.YtcpfnepkjbadjaaDrMod
namespace Go.Proofs.Ytcpfnepkjbadjaa
open Ieee
open Go.ChangeShapes Go.WideShapes Go.ChangeAt Go.RowKit
set_option linter.unusedVariables false
/-- what the head of remainder wants of its two numbers: xa, ya are their absolute values -/
structure RemIn (xw yw xa ya : Nat) (sx sy : Bool) : Prop where
  hx : xw < 2 ^ 64
  hy : yw < 2 ^ 64
  nx : nanB xw = false
  ny : nanB yw = false
  ix : infB xw = false
  iy : infB yw = false
  zy : (FloatKind.f64.format.order yw 0 == some .eq) = false
  lx : (FloatKind.f64.format.order xw 0 == some .lt) = sx
  ly : (FloatKind.f64.format.order yw 0 == some .lt) = sy
  ex : sx = false → xa = xw
  ey : sy = false → ya = yw
  gx : sx = true → ∀ W : World, (Op.unary .neg (.float .f64 xw)).run Try.prog W = .ok (.float .f64 xa) W
  gy : sy = true → ∀ W : World, (Op.unary .neg (.float .f64 yw)).run Try.prog W = .ok (.float .f64 ya) W
/-- the answer: v, turned where x was negative -/
def Turn (sx : Bool) (v z : Nat) : Prop := (sx = false → z = v) ∧ (sx = true → ∀ W : World, (Op.unary .neg (.float .f64 v)).run Try.prog W = .ok (.float .f64 z) W)
set_option maxHeartbeats 1600000 in
theorem rem_eq (xw yw xa ya z : Nat) (sx sy : Bool) (w : World) (H : RemIn xw yw xa ya sx sy) (hT : Turn sx 0 z)
    (heq : (FloatKind.f64.format.order xa ya == some .eq) = true)
    : Calls Try.prog 41 #[.float .f64 xw, .float .f64 yw] w fun e w' => e = .returned (.float .f64 z) ∧ w = w' := by
  obtain ⟨hx, hy, nx, ny, ix, iy, zy, lx, ly, ex, ey, gx, gy⟩ := H
  obtain ⟨tF, tT⟩ := hT
  have i1 := isNaN_any xw w hx
  have i2 := isNaN_any yw w hy
  have i3 := isInf_any xw w hx
  have i4 := isInf_any yw w hy
  rw [nx] at i1
  rw [ny] at i2
  rw [ix] at i3
  rw [iy] at i4
  have a1 := Lib.hid i1
  have a2 := Lib.hid i2
  have a3 := Lib.hid i3
  have a4 := Lib.hid i4
  clear i1 i2 i3 i4 hx hy nx ny ix iy
  cases sx
  case' false =>
    have ex := ex rfl
    subst ex
    have tF := tF rfl
    subst tF
    clear gx tT
  case' true =>
    have gx := gx rfl
    have tT := tT rfl
    clear ex tF
  all_goals
    cases sy
    case' false =>
      have ey := ey rfl
      subst ey
      clear gy
    case' true =>
      have gy := gy rfl
      clear ey
    all_goals
      go_enter Try.func41, Try.ntmps41
      go_wp2_with (first | (go_at_call 36; (first | ((with_reducible refine (a1.out).mono ?_); rintro e w' ⟨rfl, rfl⟩) | ((with_reducible refine (a2.out).mono ?_); rintro e w' ⟨rfl, rfl⟩))) | (go_at_call 43; (first | ((with_reducible refine (a3.out).mono ?_); rintro e w' ⟨rfl, rfl⟩) | ((with_reducible refine (a4.out).mono ?_); rintro e w' ⟨rfl, rfl⟩))))
      go_ret
      exact ⟨rfl, rfl⟩
set_option maxHeartbeats 1600000 in
theorem rem_htA (xw yw xa ya y2 r d1 z : Nat) (sx sy : Bool) (w : World) (H : RemIn xw yw xa ya sx sy) (hT : Turn sx r z)
    (heq : (FloatKind.f64.format.order xa ya == some .eq) = false)
    (hhalf : (FloatKind.f64.format.order ya 9214364837600034815 == some .lt || FloatKind.f64.format.order ya 9214364837600034815 == some .eq) = true)
    (hyy : (∀ W : World, (binOp .add 22 (.float .f64 ya) (.float .f64 ya)).run Try.prog W = .ok (.float .f64 y2) W))
    (hmd : Calls Try.prog 46 #[.float .f64 xa, .float .f64 y2] w fun e w' => e = .returned (.float .f64 r) ∧ w = w')
    (htiny : (FloatKind.f64.format.order ya 9007199254740992 == some .lt) = true)
    (hd1 : (∀ W : World, (binOp .add 22 (.float .f64 r) (.float .f64 r)).run Try.prog W = .ok (.float .f64 d1) W))
    (ht1 : (FloatKind.f64.format.order d1 ya == some .gt) = false)
    : Calls Try.prog 41 #[.float .f64 xw, .float .f64 yw] w fun e w' => e = .returned (.float .f64 z) ∧ w = w' := by
  obtain ⟨hx, hy, nx, ny, ix, iy, zy, lx, ly, ex, ey, gx, gy⟩ := H
  obtain ⟨tF, tT⟩ := hT
  have i1 := isNaN_any xw w hx
  have i2 := isNaN_any yw w hy
  have i3 := isInf_any xw w hx
  have i4 := isInf_any yw w hy
  rw [nx] at i1
  rw [ny] at i2
  rw [ix] at i3
  rw [iy] at i4
  have a1 := Lib.hid i1
  have a2 := Lib.hid i2
  have a3 := Lib.hid i3
  have a4 := Lib.hid i4
  clear i1 i2 i3 i4 hx hy nx ny ix iy
  have hmod := Lib.hid hmd
  clear hmd
  cases sx
  case' false =>
    have ex := ex rfl
    subst ex
    have tF := tF rfl
    subst tF
    clear gx tT
  case' true =>
    have gx := gx rfl
    have tT := tT rfl
    clear ex tF
  all_goals
    cases sy
    case' false =>
      have ey := ey rfl
      subst ey
      clear gy
    case' true =>
      have gy := gy rfl
      clear ey
    all_goals
      go_enter Try.func41, Try.ntmps41
      go_wp2_with (first | (go_at_call 36; (first | ((with_reducible refine (a1.out).mono ?_); rintro e w' ⟨rfl, rfl⟩) | ((with_reducible refine (a2.out).mono ?_); rintro e w' ⟨rfl, rfl⟩))) | (go_at_call 43; (first | ((with_reducible refine (a3.out).mono ?_); rintro e w' ⟨rfl, rfl⟩) | ((with_reducible refine (a4.out).mono ?_); rintro e w' ⟨rfl, rfl⟩))) | (go_at_call 46; ((with_reducible refine (hmod.out).mono ?_); rintro e w' ⟨rfl, rfl⟩)))
      go_ret
      exact ⟨rfl, rfl⟩
set_option maxHeartbeats 1600000 in
theorem rem_htB (xw yw xa ya y2 r d1 v d2 z : Nat) (sx sy : Bool) (w : World) (H : RemIn xw yw xa ya sx sy) (hT : Turn sx v z)
    (heq : (FloatKind.f64.format.order xa ya == some .eq) = false)
    (hhalf : (FloatKind.f64.format.order ya 9214364837600034815 == some .lt || FloatKind.f64.format.order ya 9214364837600034815 == some .eq) = true)
    (hyy : (∀ W : World, (binOp .add 22 (.float .f64 ya) (.float .f64 ya)).run Try.prog W = .ok (.float .f64 y2) W))
    (hmd : Calls Try.prog 46 #[.float .f64 xa, .float .f64 y2] w fun e w' => e = .returned (.float .f64 r) ∧ w = w')
    (htiny : (FloatKind.f64.format.order ya 9007199254740992 == some .lt) = true)
    (hd1 : (∀ W : World, (binOp .add 22 (.float .f64 r) (.float .f64 r)).run Try.prog W = .ok (.float .f64 d1) W))
    (ht1 : (FloatKind.f64.format.order d1 ya == some .gt) = true)
    (hs1 : (∀ W : World, (binOp .sub 22 (.float .f64 r) (.float .f64 ya)).run Try.prog W = .ok (.float .f64 v) W))
    (hd2 : (∀ W : World, (binOp .add 22 (.float .f64 v) (.float .f64 v)).run Try.prog W = .ok (.float .f64 d2) W))
    (ht2 : (FloatKind.f64.format.order d2 ya == some .gt || FloatKind.f64.format.order d2 ya == some .eq) = false)
    : Calls Try.prog 41 #[.float .f64 xw, .float .f64 yw] w fun e w' => e = .returned (.float .f64 z) ∧ w = w' := by
  obtain ⟨hx, hy, nx, ny, ix, iy, zy, lx, ly, ex, ey, gx, gy⟩ := H
  obtain ⟨tF, tT⟩ := hT
  have i1 := isNaN_any xw w hx
  have i2 := isNaN_any yw w hy
  have i3 := isInf_any xw w hx
  have i4 := isInf_any yw w hy
  rw [nx] at i1
  rw [ny] at i2
  rw [ix] at i3
  rw [iy] at i4
  have a1 := Lib.hid i1
  have a2 := Lib.hid i2
  have a3 := Lib.hid i3
  have a4 := Lib.hid i4
  clear i1 i2 i3 i4 hx hy nx ny ix iy
  have hmod := Lib.hid hmd
  clear hmd
  cases sx
  case' false =>
    have ex := ex rfl
    subst ex
    have tF := tF rfl
    subst tF
    clear gx tT
  case' true =>
    have gx := gx rfl
    have tT := tT rfl
    clear ex tF
  all_goals
    cases sy
    case' false =>
      have ey := ey rfl
      subst ey
      clear gy
    case' true =>
      have gy := gy rfl
      clear ey
    all_goals
      go_enter Try.func41, Try.ntmps41
      go_wp2_with (first | (go_at_call 36; (first | ((with_reducible refine (a1.out).mono ?_); rintro e w' ⟨rfl, rfl⟩) | ((with_reducible refine (a2.out).mono ?_); rintro e w' ⟨rfl, rfl⟩))) | (go_at_call 43; (first | ((with_reducible refine (a3.out).mono ?_); rintro e w' ⟨rfl, rfl⟩) | ((with_reducible refine (a4.out).mono ?_); rintro e w' ⟨rfl, rfl⟩))) | (go_at_call 46; ((with_reducible refine (hmod.out).mono ?_); rintro e w' ⟨rfl, rfl⟩)))
      go_ret
      exact ⟨rfl, rfl⟩
set_option maxHeartbeats 1600000 in
theorem rem_htC (xw yw xa ya y2 r d1 v d2 u z : Nat) (sx sy : Bool) (w : World) (H : RemIn xw yw xa ya sx sy) (hT : Turn sx u z)
    (heq : (FloatKind.f64.format.order xa ya == some .eq) = false)
    (hhalf : (FloatKind.f64.format.order ya 9214364837600034815 == some .lt || FloatKind.f64.format.order ya 9214364837600034815 == some .eq) = true)
    (hyy : (∀ W : World, (binOp .add 22 (.float .f64 ya) (.float .f64 ya)).run Try.prog W = .ok (.float .f64 y2) W))
    (hmd : Calls Try.prog 46 #[.float .f64 xa, .float .f64 y2] w fun e w' => e = .returned (.float .f64 r) ∧ w = w')
    (htiny : (FloatKind.f64.format.order ya 9007199254740992 == some .lt) = true)
    (hd1 : (∀ W : World, (binOp .add 22 (.float .f64 r) (.float .f64 r)).run Try.prog W = .ok (.float .f64 d1) W))
    (ht1 : (FloatKind.f64.format.order d1 ya == some .gt) = true)
    (hs1 : (∀ W : World, (binOp .sub 22 (.float .f64 r) (.float .f64 ya)).run Try.prog W = .ok (.float .f64 v) W))
    (hd2 : (∀ W : World, (binOp .add 22 (.float .f64 v) (.float .f64 v)).run Try.prog W = .ok (.float .f64 d2) W))
    (ht2 : (FloatKind.f64.format.order d2 ya == some .gt || FloatKind.f64.format.order d2 ya == some .eq) = true)
    (hs2 : (∀ W : World, (binOp .sub 22 (.float .f64 v) (.float .f64 ya)).run Try.prog W = .ok (.float .f64 u) W))
    : Calls Try.prog 41 #[.float .f64 xw, .float .f64 yw] w fun e w' => e = .returned (.float .f64 z) ∧ w = w' := by
  obtain ⟨hx, hy, nx, ny, ix, iy, zy, lx, ly, ex, ey, gx, gy⟩ := H
  obtain ⟨tF, tT⟩ := hT
  have i1 := isNaN_any xw w hx
  have i2 := isNaN_any yw w hy
  have i3 := isInf_any xw w hx
  have i4 := isInf_any yw w hy
  rw [nx] at i1
  rw [ny] at i2
  rw [ix] at i3
  rw [iy] at i4
  have a1 := Lib.hid i1
  have a2 := Lib.hid i2
  have a3 := Lib.hid i3
  have a4 := Lib.hid i4
  clear i1 i2 i3 i4 hx hy nx ny ix iy
  have hmod := Lib.hid hmd
  clear hmd
  cases sx
  case' false =>
    have ex := ex rfl
    subst ex
    have tF := tF rfl
    subst tF
    clear gx tT
  case' true =>
    have gx := gx rfl
    have tT := tT rfl
    clear ex tF
  all_goals
    cases sy
    case' false =>
      have ey := ey rfl
      subst ey
      clear gy
    case' true =>
      have gy := gy rfl
      clear ey
    all_goals
      go_enter Try.func41, Try.ntmps41
      go_wp2_with (first | (go_at_call 36; (first | ((with_reducible refine (a1.out).mono ?_); rintro e w' ⟨rfl, rfl⟩) | ((with_reducible refine (a2.out).mono ?_); rintro e w' ⟨rfl, rfl⟩))) | (go_at_call 43; (first | ((with_reducible refine (a3.out).mono ?_); rintro e w' ⟨rfl, rfl⟩) | ((with_reducible refine (a4.out).mono ?_); rintro e w' ⟨rfl, rfl⟩))) | (go_at_call 46; ((with_reducible refine (hmod.out).mono ?_); rintro e w' ⟨rfl, rfl⟩)))
      go_ret
      exact ⟨rfl, rfl⟩
set_option maxHeartbeats 1600000 in
theorem rem_hnA (xw yw xa ya y2 r h z : Nat) (sx sy : Bool) (w : World) (H : RemIn xw yw xa ya sx sy) (hT : Turn sx r z)
    (heq : (FloatKind.f64.format.order xa ya == some .eq) = false)
    (hhalf : (FloatKind.f64.format.order ya 9214364837600034815 == some .lt || FloatKind.f64.format.order ya 9214364837600034815 == some .eq) = true)
    (hyy : (∀ W : World, (binOp .add 22 (.float .f64 ya) (.float .f64 ya)).run Try.prog W = .ok (.float .f64 y2) W))
    (hmd : Calls Try.prog 46 #[.float .f64 xa, .float .f64 y2] w fun e w' => e = .returned (.float .f64 r) ∧ w = w')
    (htiny : (FloatKind.f64.format.order ya 9007199254740992 == some .lt) = false)
    (hh : (∀ W : World, (binOp .mul 22 (.float .f64 4602678819172646912) (.float .f64 ya)).run Try.prog W = .ok (.float .f64 h) W))
    (ht1 : (FloatKind.f64.format.order r h == some .gt) = false)
    : Calls Try.prog 41 #[.float .f64 xw, .float .f64 yw] w fun e w' => e = .returned (.float .f64 z) ∧ w = w' := by
  obtain ⟨hx, hy, nx, ny, ix, iy, zy, lx, ly, ex, ey, gx, gy⟩ := H
  obtain ⟨tF, tT⟩ := hT
  have i1 := isNaN_any xw w hx
  have i2 := isNaN_any yw w hy
  have i3 := isInf_any xw w hx
  have i4 := isInf_any yw w hy
  rw [nx] at i1
  rw [ny] at i2
  rw [ix] at i3
  rw [iy] at i4
  have a1 := Lib.hid i1
  have a2 := Lib.hid i2
  have a3 := Lib.hid i3
  have a4 := Lib.hid i4
  clear i1 i2 i3 i4 hx hy nx ny ix iy
  have hmod := Lib.hid hmd
  clear hmd
  cases sx
  case' false =>
    have ex := ex rfl
    subst ex
    have tF := tF rfl
    subst tF
    clear gx tT
  case' true =>
    have gx := gx rfl
    have tT := tT rfl
    clear ex tF
  all_goals
    cases sy
    case' false =>
      have ey := ey rfl
      subst ey
      clear gy
    case' true =>
      have gy := gy rfl
      clear ey
    all_goals
      go_enter Try.func41, Try.ntmps41
      go_wp2_with (first | (go_at_call 36; (first | ((with_reducible refine (a1.out).mono ?_); rintro e w' ⟨rfl, rfl⟩) | ((with_reducible refine (a2.out).mono ?_); rintro e w' ⟨rfl, rfl⟩))) | (go_at_call 43; (first | ((with_reducible refine (a3.out).mono ?_); rintro e w' ⟨rfl, rfl⟩) | ((with_reducible refine (a4.out).mono ?_); rintro e w' ⟨rfl, rfl⟩))) | (go_at_call 46; ((with_reducible refine (hmod.out).mono ?_); rintro e w' ⟨rfl, rfl⟩)))
      go_ret
      exact ⟨rfl, rfl⟩
set_option maxHeartbeats 1600000 in
theorem rem_hnB (xw yw xa ya y2 r h v z : Nat) (sx sy : Bool) (w : World) (H : RemIn xw yw xa ya sx sy) (hT : Turn sx v z)
    (heq : (FloatKind.f64.format.order xa ya == some .eq) = false)
    (hhalf : (FloatKind.f64.format.order ya 9214364837600034815 == some .lt || FloatKind.f64.format.order ya 9214364837600034815 == some .eq) = true)
    (hyy : (∀ W : World, (binOp .add 22 (.float .f64 ya) (.float .f64 ya)).run Try.prog W = .ok (.float .f64 y2) W))
    (hmd : Calls Try.prog 46 #[.float .f64 xa, .float .f64 y2] w fun e w' => e = .returned (.float .f64 r) ∧ w = w')
    (htiny : (FloatKind.f64.format.order ya 9007199254740992 == some .lt) = false)
    (hh : (∀ W : World, (binOp .mul 22 (.float .f64 4602678819172646912) (.float .f64 ya)).run Try.prog W = .ok (.float .f64 h) W))
    (ht1 : (FloatKind.f64.format.order r h == some .gt) = true)
    (hs1 : (∀ W : World, (binOp .sub 22 (.float .f64 r) (.float .f64 ya)).run Try.prog W = .ok (.float .f64 v) W))
    (ht2 : (FloatKind.f64.format.order v h == some .gt || FloatKind.f64.format.order v h == some .eq) = false)
    : Calls Try.prog 41 #[.float .f64 xw, .float .f64 yw] w fun e w' => e = .returned (.float .f64 z) ∧ w = w' := by
  obtain ⟨hx, hy, nx, ny, ix, iy, zy, lx, ly, ex, ey, gx, gy⟩ := H
  obtain ⟨tF, tT⟩ := hT
  have i1 := isNaN_any xw w hx
  have i2 := isNaN_any yw w hy
  have i3 := isInf_any xw w hx
  have i4 := isInf_any yw w hy
  rw [nx] at i1
  rw [ny] at i2
  rw [ix] at i3
  rw [iy] at i4
  have a1 := Lib.hid i1
  have a2 := Lib.hid i2
  have a3 := Lib.hid i3
  have a4 := Lib.hid i4
  clear i1 i2 i3 i4 hx hy nx ny ix iy
  have hmod := Lib.hid hmd
  clear hmd
  cases sx
  case' false =>
    have ex := ex rfl
    subst ex
    have tF := tF rfl
    subst tF
    clear gx tT
  case' true =>
    have gx := gx rfl
    have tT := tT rfl
    clear ex tF
  all_goals
    cases sy
    case' false =>
      have ey := ey rfl
      subst ey
      clear gy
    case' true =>
      have gy := gy rfl
      clear ey
    all_goals
      go_enter Try.func41, Try.ntmps41
      go_wp2_with (first | (go_at_call 36; (first | ((with_reducible refine (a1.out).mono ?_); rintro e w' ⟨rfl, rfl⟩) | ((with_reducible refine (a2.out).mono ?_); rintro e w' ⟨rfl, rfl⟩))) | (go_at_call 43; (first | ((with_reducible refine (a3.out).mono ?_); rintro e w' ⟨rfl, rfl⟩) | ((with_reducible refine (a4.out).mono ?_); rintro e w' ⟨rfl, rfl⟩))) | (go_at_call 46; ((with_reducible refine (hmod.out).mono ?_); rintro e w' ⟨rfl, rfl⟩)))
      go_ret
      exact ⟨rfl, rfl⟩
set_option maxHeartbeats 1600000 in
theorem rem_hnC (xw yw xa ya y2 r h v u z : Nat) (sx sy : Bool) (w : World) (H : RemIn xw yw xa ya sx sy) (hT : Turn sx u z)
    (heq : (FloatKind.f64.format.order xa ya == some .eq) = false)
    (hhalf : (FloatKind.f64.format.order ya 9214364837600034815 == some .lt || FloatKind.f64.format.order ya 9214364837600034815 == some .eq) = true)
    (hyy : (∀ W : World, (binOp .add 22 (.float .f64 ya) (.float .f64 ya)).run Try.prog W = .ok (.float .f64 y2) W))
    (hmd : Calls Try.prog 46 #[.float .f64 xa, .float .f64 y2] w fun e w' => e = .returned (.float .f64 r) ∧ w = w')
    (htiny : (FloatKind.f64.format.order ya 9007199254740992 == some .lt) = false)
    (hh : (∀ W : World, (binOp .mul 22 (.float .f64 4602678819172646912) (.float .f64 ya)).run Try.prog W = .ok (.float .f64 h) W))
    (ht1 : (FloatKind.f64.format.order r h == some .gt) = true)
    (hs1 : (∀ W : World, (binOp .sub 22 (.float .f64 r) (.float .f64 ya)).run Try.prog W = .ok (.float .f64 v) W))
    (ht2 : (FloatKind.f64.format.order v h == some .gt || FloatKind.f64.format.order v h == some .eq) = true)
    (hs2 : (∀ W : World, (binOp .sub 22 (.float .f64 v) (.float .f64 ya)).run Try.prog W = .ok (.float .f64 u) W))
    : Calls Try.prog 41 #[.float .f64 xw, .float .f64 yw] w fun e w' => e = .returned (.float .f64 z) ∧ w = w' := by
  obtain ⟨hx, hy, nx, ny, ix, iy, zy, lx, ly, ex, ey, gx, gy⟩ := H
  obtain ⟨tF, tT⟩ := hT
  have i1 := isNaN_any xw w hx
  have i2 := isNaN_any yw w hy
  have i3 := isInf_any xw w hx
  have i4 := isInf_any yw w hy
  rw [nx] at i1
  rw [ny] at i2
  rw [ix] at i3
  rw [iy] at i4
  have a1 := Lib.hid i1
  have a2 := Lib.hid i2
  have a3 := Lib.hid i3
  have a4 := Lib.hid i4
  clear i1 i2 i3 i4 hx hy nx ny ix iy
  have hmod := Lib.hid hmd
  clear hmd
  cases sx
  case' false =>
    have ex := ex rfl
    subst ex
    have tF := tF rfl
    subst tF
    clear gx tT
  case' true =>
    have gx := gx rfl
    have tT := tT rfl
    clear ex tF
  all_goals
    cases sy
    case' false =>
      have ey := ey rfl
      subst ey
      clear gy
    case' true =>
      have gy := gy rfl
      clear ey
    all_goals
      go_enter Try.func41, Try.ntmps41
      go_wp2_with (first | (go_at_call 36; (first | ((with_reducible refine (a1.out).mono ?_); rintro e w' ⟨rfl, rfl⟩) | ((with_reducible refine (a2.out).mono ?_); rintro e w' ⟨rfl, rfl⟩))) | (go_at_call 43; (first | ((with_reducible refine (a3.out).mono ?_); rintro e w' ⟨rfl, rfl⟩) | ((with_reducible refine (a4.out).mono ?_); rintro e w' ⟨rfl, rfl⟩))) | (go_at_call 46; ((with_reducible refine (hmod.out).mono ?_); rintro e w' ⟨rfl, rfl⟩)))
      go_ret
      exact ⟨rfl, rfl⟩
set_option maxHeartbeats 1600000 in
theorem rem_bnA (xw yw xa ya h z : Nat) (sx sy : Bool) (w : World) (H : RemIn xw yw xa ya sx sy) (hT : Turn sx xa z)
    (heq : (FloatKind.f64.format.order xa ya == some .eq) = false)
    (hhalf : (FloatKind.f64.format.order ya 9214364837600034815 == some .lt || FloatKind.f64.format.order ya 9214364837600034815 == some .eq) = false)
    (htiny : (FloatKind.f64.format.order ya 9007199254740992 == some .lt) = false)
    (hh : (∀ W : World, (binOp .mul 22 (.float .f64 4602678819172646912) (.float .f64 ya)).run Try.prog W = .ok (.float .f64 h) W))
    (ht1 : (FloatKind.f64.format.order xa h == some .gt) = false)
    : Calls Try.prog 41 #[.float .f64 xw, .float .f64 yw] w fun e w' => e = .returned (.float .f64 z) ∧ w = w' := by
  obtain ⟨hx, hy, nx, ny, ix, iy, zy, lx, ly, ex, ey, gx, gy⟩ := H
  obtain ⟨tF, tT⟩ := hT
  have i1 := isNaN_any xw w hx
  have i2 := isNaN_any yw w hy
  have i3 := isInf_any xw w hx
  have i4 := isInf_any yw w hy
  rw [nx] at i1
  rw [ny] at i2
  rw [ix] at i3
  rw [iy] at i4
  have a1 := Lib.hid i1
  have a2 := Lib.hid i2
  have a3 := Lib.hid i3
  have a4 := Lib.hid i4
  clear i1 i2 i3 i4 hx hy nx ny ix iy
  cases sx
  case' false =>
    have ex := ex rfl
    subst ex
    have tF := tF rfl
    subst tF
    clear gx tT
  case' true =>
    have gx := gx rfl
    have tT := tT rfl
    clear ex tF
  all_goals
    cases sy
    case' false =>
      have ey := ey rfl
      subst ey
      clear gy
    case' true =>
      have gy := gy rfl
      clear ey
    all_goals
      go_enter Try.func41, Try.ntmps41
      go_wp2_with (first | (go_at_call 36; (first | ((with_reducible refine (a1.out).mono ?_); rintro e w' ⟨rfl, rfl⟩) | ((with_reducible refine (a2.out).mono ?_); rintro e w' ⟨rfl, rfl⟩))) | (go_at_call 43; (first | ((with_reducible refine (a3.out).mono ?_); rintro e w' ⟨rfl, rfl⟩) | ((with_reducible refine (a4.out).mono ?_); rintro e w' ⟨rfl, rfl⟩))))
      go_ret
      exact ⟨rfl, rfl⟩
set_option maxHeartbeats 1600000 in
theorem rem_bnB (xw yw xa ya h v z : Nat) (sx sy : Bool) (w : World) (H : RemIn xw yw xa ya sx sy) (hT : Turn sx v z)
    (heq : (FloatKind.f64.format.order xa ya == some .eq) = false)
    (hhalf : (FloatKind.f64.format.order ya 9214364837600034815 == some .lt || FloatKind.f64.format.order ya 9214364837600034815 == some .eq) = false)
    (htiny : (FloatKind.f64.format.order ya 9007199254740992 == some .lt) = false)
    (hh : (∀ W : World, (binOp .mul 22 (.float .f64 4602678819172646912) (.float .f64 ya)).run Try.prog W = .ok (.float .f64 h) W))
    (ht1 : (FloatKind.f64.format.order xa h == some .gt) = true)
    (hs1 : (∀ W : World, (binOp .sub 22 (.float .f64 xa) (.float .f64 ya)).run Try.prog W = .ok (.float .f64 v) W))
    (ht2 : (FloatKind.f64.format.order v h == some .gt || FloatKind.f64.format.order v h == some .eq) = false)
    : Calls Try.prog 41 #[.float .f64 xw, .float .f64 yw] w fun e w' => e = .returned (.float .f64 z) ∧ w = w' := by
  obtain ⟨hx, hy, nx, ny, ix, iy, zy, lx, ly, ex, ey, gx, gy⟩ := H
  obtain ⟨tF, tT⟩ := hT
  have i1 := isNaN_any xw w hx
  have i2 := isNaN_any yw w hy
  have i3 := isInf_any xw w hx
  have i4 := isInf_any yw w hy
  rw [nx] at i1
  rw [ny] at i2
  rw [ix] at i3
  rw [iy] at i4
  have a1 := Lib.hid i1
  have a2 := Lib.hid i2
  have a3 := Lib.hid i3
  have a4 := Lib.hid i4
  clear i1 i2 i3 i4 hx hy nx ny ix iy
  cases sx
  case' false =>
    have ex := ex rfl
    subst ex
    have tF := tF rfl
    subst tF
    clear gx tT
  case' true =>
    have gx := gx rfl
    have tT := tT rfl
    clear ex tF
  all_goals
    cases sy
    case' false =>
      have ey := ey rfl
      subst ey
      clear gy
    case' true =>
      have gy := gy rfl
      clear ey
    all_goals
      go_enter Try.func41, Try.ntmps41
      go_wp2_with (first | (go_at_call 36; (first | ((with_reducible refine (a1.out).mono ?_); rintro e w' ⟨rfl, rfl⟩) | ((with_reducible refine (a2.out).mono ?_); rintro e w' ⟨rfl, rfl⟩))) | (go_at_call 43; (first | ((with_reducible refine (a3.out).mono ?_); rintro e w' ⟨rfl, rfl⟩) | ((with_reducible refine (a4.out).mono ?_); rintro e w' ⟨rfl, rfl⟩))))
      go_ret
      exact ⟨rfl, rfl⟩
set_option maxHeartbeats 1600000 in
theorem rem_bnC (xw yw xa ya h v u z : Nat) (sx sy : Bool) (w : World) (H : RemIn xw yw xa ya sx sy) (hT : Turn sx u z)
    (heq : (FloatKind.f64.format.order xa ya == some .eq) = false)
    (hhalf : (FloatKind.f64.format.order ya 9214364837600034815 == some .lt || FloatKind.f64.format.order ya 9214364837600034815 == some .eq) = false)
    (htiny : (FloatKind.f64.format.order ya 9007199254740992 == some .lt) = false)
    (hh : (∀ W : World, (binOp .mul 22 (.float .f64 4602678819172646912) (.float .f64 ya)).run Try.prog W = .ok (.float .f64 h) W))
    (ht1 : (FloatKind.f64.format.order xa h == some .gt) = true)
    (hs1 : (∀ W : World, (binOp .sub 22 (.float .f64 xa) (.float .f64 ya)).run Try.prog W = .ok (.float .f64 v) W))
    (ht2 : (FloatKind.f64.format.order v h == some .gt || FloatKind.f64.format.order v h == some .eq) = true)
    (hs2 : (∀ W : World, (binOp .sub 22 (.float .f64 v) (.float .f64 ya)).run Try.prog W = .ok (.float .f64 u) W))
    : Calls Try.prog 41 #[.float .f64 xw, .float .f64 yw] w fun e w' => e = .returned (.float .f64 z) ∧ w = w' := by
  obtain ⟨hx, hy, nx, ny, ix, iy, zy, lx, ly, ex, ey, gx, gy⟩ := H
  obtain ⟨tF, tT⟩ := hT
  have i1 := isNaN_any xw w hx
  have i2 := isNaN_any yw w hy
  have i3 := isInf_any xw w hx
  have i4 := isInf_any yw w hy
  rw [nx] at i1
  rw [ny] at i2
  rw [ix] at i3
  rw [iy] at i4
  have a1 := Lib.hid i1
  have a2 := Lib.hid i2
  have a3 := Lib.hid i3
  have a4 := Lib.hid i4
  clear i1 i2 i3 i4 hx hy nx ny ix iy
  cases sx
  case' false =>
    have ex := ex rfl
    subst ex
    have tF := tF rfl
    subst tF
    clear gx tT
  case' true =>
    have gx := gx rfl
    have tT := tT rfl
    clear ex tF
  all_goals
    cases sy
    case' false =>
      have ey := ey rfl
      subst ey
      clear gy
    case' true =>
      have gy := gy rfl
      clear ey
    all_goals
      go_enter Try.func41, Try.ntmps41
      go_wp2_with (first | (go_at_call 36; (first | ((with_reducible refine (a1.out).mono ?_); rintro e w' ⟨rfl, rfl⟩) | ((with_reducible refine (a2.out).mono ?_); rintro e w' ⟨rfl, rfl⟩))) | (go_at_call 43; (first | ((with_reducible refine (a3.out).mono ?_); rintro e w' ⟨rfl, rfl⟩) | ((with_reducible refine (a4.out).mono ?_); rintro e w' ⟨rfl, rfl⟩))))
      go_ret
      exact ⟨rfl, rfl⟩
end Go.Proofs.Ytcpfnepkjbadjaa
