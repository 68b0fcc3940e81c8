/- funcDrem at every pair of numbers, and the laws' own tests: contracts. -/
import Derived.Test.YtcpfnepkjbadjaaDrFin
namespace Go.Proofs.Ytcpfnepkjbadjaa
open Ieee
open Go.ChangeShapes Go.WideShapes Go.ChangeAt Go.RowKit
set_option linter.unusedVariables false
theorem wdz (s : Bool) : wd s 0 / 2 ^ 63 * 2 ^ 63 = wd s 0 := by cases s <;> decide
theorem wdz_mod (s : Bool) : wd s 0 % 2 ^ 63 = 0 := by cases s <;> decide
/-- behind the remainder: a zero takes the first number's sign -/
theorem drem_of (x y z : Nat) (s : Bool) (w : World) (hx : x < 2 ^ 64) (hz : z < 2 ^ 64) (hs : x / 2 ^ 63 * 2 ^ 63 = wd s 0) (h : Calls Try.prog 41 #[.float .f64 x, .float .f64 y] w fun e w' => e = .returned (.float .f64 z) ∧ w = w') :
    Calls Try.prog 19 #[.float .f64 x, .float .f64 y] w fun e w' => e = .returned (.float .f64 (if z % 2 ^ 63 = 0 then wd s 0 else z)) ∧ w = w' := by
  have h1 : Calls Try.prog 34 #[.float .f64 x, .float .f64 y] w fun e w' => e = .returned (.float .f64 z) ∧ w = w' := by
    have hc := Lib.hid h
    clear h
    go_enter Try.func34, Try.ntmps34
    go_wp2_with (go_at_call 41; ((with_reducible refine (hc.out).mono ?_); rintro e w' ⟨rfl, rfl⟩))
    go_ret
    exact ⟨rfl, rfl⟩
  have h2 : Calls Try.prog 29 #[.float .f64 x, .float .f64 y] w fun e w' => e = .returned (.float .f64 (if z % 2 ^ 63 = 0 then wd s 0 else z)) ∧ w = w' := by
    have hc := Lib.hid h1
    clear h h1
    by_cases h0 : z % 2 ^ 63 = 0
    · have hq := zero_yes hz h0
      have cs := copysign_any z x w hz hx
      rw [h0, Nat.add_zero, hs] at cs
      rw [if_pos h0]
      have CS := Lib.hid cs
      clear cs h0 hs
      generalize wd s 0 = u at CS ⊢
      go_enter Try.func29, Try.ntmps29
      go_wp2_with (first | (go_at_call 34; ((with_reducible refine (hc.out).mono ?_); rintro e w' ⟨rfl, rfl⟩)) | (go_at_call 35; ((with_reducible refine (CS.out).mono ?_); rintro e w' ⟨rfl, rfl⟩)))
      go_ret
      exact ⟨rfl, rfl⟩
    · have hq := zero_test hz h0
      rw [if_neg h0]
      clear h0 hs
      go_enter Try.func29, Try.ntmps29
      go_wp2_with (go_at_call 34; ((with_reducible refine (hc.out).mono ?_); rintro e w' ⟨rfl, rfl⟩))
      go_ret
      exact ⟨rfl, rfl⟩
  have hc := Lib.hid h2
  clear h h1 h2 hs
  generalize (if z % 2 ^ 63 = 0 then wd s 0 else z) = u at hc ⊢
  go_enter Try.func19, Try.ntmps19
  go_wp2_with (go_at_call 29; ((with_reducible refine (hc.out).mono ?_); rintro e w' ⟨rfl, rfl⟩))
  go_ret
  exact ⟨rfl, rfl⟩
/-- the answer's word: its size n (in units) and its side t; a zero bears the sign sx -/
def DW (sx t : Bool) (n : Nat) : Nat := if n = 0 then wd sx 0 else wd (t ^^ sx) (rn n 0)
theorem sgn_div (s : Bool) (r : Nat) (h : r < double.infRung) : wd s r / 2 ^ 63 * 2 ^ 63 = wd s 0 := by
  rw [(wd_mod s r (lt63 h)).2]
  cases s <;> decide
theorem drem_fin (sx sy : Bool) (x y : Nat) (w : World) (hx : x < double.infRung) (hx0 : x ≠ 0) (hy : y < double.infRung) (hy0 : y ≠ 0) :
    Calls Try.prog 19 #[.float .f64 (wd sx x), .float .f64 (wd sy y)] w fun e w' => e = .returned (.float .f64 (DW sx (remT (U x) (U y)) (remN (U x) (U y)))) ∧ w = w' := by
  obtain ⟨ρ, h1, h2, h3⟩ := rem_any sx sy x y w hx hx0 hy hy0
  have h := drem_of (wd sx x) (wd sy y) (wd (remT (U x) (U y) ^^ sx) ρ) sx w (wd_lt _ _ (lt63 hx)) (wd_lt _ _ (lt63 h1)) (sgn_div sx x hx) h3
  rw [(wd_mod _ ρ (lt63 h1)).1] at h
  unfold DW
  rw [← h2]
  by_cases h0 : ρ = 0
  · rw [if_pos h0] at h
    rw [if_pos (by rw [h0]; rfl)]
    exact h
  · rw [if_neg h0] at h
    rw [if_neg (by have := U_pos h0 h1; omega), rn_U ρ h1]
    exact h
/-- zero behaves as a number without size -/
theorem zero_ord (s : Bool) {b : Nat} (hb : b < double.infRung) (h0 : b ≠ 0) : FloatKind.f64.format.order (wd s 0) b = some .lt := by
  have h := order_fin s false 0 b (by rw [infRung_eq]; omega) hb
  rw [wd_f] at h
  have hp := U_pos h0 hb
  rw [fmt_eq, h, cmp_lt (by unfold sn; rw [U_zero]; cases s <;> simp <;> omega)]
theorem zero_self (s : Bool) : FloatKind.f64.format.order (wd s 0) 0 = some .eq := by
  have h := order_fin s false 0 0 (by rw [infRung_eq]; omega) (by rw [infRung_eq]; omega)
  rw [wd_f] at h
  rw [fmt_eq, h, cmp_eq (by unfold sn; rw [U_zero]; cases s <;> simp)]
theorem zero_facts (s : Bool) : wd s 0 < 2 ^ 64 ∧ infB (wd s 0) = false ∧ nanB (wd s 0) = false := by
  refine ⟨wd_lt s 0 (by omega), ?_, ?_⟩
  · unfold infB; rw [wdz_mod, infRung_eq]; rfl
  · unfold nanB; rw [wdz_mod, infRung_eq]; rfl
theorem mod_zero (s : Bool) (y : Nat) (w : World) (hy : y < double.infRung) (hy0 : y ≠ 0) :
    Calls Try.prog 49 #[.float .f64 (wd s 0), .float .f64 y] w fun e w' => e = .returned (.float .f64 (wd s 0)) ∧ w = w' := by
  obtain ⟨fY, kY, FY⟩ := frexp_pos y hy0 hy
  obtain ⟨x1, x3, x4⟩ := zero_facts s
  obtain ⟨y1, y2, y3, y4⟩ := fin_facts hy
  have hyz := zero_test y1 (by rw [y2]; exact hy0)
  have i1 := isInf_any (wd s 0) w x1
  have i2 := isNaN_any (wd s 0) w x1
  have i3 := isNaN_any y w y1
  have i4 := abs_any y w y1
  rw [x3] at i1
  rw [x4] at i2
  rw [y4] at i3
  rw [y2] at i4
  have I1 := Lib.hid i1
  have I2 := Lib.hid i2
  have I3 := Lib.hid i3
  have I4 := Lib.hid i4
  have I5 := Lib.hid (FY.2.2 w)
  have hneg : (FloatKind.f64.format.order (wd s 0) 0 == some .lt) = false := by rw [zero_self]; rfl
  have hge : (FloatKind.f64.format.order (wd s 0) y == some .gt || FloatKind.f64.format.order (wd s 0) y == some .eq) = false := by rw [zero_ord s hy hy0]; rfl
  clear i1 i2 i3 i4 x1 x3 x4 y1 y2 y3 y4 FY hy hy0
  generalize wd s 0 = x at I1 I2 hneg hge ⊢
  obtain ⟨fy, hfy⟩ : ∃ fy, Hid (1022 * 2 ^ 52 + fY = fy) := ⟨_, Lib.hid rfl⟩
  rw [hfy.out] at I5
  go_enter Try.func49, Try.ntmps49
  go_wp2_with (first | (go_at_call 43; ((with_reducible refine (I1.out).mono ?_); rintro e w' ⟨rfl, rfl⟩)) | (go_at_call 36; (first | ((with_reducible refine (I2.out).mono ?_); rintro e w' ⟨rfl, rfl⟩) | ((with_reducible refine (I3.out).mono ?_); rintro e w' ⟨rfl, rfl⟩))) | (go_at_call 47; ((with_reducible refine (I4.out).mono ?_); rintro e w' ⟨rfl, rfl⟩)) | (go_at_call 50; ((with_reducible refine (I5.out).mono ?_); rintro e w' ⟨rfl, rfl⟩)))
  clear I1 I2 I3 I4 I5 hyz
  go_loopg [7] 0 (fun gk r wr => r = .float .f64 x ∧ wr = w)
  case atStart => exact ⟨rfl, rfl⟩
  case round =>
    obtain ⟨rfl, rfl⟩ := hrel
    go_wp2_with fail
    go_ret
    exact ⟨rfl, rfl⟩
theorem Mod_zero (s : Bool) (y : Nat) (w : World) (hy : y < double.infRung) (hy0 : y ≠ 0) :
    Calls Try.prog 46 #[.float .f64 (wd s 0), .float .f64 y] w fun e w' => e = .returned (.float .f64 (wd s 0)) ∧ w = w' := by
  have hc := Lib.hid (mod_zero s y w hy hy0)
  generalize wd s 0 = x at hc ⊢
  go_enter Try.func46, Try.ntmps46
  go_wp2_with (go_at_call 49; ((with_reducible refine (hc.out).mono ?_); rintro e w' ⟨rfl, rfl⟩))
  go_ret
  exact ⟨rfl, rfl⟩
theorem rem_zero (sx sy : Bool) (y : Nat) (w : World) (hy : y < double.infRung) (hy0 : y ≠ 0) :
    Calls Try.prog 41 #[.float .f64 (wd sx 0), .float .f64 (wd sy y)] w fun e w' => e = .returned (.float .f64 (wd sx 0)) ∧ w = w' := by
  obtain ⟨x1, x3, x4⟩ := zero_facts sx
  have K := rem_in false sy 1 y (by rw [infRung_eq]; omega) (by omega) hy hy0
  have H : RemIn (wd sx 0) (wd sy y) (wd sx 0) y false sy := ⟨x1, K.hy, x4, K.ny, x3, K.iy, K.zy, by rw [zero_self]; rfl, K.ly, fun _ => rfl, K.ey, (fun e => by cases e), K.gy⟩
  have hT : Turn false (wd sx 0) (wd sx 0) := ⟨fun _ => rfl, fun e => by cases e⟩
  have heq : (FloatKind.f64.format.order (wd sx 0) y == some .eq) = false := by rw [zero_ord sx hy hy0]; rfl
  have Y0 := U_pos hy0 hy
  by_cases hh : U y ≤ U 9214364837600034815
  · have hhalf : (FloatKind.f64.format.order y 9214364837600034815 == some .lt || FloatKind.f64.format.order y 9214364837600034815 == some .eq) = true := by rw [is_le hy hmax_lt, decide_eq_true hh]
    obtain ⟨y2, b1, b2, b3⟩ := add_self false hy (below_half hy hh)
    rw [wd_f, wd_f] at b1
    have hyy := fl_run .add (a := y) (b := y) b1
    have hy20 : y2 ≠ 0 := by rintro rfl; rw [U_zero] at b3; omega
    have hmd := Mod_zero sx y2 w b2 hy20
    by_cases ht : U y < U 9007199254740992
    · have htiny : (FloatKind.f64.format.order y 9007199254740992 == some .lt) = true := by rw [is_lt hy tiny_lt, decide_eq_true ht]
      have ha := add_fin sx sx 0 0 (by rw [infRung_eq]; omega) (by rw [infRung_eq]; omega)
      have hz : sn sx (U 0) + sn sx (U 0) = 0 := by rw [U_zero]; unfold sn; cases sx <;> simp
      rw [hz, if_pos rfl, Bool.and_self] at ha
      have hd1 := fl_run .add (a := wd sx 0) (b := wd sx 0) ha
      exact rem_htA _ _ _ y y2 (wd sx 0) _ _ false sy w H hT heq hhalf hyy hmd htiny hd1 (by
        show (FloatKind.f64.format.order (wd sx 0) y == some .gt) = false
        rw [zero_ord sx hy hy0]; rfl)
    · have htiny : (FloatKind.f64.format.order y 9007199254740992 == some .lt) = false := by rw [is_lt hy tiny_lt, decide_eq_false ht]
      have hyb : 2 * 2 ^ 52 ≤ y := by
        rcases Nat.lt_or_ge y (2 * 2 ^ 52) with h | h
        · exact absurd (U_mono (b := 9007199254740992) (by omega) tiny_lt) ht
        · exact h
      obtain ⟨hf, f1, f2, f3⟩ := half_of hy hyb
      have hh2 := fl_run .mul (a := 4602678819172646912) (b := y) f1
      have hf0 : hf ≠ 0 := by rintro rfl; rw [U_zero] at f3; omega
      exact rem_hnA _ _ _ y y2 (wd sx 0) hf _ false sy w H hT heq hhalf hyy hmd htiny hh2 (by rw [zero_ord sx f2 hf0]; rfl)
  · have hhalf : (FloatKind.f64.format.order y 9214364837600034815 == some .lt || FloatKind.f64.format.order y 9214364837600034815 == some .eq) = false := by rw [is_le hy hmax_lt, decide_eq_false hh]
    have htn : ¬ U y < U 9007199254740992 := by
      have : U 9007199254740992 ≤ U 9214364837600034815 := Nat.le_of_lt (U_mono (by omega) hmax_lt)
      omega
    have htiny : (FloatKind.f64.format.order y 9007199254740992 == some .lt) = false := by rw [is_lt hy tiny_lt, decide_eq_false htn]
    have hyb : 2 * 2 ^ 52 ≤ y := by
      rcases Nat.lt_or_ge y (2 * 2 ^ 52) with h | h
      · exact absurd (U_mono (b := 9007199254740992) (by omega) tiny_lt) htn
      · exact h
    obtain ⟨hf, f1, f2, f3⟩ := half_of hy hyb
    have hh2 := fl_run .mul (a := 4602678819172646912) (b := y) f1
    have hf0 : hf ≠ 0 := by rintro rfl; rw [U_zero] at f3; omega
    exact rem_bnA _ _ _ y hf _ false sy w H hT heq hhalf htiny hh2 (by rw [zero_ord sx f2 hf0]; rfl)
theorem drem_zero (sx sy : Bool) (y : Nat) (w : World) (hy : y < double.infRung) (hy0 : y ≠ 0) :
    Calls Try.prog 19 #[.float .f64 (wd sx 0), .float .f64 (wd sy y)] w fun e w' => e = .returned (.float .f64 (wd sx 0)) ∧ w = w' := by
  have h := drem_of (wd sx 0) (wd sy y) (wd sx 0) sx w (zero_facts sx).1 (zero_facts sx).1 (wdz sx) (rem_zero sx sy y w hy hy0)
  rw [if_pos (wdz_mod sx)] at h
  exact h
/-- at every finite first number and every finite second one that is not zero -/
theorem drem_all (sx sy : Bool) (x y : Nat) (w : World) (hx : x < double.infRung) (hy : y < double.infRung) (hy0 : y ≠ 0) :
    Calls Try.prog 19 #[.float .f64 (wd sx x), .float .f64 (wd sy y)] w fun e w' => e = .returned (.float .f64 (DW sx (remT (U x) (U y)) (remN (U x) (U y)))) ∧ w = w' := by
  by_cases h0 : x = 0
  · subst h0
    have hn : remN (U 0) (U y) = 0 := by
      unfold remN
      rw [U_zero, Nat.zero_mod, if_pos (by omega)]
    unfold DW
    rw [hn, if_pos rfl]
    exact drem_zero sx sy y w hy hy0
  · exact drem_fin sx sy x y w hx h0 hy hy0
end Go.Proofs.Ytcpfnepkjbadjaa
