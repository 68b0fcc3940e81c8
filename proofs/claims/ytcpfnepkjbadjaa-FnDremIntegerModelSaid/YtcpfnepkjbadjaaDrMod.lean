/- math.Frexp and math.Mod on numbers that are not negative: walks and plain laws joined. -/
import Derived.Test.YtcpfnepkjbadjaaDrPlain
import Derived.Test.YtcpfnepkjbadjaaLdLaw2
import Derived.Deep.LoopGhost
namespace Go.Proofs.Ytcpfnepkjbadjaa
open Ieee
open Go.ChangeShapes Go.WideShapes Go.ChangeAt Go.RowKit
set_option linter.unusedVariables false
theorem fin_facts {r : Nat} (hr : r < double.infRung) : r < 2 ^ 64 ∧ r % 2 ^ 63 = r ∧ infB r = false ∧ nanB r = false := by
  have h3 : r < 2 ^ 63 := by rw [infRung_eq] at hr; omega
  have hm : r % 2 ^ 63 = r := Nat.mod_eq_of_lt h3
  refine ⟨by omega, hm, ?_, ?_⟩
  · unfold infB; rw [hm]; simp; omega
  · unfold nanB; rw [hm]; simp; omega
theorem frexp_core (x y q E c0 X : Nat) (e1 : Int) (w : World) (hx : x < 2 ^ 64) (hz : (FloatKind.f64.format.order x 0 == some .eq) = false) (hi : infB x = false) (hn : nanB x = false)
    (hN : ∀ w, Calls Try.prog 44 #[.float .f64 x] w fun e w' => e = .returned (.tuple #[.float .f64 y, .int .i64 e1]) ∧ w = w') (he1 : -52 ≤ e1) (he2 : e1 ≤ 0)
    (hq : (y : Int) / 4503599627370496 = (q : Int)) (hq2 : q ≤ 4095) (hE : bits .and .u64 (q : Int) 2047 = (E : Int)) (hE1 : 1 ≤ E) (hE2 : E ≤ 2046)
    (hC : bits .andNot .u64 (y : Int) 9218868437227405312 = (c0 : Int)) (hor : bits .or .u64 (c0 : Int) 4602678819172646912 = (X : Int)) :
    Calls Try.prog 52 #[.float .f64 x] w fun e w' => e = .returned (.tuple #[.float .f64 X, .int .i64 (e1 + ((E : Int) - 1023 + 1))]) ∧ w = w' := by
  have fb := from_bits
  have tb := to_bits
  have HN := Lib.hid hN
  have a1 := Lib.hid (isInf_any x w hx)
  have a2 := Lib.hid (isNaN_any x w hx)
  clear hN hx
  go_enter Try.func52, Try.ntmps52
  go_wp2_with (first | (go_at_call 43; ((with_reducible refine (a1.out).mono ?_); rintro e w' ⟨rfl, rfl⟩)) | (go_at_call 36; ((with_reducible refine (a2.out).mono ?_); rintro e w' ⟨rfl, rfl⟩)) | (go_at_call 44; ((with_reducible refine (HN.out _).mono ?_); rintro e w' ⟨rfl, rfl⟩)))
  go_ret2
  exact ⟨rfl, rfl⟩
theorem mask_bits_u (a : Nat) (ha : a < 18446744073709551616) : bits .and .u64 (a : Int) 2047 = ((a % 2048 : Nat) : Int) := by
  have h := u64_and_nat a 2047 ha (by omega)
  rw [show ((2047 : Nat) : Int) = 2047 by rfl] at h
  rw [h]
  have e := Nat.and_two_pow_sub_one_eq_mod a 11
  rw [show (2 : Nat) ^ 11 - 1 = 2047 by rfl, show (2 : Nat) ^ 11 = 2048 by rfl] at e
  rw [e]
/-- the digits and the place of a number that is not zero -/
def Frx (r f k : Nat) : Prop := f < 2 ^ 52 ∧ U r * 2 ^ 52 = (2 ^ 52 + f) * 2 ^ k ∧ ∀ w, Calls Try.prog 50 #[.float .f64 r] w fun e w' => e = .returned (.tuple #[.float .f64 (1022 * 2 ^ 52 + f), .int .i64 ((k : Int) - 1073)]) ∧ w = w'
theorem frexp_pos (r : Nat) (h0 : r ≠ 0) (hr : r < double.infRung) : ∃ f k, Frx r f k := by
  obtain ⟨r', e1, h1, h2, he1, he2, heq, hN⟩ := norm_ex false r h0 hr
  obtain ⟨E, f, hrE, hf, hE1, hE2, hU⟩ := norm_parts h1 h2
  have hp := parts_of r h0 hr r' e1 h1 h2 he1 he2 heq
  obtain ⟨hx, hm, hi, hn⟩ := fin_facts hr
  have hr3' : r' < 2 ^ 63 := by rw [infRung_eq] at h2; omega
  refine ⟨f, E - 1 + (52 + e1).toNat, hf, ?_, fun w => ?_⟩
  · have e : 2 ^ 52 = 2 ^ (-e1).toNat * 2 ^ (52 + e1).toNat := by rw [← Nat.pow_add]; congr 1; omega
    conv => lhs; rw [e]
    rw [← Nat.mul_assoc, hp, hU, Nat.mul_assoc, ← Nat.pow_add]
  · have hc := frexp_core r r' E E f (1022 * 2 ^ 52 + f) e1 w hx (zero_test hx (by rw [hm]; exact h0)) hi hn hN he1 he2 (by
        have : ((r' : Nat) : Int) / 4503599627370496 = ((r' / 2 ^ 52 : Nat) : Int) := by omega
        rw [this, show r' / 2 ^ 52 = E by omega]) (by omega) (by
        have := mask_bits_u E (by omega)
        rw [this, show E % 2048 = E by omega]) hE1 hE2 (by
        have := clear_bits (x := r') (by omega)
        rw [this, show r' / 2 ^ 63 = 0 by omega, show r' % 2 ^ 52 = f by omega, Nat.zero_mul, Nat.zero_add]) (by
        have := set_bits 0 1022 f (by omega) (by omega) hf
        rw [Nat.zero_mul, Nat.zero_add, Nat.zero_add] at this
        rw [← this]
        rfl)
    have hk : ((E - 1 + (52 + e1).toNat : Nat) : Int) - 1073 = e1 + ((E : Int) - 1023 + 1) := by omega
    rw [hk]
    have HC := Lib.hid hc
    clear hc hk
    generalize e1 + ((E : Int) - 1023 + 1) = z at HC ⊢
    generalize 1022 * 2 ^ 52 + f = X at HC ⊢
    go_enter Try.func50, Try.ntmps50
    go_wp2_with (go_at_call 52; ((with_reducible refine (HC.out).mono ?_); rintro e w' ⟨rfl, rfl⟩))
    go_ret2
    exact ⟨rfl, rfl⟩
/-- a finite word that is not negative -/
def Rung (n : Nat) (w : World) (e : Ending) (w' : World) : Prop := ∃ ρ, ρ < double.infRung ∧ U ρ = n ∧ e = .returned (.float .f64 ρ) ∧ w = w'
theorem half_lt (a b : Nat) (ha : a < 2 ^ 52) (hb : b < 2 ^ 52) : (FloatKind.f64.format.order (1022 * 2 ^ 52 + a) (1022 * 2 ^ 52 + b) == some .lt) = decide (a < b) := by
  have h1 : 1022 * 2 ^ 52 + a < double.infRung := by rw [infRung_eq]; omega
  have h2 : 1022 * 2 ^ 52 + b < double.infRung := by rw [infRung_eq]; omega
  rw [fmt_eq]
  rcases Nat.lt_trichotomy a b with h | h | h
  · rw [ordR_lt h1 h2 (U_mono (by omega) h2), decide_eq_true h]; rfl
  · subst h; rw [ordR_eq h1 h2 rfl, decide_eq_false (by omega)]; rfl
  · rw [ordR_gt h1 h2 (U_mono (by omega) h1), decide_eq_false (by omega)]; rfl
/-- one step of the division -/
theorem mod_step {ρ y fR kR fY kY : Nat} (hρ : ρ < double.infRung) (hy : y < double.infRung) (hy0 : y ≠ 0) (h : U y ≤ U ρ) (FR : Frx ρ fR kR) (FY : Frx y fY kY) (d : Nat) (e : Int)
    (hd : if fR < fY then kY + 1 ≤ kR → d = kR - kY - 1 ∧ e = (kR : Int) - kY - 1 else kY ≤ kR → d = kR - kY ∧ e = (kR : Int) - kY) :
    ∃ ζ ρ', ldW y e = ζ ∧ double.sub ρ ζ = some ρ' ∧ ρ' < double.infRung ∧ U ρ' = U ρ - U y * 2 ^ d ∧ U y * 2 ^ d ≤ U ρ := by
  obtain ⟨f1, p1, _⟩ := FR
  obtain ⟨f2, p2', _⟩ := FY
  have hs := step_ok (U ρ) (U y) (2 ^ 52 + fR) (2 ^ 52 + fY) kR kY p1 p2' (by omega) (by omega) (by omega) (by omega) h
  have key : e = d ∧ U y * 2 ^ d ≤ U ρ ∧ U ρ ≤ 2 * (U y * 2 ^ d) := by
    by_cases hc : fR < fY
    · rw [if_pos hc] at hd
      obtain ⟨c1, c2, c3⟩ := hs.2 (by omega)
      obtain ⟨rfl, rfl⟩ := hd c1
      exact ⟨by omega, c2, c3⟩
    · rw [if_neg hc] at hd
      obtain ⟨c1, c2, c3⟩ := hs.1 (by omega)
      obtain ⟨rfl, rfl⟩ := hd c1
      exact ⟨by omega, c2, c3⟩
  obtain ⟨rfl, k1, k2⟩ := key
  have hw := ldW_fin (s := false) hy (d : Int)
  rw [wd_f] at hw
  rw [rnE_up _ _ (by omega), Int.toNat_natCast, wd_f] at hw
  have ht : U y * 2 ^ d < TOP := by have := U_lt ρ hρ; omega
  obtain ⟨u1, u2⟩ := rep_back _ (rep_mul (k := d) (rep_U y)) ht
  have hr : Rep (U ρ - U y * 2 ^ d) := rep_sub (rep_U ρ) (rep_mul (rep_U y)) k1 (by omega)
  obtain ⟨ρ', s1, s2, s3⟩ := sub_pos hρ u2 (by rw [u1]; exact k1) (by rw [u1]; exact hr)
  exact ⟨_, ρ', hw, s1, s2, by rw [s3, u1], k1⟩
set_option maxHeartbeats 1600000 in
theorem mod_pos (x y : Nat) (w : World) (hx : x < double.infRung) (hy : y < double.infRung) (hy0 : y ≠ 0) :
    Calls Try.prog 49 #[.float .f64 x, .float .f64 y] w (Rung (U x % U y) w) := by
  obtain ⟨fY, kY, FY⟩ := frexp_pos y hy0 hy
  obtain ⟨x1, x2, x3, x4⟩ := fin_facts hx
  obtain ⟨y1, y2, y3, y4⟩ := fin_facts hy
  have hyz := zero_test y1 (by rw [y2]; exact hy0)
  have i1 := isInf_any x w x1
  have i2 := isNaN_any x w x1
  have i3 := isNaN_any y w y1
  have i4 := abs_any y w y1
  rw [x3] at i1
  rw [x4] at i2
  rw [y4] at i3
  rw [y2] at i4
  have I1 := Lib.hid i1
  have I2 := Lib.hid i2
  have I3 := Lib.hid i3
  have I4 := Lib.hid i4
  have I5 := Lib.hid (FY.2.2 w)
  have hneg : (FloatKind.f64.format.order x 0 == some .lt) = false := by
    rw [fmt_eq, ord_pos hx (by rw [infRung_eq]; omega)]
    rcases Nat.eq_zero_or_pos (U x) with h | h
    · rw [cmp_eq (by rw [h, U_zero])]; rfl
    · rw [cmp_gt (by rw [U_zero]; omega)]; rfl
  have HX := Lib.hid hx
  have HY := Lib.hid hy
  have HY0 := Lib.hid hy0
  have HFY := Lib.hid FY
  clear i1 i2 i3 i4 x1 x2 x3 x4 y1 y2 y3 y4 FY hx hy hy0
  obtain ⟨fy, hfy⟩ : ∃ fy, Hid (1022 * 2 ^ 52 + fY = fy) := ⟨_, Lib.hid rfl⟩
  rw [hfy.out] at I5
  go_enter Try.func49, Try.ntmps49
  go_wp2_with (first | (go_at_call 43; ((with_reducible refine (I1.out).mono ?_); rintro e w' ⟨rfl, rfl⟩)) | (go_at_call 36; (first | ((with_reducible refine (I2.out).mono ?_); rintro e w' ⟨rfl, rfl⟩) | ((with_reducible refine (I3.out).mono ?_); rintro e w' ⟨rfl, rfl⟩))) | (go_at_call 47; ((with_reducible refine (I4.out).mono ?_); rintro e w' ⟨rfl, rfl⟩)) | (go_at_call 50; ((with_reducible refine (I5.out).mono ?_); rintro e w' ⟨rfl, rfl⟩)))
  clear I1 I2 I3 I4 I5 hyz
  go_loopg [7] (U x) (fun gk r wr => ∃ ρ, gk = U ρ ∧ r = .float .f64 ρ ∧ ρ < double.infRung ∧ U ρ % U y = U x % U y ∧ wr = w)
  case atStart => exact ⟨x, rfl, rfl, HX.out, rfl, rfl⟩
  case round =>
    obtain ⟨ρ, rfl, rfl, hρ, hmod, rfl⟩ := hrel
    have HR := Lib.hid hρ
    have HM := Lib.hid hmod
    clear hρ hmod
    by_cases hle : U y ≤ U ρ
    · have hge : (FloatKind.f64.format.order ρ y == some .gt || FloatKind.f64.format.order ρ y == some .eq) = true := by
        rw [fmt_eq]
        rcases Nat.lt_or_ge (U y) (U ρ) with h | h
        · rw [ordR_gt HR.out HY.out h]; rfl
        · rw [ordR_eq HR.out HY.out (by omega)]; rfl
      have hρ0 : ρ ≠ 0 := by
        intro e
        have h1 := U_pos HY0.out HY.out
        rw [e, U_zero] at hle
        omega
      obtain ⟨fR, kR, FR⟩ := frexp_pos ρ hρ0 HR.out
      have J1 := FR.2.2 wr
      have hlt := half_lt fR fY FR.1 HFY.out.1
      have HFR := Lib.hid FR
      have HLE := Lib.hid hle
      clear hρ0 hle FR
      rw [hfy.out] at hlt
      obtain ⟨fr, hfr⟩ : ∃ fr, Hid (1022 * 2 ^ 52 + fR = fr) := ⟨_, Lib.hid rfl⟩
      rw [hfr.out] at hlt J1
      have J1 := Lib.hid J1
      have hU0 := Lib.hid (U_pos HY0.out HY.out)
      have bR : kR ≤ 3000 ∧ kY ≤ 3000 := by
        have big : ∀ r f k, r < double.infRung → U r * 2 ^ 52 = (2 ^ 52 + f) * 2 ^ k → k ≤ 3000 := by
          intro r f k hr h
          rcases Nat.lt_or_ge 3000 k with h1 | h1
          · exfalso
            have h2 := U_lt r hr
            have h3 : 2 ^ 52 * 2 ^ k ≤ U r * 2 ^ 52 := by rw [h]; exact Nat.mul_le_mul_right _ (by omega)
            have h4 : 2 ^ k ≤ U r := by
              rw [Nat.mul_comm] at h3
              exact Nat.le_of_mul_le_mul_right h3 (Nat.two_pow_pos 52)
            have h5 : TOP ≤ 2 ^ k := p2_mono (by omega)
            omega
          · exact h1
        exact ⟨big ρ fR kR HR.out HFR.out.2.1, big y fY kY HY.out HFY.out.2.1⟩
      obtain ⟨b1, b2⟩ := bR
      by_cases hc : fR < fY
      · rw [decide_eq_true hc] at hlt
        obtain ⟨ζ, ρ', z1, z2, z3, z4, z5⟩ := mod_step HR.out HY.out HY0.out HLE.out HFR.out HFY.out (kR - kY - 1) ((kR : Int) - 1073 - 1 - ((kY : Int) - 1073)) (by rw [if_pos hc]; intro _; exact ⟨rfl, by omega⟩)
        have J2 := Ldexp_any y ((kR : Int) - 1073 - 1 - ((kY : Int) - 1073)) wr (fin_facts HY.out).1 (by omega) (by omega)
        rw [z1] at J2
        have J2 := Lib.hid J2
        have hsub : ∀ W : World, (binOp .sub 22 (.float .f64 ρ) (.float .f64 ζ)).run Try.prog W = .ok (.float .f64 ρ') W := fun W => run_float_arith W .sub _ .f64 _ _ _ z2
        have Z := Lib.hid (And.intro z3 (And.intro z4 z5))
        clear z1 z2 z3 z4 z5 hc
        go_wp2_with (first | (go_at_call 50; ((with_reducible refine (J1.out).mono ?_); rintro e w' ⟨rfl, rfl⟩)) | (go_at_call 32; ((with_reducible refine (J2.out).mono ?_); rintro e w' ⟨rfl, rfl⟩)))
        go_roundg (U ρ')
        case measure =>
          have h1 := Z.out.2.1
          have h2 := Z.out.2.2
          have h3 : U y * 1 ≤ U y * 2 ^ (kR - kY - 1) := Nat.mul_le_mul_left _ (Nat.two_pow_pos _)
          have h4 := hU0.out
          omega
        case rel => exact ⟨ρ', rfl, rfl, Z.out.1, by rw [Z.out.2.1, step_mod _ _ _ Z.out.2.2]; exact HM.out, rfl⟩
      · rw [decide_eq_false hc] at hlt
        obtain ⟨ζ, ρ', z1, z2, z3, z4, z5⟩ := mod_step HR.out HY.out HY0.out HLE.out HFR.out HFY.out (kR - kY) ((kR : Int) - 1073 - ((kY : Int) - 1073)) (by rw [if_neg hc]; intro _; exact ⟨rfl, by omega⟩)
        have J2 := Ldexp_any y ((kR : Int) - 1073 - ((kY : Int) - 1073)) wr (fin_facts HY.out).1 (by omega) (by omega)
        rw [z1] at J2
        have J2 := Lib.hid J2
        have hsub : ∀ W : World, (binOp .sub 22 (.float .f64 ρ) (.float .f64 ζ)).run Try.prog W = .ok (.float .f64 ρ') W := fun W => run_float_arith W .sub _ .f64 _ _ _ z2
        have Z := Lib.hid (And.intro z3 (And.intro z4 z5))
        clear z1 z2 z3 z4 z5 hc
        go_wp2_with (first | (go_at_call 50; ((with_reducible refine (J1.out).mono ?_); rintro e w' ⟨rfl, rfl⟩)) | (go_at_call 32; ((with_reducible refine (J2.out).mono ?_); rintro e w' ⟨rfl, rfl⟩)))
        go_roundg (U ρ')
        case measure =>
          have h1 := Z.out.2.1
          have h2 := Z.out.2.2
          have h3 : U y * 1 ≤ U y * 2 ^ (kR - kY) := Nat.mul_le_mul_left _ (Nat.two_pow_pos _)
          have h4 := hU0.out
          omega
        case rel => exact ⟨ρ', rfl, rfl, Z.out.1, by rw [Z.out.2.1, step_mod _ _ _ Z.out.2.2]; exact HM.out, rfl⟩
    · have hge : (FloatKind.f64.format.order ρ y == some .gt || FloatKind.f64.format.order ρ y == some .eq) = false := by
        rw [fmt_eq, ordR_lt HR.out HY.out (by omega)]; rfl
      have HLE := Lib.hid hle
      clear hle
      go_wp2_with fail
      go_ret
      exact ⟨ρ, HR.out, by rw [← HM.out, Nat.mod_eq_of_lt (by have := HLE.out; omega)], rfl, rfl⟩
end Go.Proofs.Ytcpfnepkjbadjaa
