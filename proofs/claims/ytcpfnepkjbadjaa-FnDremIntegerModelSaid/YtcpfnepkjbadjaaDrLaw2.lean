/- The walk of FnDremSpecialCasesAndBound: true at every pair of words. -/
import Derived.Test.YtcpfnepkjbadjaaDrLaw
import Derived.Test.YtcpfnepkjbadjaaFmm
namespace Go.Proofs.Ytcpfnepkjbadjaa
open Ieee
open Go.ChangeShapes Go.WideShapes Go.ChangeAt Go.RowKit
set_option linter.unusedVariables false
theorem negB_wd (s : Bool) (r : Nat) (h : r < double.infRung) : negB (wd s r) = s := by
  have m := (wd_mod s r (lt63 h)).1
  unfold negB nanB
  rw [m]
  have hd : decide (2 ^ 63 ≤ wd s r) = s := by
    show decide (2 ^ 63 ≤ (if s then 2 ^ 63 + r else r)) = s
    have := lt63 h
    cases s <;> simp <;> omega
  rw [hd]
  simp
  omega
theorem DW_neg (sx t : Bool) {n ρ : Nat} (h1 : ρ < double.infRung) (h2 : U ρ = n) : DW (!sx) t n = negW (DW sx t n) := by
  unfold DW
  by_cases h : n = 0
  · rw [if_pos h, if_pos h, wd_neg sx 0 (by omega)]
  · rw [if_neg h, if_neg h, ← h2, rn_U ρ h1, wd_neg _ ρ (lt63 h1)]
    congr 1
    cases t <;> cases sx <;> rfl
/-- what the law asks of the answer g of two finite numbers -/
structure Bnd (g : Nat) (sx : Bool) (b : Nat) : Prop where
  lt : g < 2 ^ 64
  nn : nanB g = false
  ab : ∃ v d, (∀ w, Calls Try.prog 23 #[.float .f64 g] w fun e w' => e = .returned (.float .f64 v) ∧ w = w') ∧ double.mul 4611686018427387904 v = some d ∧ (FloatKind.f64.format.order d b == some .lt || FloatKind.f64.format.order d b == some .eq) = true
  zr : ((FloatKind.f64.format.order g 0 == some .eq) = true ∧ negB g = sx) ∨ (FloatKind.f64.format.order g 0 == some .eq) = false
theorem bnd_of (sx t : Bool) (n ρ b : Nat) (h1 : ρ < double.infRung) (h2 : U ρ = n) (hb : b < double.infRung) (hb0 : b ≠ 0) (hn : 2 * n ≤ U b) : Bnd (DW sx t n) sx b := by
  have hbT := U_lt b hb
  obtain ⟨d, d1, d2, d3⟩ : ∃ d, rnE (U ρ) 1 = d ∧ d < double.infRung ∧ U d = 2 * n := by
    have hr : Rep (U ρ * 2) := by
      have := rep_mul (k := 1) (rep_U ρ)
      rwa [Nat.pow_one] at this
    obtain ⟨u1, u2⟩ := rep_back _ hr (by omega)
    refine ⟨_, rnE_up _ _ (by omega), ?_, ?_⟩
    · rw [show (1 : Int).toNat = 1 by rfl, Nat.pow_one]; exact u2
    · rw [show (1 : Int).toNat = 1 by rfl, Nat.pow_one, u1]; omega
  have hm := fun s => mul_pow' s ρ 1 h1 (by omega) (by omega)
  by_cases h : n = 0
  · have hρ : ρ = 0 := U_inj h1 (by rw [infRung_eq]; omega) (by rw [h2, h, U_zero])
    have e : DW sx t n = wd sx 0 := by unfold DW; rw [if_pos h]
    rw [e]
    obtain ⟨x1, x3, x4⟩ := zero_facts sx
    have hd0 : d = 0 := U_inj d2 (by rw [infRung_eq]; omega) (by rw [d3, h, U_zero])
    refine ⟨x1, x4, ⟨wd sx 0, wd sx 0, fun w => ?_, ?_, by rw [zero_ord sx hb hb0]; rfl⟩, .inl ⟨by rw [zero_self]; rfl, negB_wd sx 0 (by rw [infRung_eq]; omega)⟩⟩
    · have := abs_word sx 0 w (by rw [infRung_eq]; omega)
      rw [if_pos rfl] at this
      exact this
    · have := hm sx
      rw [d1, hd0, hρ] at this
      exact this
  · have hρ : ρ ≠ 0 := by rintro rfl; rw [U_zero] at h2; omega
    have e : DW sx t n = wd (t ^^ sx) ρ := by unfold DW; rw [if_neg h, ← h2, rn_U ρ h1]
    rw [e]
    have hl := wd_lt (t ^^ sx) ρ (lt63 h1)
    have m := (wd_mod (t ^^ sx) ρ (lt63 h1)).1
    refine ⟨hl, by unfold nanB; rw [m]; simp; omega, ⟨ρ, d, fun w => ?_, ?_, by rw [is_le d2 hb, decide_eq_true (by omega)]⟩, .inr (zero_test hl (by rw [m]; exact hρ))⟩
    · have := abs_word (t ^^ sx) ρ w h1
      rw [if_neg hρ] at this
      exact this
    · have := hm false
      rw [d1, wd_f, wd_f] at this
      exact this
theorem size_ex (a b : Nat) (ha : a < double.infRung) (hb : b < double.infRung) (hb0 : b ≠ 0) : ∃ ρ, ρ < double.infRung ∧ U ρ = remN (U a) (U b) := by
  by_cases h0 : a = 0
  · subst h0
    refine ⟨0, ha, ?_⟩
    unfold remN
    rw [U_zero, Nat.zero_mod, if_pos (by omega)]
  · obtain ⟨ρ, h1, h2, _⟩ := rem_any false false a b default ha h0 hb hb0
    exact ⟨ρ, h1, h2⟩
set_option maxHeartbeats 1600000 in
theorem sc_fin (sx sy : Bool) (a b : Nat) (w : World) (ha : a < double.infRung) (hb : b < double.infRung) (hb0 : b ≠ 0) :
    Calls Try.prog 8 #[.float .f64 (wd sx a), .float .f64 (wd sy b)] w fun e w' => e = .returned (.bool true) ∧ Below w.heap.size w w' := by
  obtain ⟨ρ, r1, r2⟩ := size_ex a b ha hb hb0
  have hx := wd_lt sx a (lt63 ha)
  have hy := wd_lt sy b (lt63 hb)
  have m1 := (wd_mod sx a (lt63 ha)).1
  have m2 := (wd_mod sy b (lt63 hb)).1
  have nx : nanB (wd sx a) = false := by unfold nanB; rw [m1]; simp; omega
  have ny : nanB (wd sy b) = false := by unfold nanB; rw [m2]; simp; omega
  have ix : infB (wd sx a) = false := by unfold infB; rw [m1]; simp; omega
  have iy : infB (wd sy b) = false := by unfold infB; rw [m2]; simp; omega
  have hN := remN_half (U a) (U b) (U_pos hb0 hb)
  have B := bnd_of sx (remT (U a) (U b)) (remN (U a) (U b)) ρ b r1 r2 hb hb0 hN
  have c1 := drem_all sx sy a b w ha hb hb0
  have c2 := drem_all sx (!sy) a b w ha hb hb0
  have c3 := drem_all (!sx) sy a b w ha hb hb0
  rw [DW_neg sx (remT (U a) (U b)) r1 r2] at c3
  have n1 := fun W => neg_run hx W
  have n2 := fun W => neg_run hy W
  rw [wd_neg sx a (lt63 ha)] at n1
  rw [wd_neg sy b (lt63 hb)] at n2
  generalize DW sx (remT (U a) (U b)) (remN (U a) (U b)) = g at B c1 c2 c3
  obtain ⟨hg, ng, ⟨v, d, hab, hmul, hle⟩, hz⟩ := B
  have n3 := fun W => neg_run hg W
  have k1 := Lib.hid (zzNaN_any (wd sx a) w hx)
  have k2 := Lib.hid (zzNaN_any (wd sy b) w hy)
  have k3 := Lib.hid (zzNaN_any g w hg)
  have k4 := Lib.hid (zzInf_c (wd sx a) false w hx ix)
  have k5 := Lib.hid (zzInf_c (wd sy b) false w hy iy)
  have k6 := Lib.hid (hab w)
  have k7' := abs_word sy b w hb
  rw [if_neg hb0] at k7'
  have k7 := Lib.hid k7'
  have k8 := Lib.hid (zzSame_any g g w hg hg)
  have k9 := Lib.hid (zzSame_any (negW g) (negW g) w (negW_lt hg) (negW_lt hg))
  have k10 := Lib.hid (zzNeg_any g w hg)
  have k11' := zzNeg_any (wd sx a) w hx
  rw [negB_wd sx a ha] at k11'
  have k11 := Lib.hid k11'
  have hz0 := zero_test hy (by rw [m2]; exact hb0)
  have hmu := fl_run .mul (a := 4611686018427387904) (b := v) hmul
  have s1 := sameB_self g
  have s2 := sameB_self (negW g)
  have C1 := Lib.hid c1
  have C2 := Lib.hid c2
  have C3 := Lib.hid c3
  clear c1 c2 c3 hab k7' k11' hmul r1 r2 hN ix iy m1 m2 ha hb hb0
  generalize negW g = g' at n3 C3 k9 s2
  generalize wd (!sx) a = lx at n1 C3
  generalize wd (!sy) b = ly at n2 C2
  generalize wd sx a = x at *
  generalize wd sy b = y at *
  rcases hz with ⟨z1, z2⟩ | z1
  · rw [z2] at k10
    clear z2 hx hy hg
    go_enter Try.func8, Try.ntmps8
    go_wp2_with fail
    with_reducible refine (C1.out).mono ?_
    rintro e1 w1 ⟨rfl, rfl⟩
    go_wp2_with fail
    with_reducible refine (k1.out).mono ?_
    rintro e1 w1 ⟨rfl, rfl⟩
    go_wp2_with fail
    with_reducible refine (k2.out).mono ?_
    rintro e1 w1 ⟨rfl, rfl⟩
    go_wp2_with fail
    with_reducible refine (k4.out).mono ?_
    rintro e1 w1 ⟨rfl, rfl⟩
    go_wp2_with fail
    with_reducible refine (k5.out).mono ?_
    rintro e1 w1 ⟨rfl, rfl⟩
    go_wp2_with fail
    with_reducible refine (k3.out).mono ?_
    rintro e1 w1 ⟨rfl, rfl⟩
    go_wp2_with fail
    with_reducible refine (k6.out).mono ?_
    rintro e1 w1 ⟨rfl, rfl⟩
    go_wp2_with fail
    with_reducible refine (k7.out).mono ?_
    rintro e1 w1 ⟨rfl, rfl⟩
    go_wp2_with fail
    with_reducible refine (k10.out).mono ?_
    rintro e1 w1 ⟨rfl, rfl⟩
    go_wp2_with fail
    with_reducible refine (k11.out).mono ?_
    rintro e1 w1 ⟨rfl, rfl⟩
    go_wp2_with fail
    with_reducible refine (C2.out).mono ?_
    rintro e1 w1 ⟨rfl, rfl⟩
    go_wp2_with fail
    with_reducible refine (k8.out).mono ?_
    rintro e1 w1 ⟨rfl, rfl⟩
    go_wp2_with fail
    with_reducible refine (C3.out).mono ?_
    rintro e1 w1 ⟨rfl, rfl⟩
    go_wp2_with fail
    with_reducible refine (k9.out).mono ?_
    rintro e1 w1 ⟨rfl, rfl⟩
    go_wp2_with fail
    go_ret
    exact ⟨rfl, Below.refl _ _⟩
  · clear hx hy hg
    go_enter Try.func8, Try.ntmps8
    go_wp2_with fail
    with_reducible refine (C1.out).mono ?_
    rintro e1 w1 ⟨rfl, rfl⟩
    go_wp2_with fail
    with_reducible refine (k1.out).mono ?_
    rintro e1 w1 ⟨rfl, rfl⟩
    go_wp2_with fail
    with_reducible refine (k2.out).mono ?_
    rintro e1 w1 ⟨rfl, rfl⟩
    go_wp2_with fail
    with_reducible refine (k4.out).mono ?_
    rintro e1 w1 ⟨rfl, rfl⟩
    go_wp2_with fail
    with_reducible refine (k5.out).mono ?_
    rintro e1 w1 ⟨rfl, rfl⟩
    go_wp2_with fail
    with_reducible refine (k3.out).mono ?_
    rintro e1 w1 ⟨rfl, rfl⟩
    go_wp2_with fail
    with_reducible refine (k6.out).mono ?_
    rintro e1 w1 ⟨rfl, rfl⟩
    go_wp2_with fail
    with_reducible refine (k7.out).mono ?_
    rintro e1 w1 ⟨rfl, rfl⟩
    go_wp2_with fail
    with_reducible refine (C2.out).mono ?_
    rintro e1 w1 ⟨rfl, rfl⟩
    go_wp2_with fail
    with_reducible refine (k8.out).mono ?_
    rintro e1 w1 ⟨rfl, rfl⟩
    go_wp2_with fail
    with_reducible refine (C3.out).mono ?_
    rintro e1 w1 ⟨rfl, rfl⟩
    go_wp2_with fail
    with_reducible refine (k9.out).mono ?_
    rintro e1 w1 ⟨rfl, rfl⟩
    go_wp2_with fail
    go_ret
    exact ⟨rfl, Below.refl _ _⟩
theorem law_sc (x y : Nat) (w : World) (hx : x < 2 ^ 64) (hy : y < 2 ^ 64) :
    Calls Try.prog 8 #[.float .f64 x, .float .f64 y] w fun e w' => e = .returned (.bool true) ∧ Below w.heap.size w w' := by
  have hnan : nanB 9221120237041090561 = true := by unfold nanB; rw [infRung_eq]; rfl
  have k0' := zzNaN_any 9221120237041090561 w (by omega)
  rw [hnan] at k0'
  have k0 := Lib.hid k0'
  have k1 := zzNaN_any x w hx
  have k2 := zzNaN_any y w hy
  clear k0' hnan
  cases nx : nanB x
  · cases ny : nanB y
    · cases ix : infB x
      · by_cases y0 : y % 2 ^ 63 = 0
        · have c1 := Lib.hid (drem_nan x y w hx hy (.inr (.inr (.inr y0))))
          have k4 := Lib.hid (zzInf_c x false w hx ix)
          have hz := zero_yes hy y0
          rw [nx] at k1
          rw [ny] at k2
          have K1 := Lib.hid k1
          have K2 := Lib.hid k2
          clear k1 k2 nx ny ix y0
          go_enter Try.func8, Try.ntmps8
          go_wp2_with fail
          with_reducible refine (c1.out).mono ?_
          rintro e1 w1 ⟨rfl, rfl⟩
          go_wp2_with fail
          with_reducible refine (K1.out).mono ?_
          rintro e1 w1 ⟨rfl, rfl⟩
          go_wp2_with fail
          with_reducible refine (K2.out).mono ?_
          rintro e1 w1 ⟨rfl, rfl⟩
          go_wp2_with fail
          with_reducible refine (k4.out).mono ?_
          rintro e1 w1 ⟨rfl, rfl⟩
          go_wp2_with fail
          with_reducible refine (k0.out).mono ?_
          rintro e1 w1 ⟨rfl, rfl⟩
          go_wp2_with fail
          go_ret
          exact ⟨rfl, Below.refl _ _⟩
        · have ax : x % 2 ^ 63 < double.infRung := by unfold nanB at nx; unfold infB at ix; simp at nx ix; omega
          cases iy : infB y
          · have ay : y % 2 ^ 63 < double.infRung := by unfold nanB at ny; unfold infB at iy; simp at ny iy; omega
            have := sc_fin (decide (2 ^ 63 ≤ x)) (decide (2 ^ 63 ≤ y)) (x % 2 ^ 63) (y % 2 ^ 63) w ax ay y0
            rw [← wd_parts x hx, ← wd_parts y hy] at this
            exact this
          · have c := drem_inf (decide (2 ^ 63 ≤ x)) (x % 2 ^ 63) y w ax hy ny iy y0
            rw [← wd_parts x hx] at c
            have c1 := Lib.hid c
            have k4 := Lib.hid (zzInf_c x false w hx ix)
            have k5 := Lib.hid (zzInf_c y true w hy iy)
            have k8' := zzSame_any x x w hx hx
            rw [sameB_self x] at k8'
            have k8 := Lib.hid k8'
            have hz := zero_test hy y0
            rw [nx] at k1
            rw [ny] at k2
            have K1 := Lib.hid k1
            have K2 := Lib.hid k2
            clear k1 k2 nx ny ix iy y0 ax c k8'
            go_enter Try.func8, Try.ntmps8
            go_wp2_with fail
            with_reducible refine (c1.out).mono ?_
            rintro e1 w1 ⟨rfl, rfl⟩
            go_wp2_with fail
            with_reducible refine (K1.out).mono ?_
            rintro e1 w1 ⟨rfl, rfl⟩
            go_wp2_with fail
            with_reducible refine (K2.out).mono ?_
            rintro e1 w1 ⟨rfl, rfl⟩
            go_wp2_with fail
            with_reducible refine (k4.out).mono ?_
            rintro e1 w1 ⟨rfl, rfl⟩
            go_wp2_with fail
            with_reducible refine (k5.out).mono ?_
            rintro e1 w1 ⟨rfl, rfl⟩
            go_wp2_with fail
            with_reducible refine (k8.out).mono ?_
            rintro e1 w1 ⟨rfl, rfl⟩
            go_wp2_with fail
            go_ret
            exact ⟨rfl, Below.refl _ _⟩
      · have c1 := Lib.hid (drem_nan x y w hx hy (.inr (.inr (.inl ix))))
        have k4 := Lib.hid (zzInf_c x true w hx ix)
        rw [nx] at k1
        rw [ny] at k2
        have K1 := Lib.hid k1
        have K2 := Lib.hid k2
        clear k1 k2 nx ny ix
        go_enter Try.func8, Try.ntmps8
        go_wp2_with fail
        with_reducible refine (c1.out).mono ?_
        rintro e1 w1 ⟨rfl, rfl⟩
        go_wp2_with fail
        with_reducible refine (K1.out).mono ?_
        rintro e1 w1 ⟨rfl, rfl⟩
        go_wp2_with fail
        with_reducible refine (K2.out).mono ?_
        rintro e1 w1 ⟨rfl, rfl⟩
        go_wp2_with fail
        with_reducible refine (k4.out).mono ?_
        rintro e1 w1 ⟨rfl, rfl⟩
        go_wp2_with fail
        with_reducible refine (k0.out).mono ?_
        rintro e1 w1 ⟨rfl, rfl⟩
        go_wp2_with fail
        go_ret
        exact ⟨rfl, Below.refl _ _⟩
    · have c1 := Lib.hid (drem_nan x y w hx hy (.inr (.inl ny)))
      rw [nx] at k1
      rw [ny] at k2
      have K1 := Lib.hid k1
      have K2 := Lib.hid k2
      clear k1 k2 nx ny
      go_enter Try.func8, Try.ntmps8
      go_wp2_with fail
      with_reducible refine (c1.out).mono ?_
      rintro e1 w1 ⟨rfl, rfl⟩
      go_wp2_with fail
      with_reducible refine (K1.out).mono ?_
      rintro e1 w1 ⟨rfl, rfl⟩
      go_wp2_with fail
      with_reducible refine (K2.out).mono ?_
      rintro e1 w1 ⟨rfl, rfl⟩
      go_wp2_with fail
      with_reducible refine (k0.out).mono ?_
      rintro e1 w1 ⟨rfl, rfl⟩
      go_wp2_with fail
      go_ret
      exact ⟨rfl, Below.refl _ _⟩
  · have c1 := Lib.hid (drem_nan x y w hx hy (.inl nx))
    rw [nx] at k1
    have K1 := Lib.hid k1
    clear k1 k2 nx
    go_enter Try.func8, Try.ntmps8
    go_wp2_with fail
    with_reducible refine (c1.out).mono ?_
    rintro e1 w1 ⟨rfl, rfl⟩
    go_wp2_with fail
    with_reducible refine (K1.out).mono ?_
    rintro e1 w1 ⟨rfl, rfl⟩
    go_wp2_with fail
    with_reducible refine (k0.out).mono ?_
    rintro e1 w1 ⟨rfl, rfl⟩
    go_wp2_with fail
    go_ret
    exact ⟨rfl, Below.refl _ _⟩
end Go.Proofs.Ytcpfnepkjbadjaa
