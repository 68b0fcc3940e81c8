/- funcDrem on finite numbers: the nearest multiple's distance, exactly; a zero bears the first number's sign. -/
import Derived.Test.YtcpfnepkjbadjaaDrRem
namespace Go.Proofs.Ytcpfnepkjbadjaa
open Ieee
open Go.ChangeShapes Go.WideShapes Go.ChangeAt Go.RowKit
set_option linter.unusedVariables false
/-- what remainder leaves of X and Y: its sign and its size -/
def remT (X Y : Nat) : Bool := if 2 * (X % (2 * Y)) ≤ Y then false else if 2 * (X % (2 * Y)) < 3 * Y then decide (X % (2 * Y) < Y) else true
def remN (X Y : Nat) : Nat := if 2 * (X % (2 * Y)) ≤ Y then X % (2 * Y) else if 2 * (X % (2 * Y)) < 3 * Y then (if X % (2 * Y) < Y then Y - X % (2 * Y) else X % (2 * Y) - Y) else 2 * Y - X % (2 * Y)
theorem remN_half (X Y : Nat) (hY : 0 < Y) : 2 * remN X Y ≤ Y := by
  have h := Nat.mod_lt X (show 0 < 2 * Y by omega)
  unfold remN
  split
  · omega
  · split
    · split <;> omega
    · omega
theorem Mod_any {x y n : Nat} {w : World} (h : Calls Try.prog 49 #[.float .f64 x, .float .f64 y] w (Rung n w)) : Calls Try.prog 46 #[.float .f64 x, .float .f64 y] w (Rung n w) := by
  have hc := Lib.hid h
  clear h
  go_enter Try.func46, Try.ntmps46
  go_wp2_with fail
  with_reducible refine (hc.out).mono ?_
  rintro e w' ⟨ρ, h1, h2, rfl, rfl⟩
  go_wp2_with fail
  go_ret
  exact ⟨ρ, h1, h2, rfl, rfl⟩
theorem half_of {y : Nat} (hy : y < double.infRung) (hb : 2 * 2 ^ 52 ≤ y) : ∃ h, double.mul 4602678819172646912 y = some h ∧ h < double.infRung ∧ 2 * U h = U y := by
  have h1 := mul_pow' false y (-1) hy (by omega) (by omega)
  rw [wd_f, wd_f, show ((-1 : Int) + 1023).toNat * 2 ^ 52 = 4602678819172646912 by rfl] at h1
  obtain ⟨E, f, hrE, hf, hE1, hE2, hU⟩ := norm_parts (by omega) hy
  have hE : 2 ≤ E := by omega
  have e : U y = (2 ^ 52 + f) * 2 ^ (E - 2) * 2 := by
    rw [hU, Nat.mul_assoc, Nat.mul_comm (2 ^ (E - 2)) 2, two_mul_pow]
    congr 2; omega
  have h2 := rnE_shift ((2 ^ 52 + f) * 2 ^ (E - 2)) 1 0
  rw [Nat.pow_one, ← e, show (0 : Int) - ((1 : Nat) : Int) = -1 by omega, rnE_up ((2 ^ 52 + f) * 2 ^ (E - 2)) 0 (by omega), show (0 : Int).toNat = 0 by rfl, Nat.pow_zero, Nat.mul_one] at h2
  have ht : (2 ^ 52 + f) * 2 ^ (E - 2) < TOP := by have := U_lt y hy; omega
  obtain ⟨u1, u2⟩ := rep_back ((2 ^ 52 + f) * 2 ^ (E - 2)) ⟨2 ^ 52 + f, E - 2, rfl, by omega⟩ ht
  rw [h2, wd_f] at h1
  exact ⟨_, h1, u2, by rw [u1, e]; omega⟩
theorem wd_neg (s : Bool) (r : Nat) (h : r < 2 ^ 63) : negW (wd s r) = wd (!s) r := by
  unfold negW
  cases s
  · rw [wd_f, if_neg (by omega)]
    show r + 2 ^ 63 = 2 ^ 63 + r
    omega
  · rw [show wd true r = 2 ^ 63 + r by rfl, if_pos (by omega)]
    show 2 ^ 63 + r - 2 ^ 63 = r
    omega
theorem lt63 {r : Nat} (h : r < double.infRung) : r < 2 ^ 63 := by rw [infRung_eq] at h; omega
theorem rem_in (sx sy : Bool) (x y : Nat) (hx : x < double.infRung) (hx0 : x ≠ 0) (hy : y < double.infRung) (hy0 : y ≠ 0) : RemIn (wd sx x) (wd sy y) x y sx sy := by
  have a1 := wd_lt sx x (lt63 hx)
  have a2 := wd_lt sy y (lt63 hy)
  have m1 := (wd_mod sx x (lt63 hx)).1
  have m2 := (wd_mod sy y (lt63 hy)).1
  refine ⟨a1, a2, ?_, ?_, ?_, ?_, zero_test a2 (by rw [m2]; exact hy0), order_neg sx x hx hx0, order_neg sy y hy hy0, ?_, ?_, ?_, ?_⟩
  · unfold nanB; rw [m1]; simp; omega
  · unfold nanB; rw [m2]; simp; omega
  · unfold infB; rw [m1]; simp; omega
  · unfold infB; rw [m2]; simp; omega
  · rintro rfl; rfl
  · rintro rfl; rfl
  · rintro rfl W
    rw [neg_run a1 W, wd_neg true x (lt63 hx)]; rfl
  · rintro rfl W
    rw [neg_run a2 W, wd_neg true y (lt63 hy)]; rfl
theorem turn_of (sx t : Bool) (ρ : Nat) (h : ρ < double.infRung) : Turn sx (wd t ρ) (wd (t ^^ sx) ρ) := by
  refine ⟨?_, ?_⟩
  · rintro rfl; rw [Bool.xor_false]
  · rintro rfl W
    rw [neg_run (wd_lt t ρ (lt63 h)) W, wd_neg t ρ (lt63 h), Bool.xor_true]
theorem ord_f {a b : Nat} (ha : a < double.infRung) (hb : b < double.infRung) : FloatKind.f64.format.order a b = some (compare ((U a : Nat) : Int) ((U b : Nat) : Int)) := by rw [fmt_eq]; exact ord_pos ha hb
theorem is_eq {a b : Nat} (ha : a < double.infRung) (hb : b < double.infRung) : (FloatKind.f64.format.order a b == some .eq) = decide (U a = U b) := by
  rw [ord_f ha hb]
  rcases Nat.lt_trichotomy (U a) (U b) with h | h | h
  · rw [cmp_lt (by omega), decide_eq_false (by omega)]; rfl
  · rw [cmp_eq (by omega), decide_eq_true h]; rfl
  · rw [cmp_gt (by omega), decide_eq_false (by omega)]; rfl
theorem is_lt {a b : Nat} (ha : a < double.infRung) (hb : b < double.infRung) : (FloatKind.f64.format.order a b == some .lt) = decide (U a < U b) := by
  rw [ord_f ha hb]
  rcases Nat.lt_trichotomy (U a) (U b) with h | h | h
  · rw [cmp_lt (by omega), decide_eq_true h]; rfl
  · rw [cmp_eq (by omega), decide_eq_false (by omega)]; rfl
  · rw [cmp_gt (by omega), decide_eq_false (by omega)]; rfl
theorem is_gt {a b : Nat} (ha : a < double.infRung) (hb : b < double.infRung) : (FloatKind.f64.format.order a b == some .gt) = decide (U b < U a) := by
  rw [ord_f ha hb]
  rcases Nat.lt_trichotomy (U a) (U b) with h | h | h
  · rw [cmp_lt (by omega), decide_eq_false (by omega)]; rfl
  · rw [cmp_eq (by omega), decide_eq_false (by omega)]; rfl
  · rw [cmp_gt (by omega), decide_eq_true h]; rfl
theorem is_le {a b : Nat} (ha : a < double.infRung) (hb : b < double.infRung) : (FloatKind.f64.format.order a b == some .lt || FloatKind.f64.format.order a b == some .eq) = decide (U a ≤ U b) := by
  rw [is_lt ha hb, is_eq ha hb, Bool.eq_iff_iff]; simp; omega
theorem is_ge {a b : Nat} (ha : a < double.infRung) (hb : b < double.infRung) : (FloatKind.f64.format.order a b == some .gt || FloatKind.f64.format.order a b == some .eq) = decide (U b ≤ U a) := by
  rw [is_gt ha hb, is_eq ha hb, Bool.eq_iff_iff]; simp; omega
/-- a negative word lies below every number that is not -/
theorem neg_ge {a b : Nat} (ha : a < double.infRung) (ha0 : 0 < U a) (hb : b < double.infRung) : (FloatKind.f64.format.order (wd true a) b == some .gt || FloatKind.f64.format.order (wd true a) b == some .eq) = false := by
  have h := order_fin true false a b ha hb
  rw [wd_f] at h
  rw [fmt_eq, h, cmp_lt (by unfold sn; simp; omega)]
  rfl
theorem hmax_lt : (9214364837600034815 : Nat) < double.infRung := by rw [infRung_eq]; omega
theorem tiny_lt : (9007199254740992 : Nat) < double.infRung := by rw [infRung_eq]; omega
/-- beyond the half of the greatest number -/
theorem beyond_half {y : Nat} (hy : y < double.infRung) (h : ¬ U y ≤ U 9214364837600034815) : TOP ≤ 2 * U y := by
  have h1 : 9214364837600034815 < y := by
    rcases Nat.lt_or_ge 9214364837600034815 y with h2 | h2
    · exact h2
    · rcases Nat.lt_or_ge y 9214364837600034815 with h3 | h3
      · have := U_mono h3 hmax_lt; omega
      · have : y = 9214364837600034815 := by omega
        subst this; omega
  have h2 : U (2046 * 2 ^ 52) ≤ U y := by
    rcases Nat.lt_or_ge (2046 * 2 ^ 52) y with h3 | h3
    · have := U_mono h3 hy; omega
    · have : y = 2046 * 2 ^ 52 := by omega
      rw [this]; exact Nat.le_refl _
  rw [U_pw 2046 (by omega), show 52 + (2046 - 1) = 2097 by rfl] at h2
  have e := p2_add 1 2097
  rw [show 1 + 2097 = 2098 by rfl, show p2 1 = 2 by rfl] at e
  show p2 2098 ≤ _
  omega
theorem below_half {y : Nat} (hy : y < double.infRung) (h : U y ≤ U 9214364837600034815) : U y * 2 < TOP := by
  have h1 : y ≤ 9214364837600034815 := by
    rcases Nat.lt_or_ge 9214364837600034815 y with h2 | h2
    · have := U_mono h2 hy; omega
    · exact h2
  have hb : (2046 * 2 ^ 52 : Nat) < double.infRung := by rw [infRung_eq]; omega
  have h2 : U y < U (2046 * 2 ^ 52) := U_mono (by omega) hb
  rw [U_pw 2046 (by omega), show 52 + (2046 - 1) = 2097 by rfl] at h2
  have e := p2_add 1 2097
  rw [show 1 + 2097 = 2098 by rfl, show p2 1 = 2 by rfl] at e
  show _ < p2 2098
  omega
theorem rep_mod {A B : Nat} (hA : Rep A) (hB : Rep B) : Rep (A % B) := by
  obtain ⟨m, i, rfl, hm⟩ := hA
  obtain ⟨n, j, rfl, hn⟩ := hB
  by_cases hn0 : n = 0
  · subst hn0
    rw [Nat.zero_mul, Nat.mod_zero]
    exact ⟨m, i, rfl, hm⟩
  · rcases Nat.le_total j i with h | h
    · have e : m * 2 ^ i = m * 2 ^ (i - j) * 2 ^ j := by rw [Nat.mul_assoc, ← Nat.pow_add, Nat.sub_add_cancel h]
      rw [e, Nat.mul_mod_mul_right]
      exact ⟨_, j, rfl, Nat.lt_trans (Nat.mod_lt _ (by omega)) hn⟩
    · have e : n * 2 ^ j = n * 2 ^ (j - i) * 2 ^ i := by rw [Nat.mul_assoc, ← Nat.pow_add, Nat.sub_add_cancel h]
      rw [e, Nat.mul_mod_mul_right]
      exact ⟨_, i, rfl, Nat.lt_of_le_of_lt (Nat.mod_le _ _) hm⟩
theorem mod_rung {x y : Nat} (w : World) (hx : x < double.infRung) (hy : y < double.infRung) (hy0 : y ≠ 0) : ∃ ρ, ρ < double.infRung ∧ U ρ = U x % U y ∧ Calls Try.prog 46 #[.float .f64 x, .float .f64 y] w fun e w' => e = .returned (.float .f64 ρ) ∧ w = w' := by
  have ht : U x % U y < TOP := Nat.lt_of_le_of_lt (Nat.mod_le _ _) (U_lt x hx)
  obtain ⟨h1, h2⟩ := rep_back _ (rep_mod (rep_U x) (rep_U y)) ht
  refine ⟨_, h2, h1, (Mod_any (mod_pos x y w hx hy hy0)).mono ?_⟩
  rintro e w' ⟨ρ, a1, a2, rfl, rfl⟩
  refine ⟨?_, rfl⟩
  rw [← a2, rn_U ρ a1]
/-- a path's end, told -/
def RemIs (sx sy : Bool) (x y : Nat) (w : World) : Prop := ∃ ρ, ρ < double.infRung ∧ U ρ = remN (U x) (U y) ∧ Calls Try.prog 41 #[.float .f64 (wd sx x), .float .f64 (wd sy y)] w fun e w' => e = .returned (.float .f64 (wd (remT (U x) (U y) ^^ sx) ρ)) ∧ w = w'
/-- what comes behind the first reduction, of r and y in units -/
theorem tail_sub {r y : Nat} (hr : r < double.infRung) (hy : y < double.infRung) (h1 : U y < 2 * U r) (h2 : U r < 2 * U y) :
    ∃ t v, v < double.infRung ∧ double.sub r y = some (wd t v) ∧ t = decide (U r < U y) ∧ U v = (if U r < U y then U y - U r else U r - U y) := by
  by_cases h : U r < U y
  · obtain ⟨v, a1, a2, a3⟩ := sub_neg hr hy h (rep_sub (rep_U y) (rep_U r) (by omega) (by omega))
    exact ⟨true, v, a2, a1, by rw [decide_eq_true h], by rw [if_pos h]; exact a3⟩
  · obtain ⟨v, a1, a2, a3⟩ := sub_pos hr hy (by omega) (rep_sub (rep_U r) (rep_U y) (by omega) (by omega))
    exact ⟨false, v, a2, by rw [wd_f]; exact a1, by rw [decide_eq_false h], by rw [if_neg h]; exact a3⟩
theorem last_sub {v y : Nat} (hv : v < double.infRung) (hy : y < double.infRung) (h1 : U v < U y) (h2 : U y ≤ 2 * U v) : ∃ u, u < double.infRung ∧ double.sub v y = some (wd true u) ∧ U u = U y - U v := by
  obtain ⟨u, a1, a2, a3⟩ := sub_neg hv hy h1 (rep_sub (rep_U y) (rep_U v) (by omega) (by omega))
  exact ⟨u, a2, a1, a3⟩
theorem fl_run (op : BinOp) {a b r : Nat} (h : floatBits op .f64 a b = some r) : ∀ W : World, (binOp op 22 (.float .f64 a) (.float .f64 b)).run Try.prog W = .ok (.float .f64 r) W := fun W => run_float_arith W op _ .f64 _ _ _ h
theorem rem_any (sx sy : Bool) (x y : Nat) (w : World) (hx : x < double.infRung) (hx0 : x ≠ 0) (hy : y < double.infRung) (hy0 : y ≠ 0) : RemIs sx sy x y w := by
  have H := rem_in sx sy x y hx hx0 hy hy0
  have Y0 := U_pos hy0 hy
  have X0 := U_pos hx0 hx
  have hxT := U_lt x hx
  have hyT := U_lt y hy
  by_cases he : U x = U y
  · have hm : U x % (2 * U y) = U y := by rw [he]; exact Nat.mod_eq_of_lt (by omega)
    refine ⟨0, by rw [infRung_eq]; omega, ?_, ?_⟩
    · unfold remN; rw [hm, if_neg (by omega), if_pos (by omega), if_neg (by omega)]; rw [U_zero]; omega
    · have ht : remT (U x) (U y) = false := by unfold remT; rw [hm, if_neg (by omega), if_pos (by omega), decide_eq_false (by omega)]
      rw [ht]
      exact rem_eq _ _ x y _ sx sy w H (turn_of sx false 0 (by rw [infRung_eq]; omega)) (by rw [is_eq hx hy, decide_eq_true he])
  · have heq : (FloatKind.f64.format.order x y == some .eq) = false := by rw [is_eq hx hy, decide_eq_false he]
    by_cases hh : U y ≤ U 9214364837600034815
    · have hhalf : (FloatKind.f64.format.order y 9214364837600034815 == some .lt || FloatKind.f64.format.order y 9214364837600034815 == some .eq) = true := by rw [is_le hy hmax_lt, decide_eq_true hh]
      obtain ⟨y2, b1, b2, b3⟩ := add_self false hy (below_half hy hh)
      rw [wd_f, wd_f] at b1
      have hyy := fl_run .add (a := y) (b := y) b1
      have hy20 : y2 ≠ 0 := by rintro rfl; rw [U_zero] at b3; omega
      obtain ⟨r, r1, r2, hmd⟩ := mod_rung w hx b2 hy20
      rw [b3, Nat.mul_comm (U y) 2] at r2
      have rlt : U r < 2 * U y := by rw [r2]; exact Nat.mod_lt _ (by omega)
      by_cases ht : U y < U 9007199254740992
      · have htiny : (FloatKind.f64.format.order y 9007199254740992 == some .lt) = true := by rw [is_lt hy tiny_lt, decide_eq_true ht]
        have small : U y * 4 < TOP := by
          have e : U 9007199254740992 = 2 ^ 53 := by rw [show (9007199254740992 : Nat) = 2 * 2 ^ 52 by rfl, U_pw 2 (by omega)]; rfl
          rw [e] at ht
          have : p2 60 ≤ TOP := p2_mono (by omega)
          have e2 : p2 60 = 2 ^ 60 := rfl
          omega
        obtain ⟨d1, c1, c2, c3⟩ := add_self false r1 (by omega)
        rw [wd_f, wd_f] at c1
        have hd1 := fl_run .add (a := r) (b := r) c1
        by_cases g1 : 2 * U r ≤ U y
        · have hT := turn_of sx false r r1
          refine ⟨r, r1, by unfold remN; rw [← r2, if_pos g1], ?_⟩
          have e : remT (U x) (U y) = false := by unfold remT; rw [← r2, if_pos g1]
          rw [e]
          exact rem_htA _ _ x y y2 r d1 _ sx sy w H hT heq hhalf hyy hmd htiny hd1 (by rw [is_gt c2 hy, decide_eq_false (by omega)])
        · obtain ⟨t, v, v1, v2, v3, v4⟩ := tail_sub r1 hy (by omega) rlt
          have hs1 := fl_run .sub (a := r) (b := y) v2
          have ht1 : (FloatKind.f64.format.order d1 y == some .gt) = true := by rw [is_gt c2 hy, decide_eq_true (by omega)]
          have hvT : U v * 2 < TOP := by split at v4 <;> omega
          obtain ⟨d2, e1, e2, e3⟩ := add_self t v1 hvT
          have hd2 := fl_run .add (a := wd t v) (b := wd t v) e1
          by_cases g2 : 2 * U r < 3 * U y
          · have hT := turn_of sx t v v1
            refine ⟨v, v1, by unfold remN; rw [← r2, if_neg g1, if_pos g2, v4], ?_⟩
            have e : remT (U x) (U y) = t := by unfold remT; rw [← r2, if_neg g1, if_pos g2, v3]
            rw [e]
            refine rem_htB _ _ x y y2 r d1 (wd t v) (wd t d2) _ sx sy w H hT heq hhalf hyy hmd htiny hd1 ht1 hs1 hd2 ?_
            cases t
            · rw [wd_f, is_ge e2 hy, decide_eq_false]
              have := of_decide_eq_false v3.symm
              rw [if_neg this] at v4
              omega
            · have := of_decide_eq_true v3.symm
              rw [if_pos this] at v4
              exact neg_ge e2 (by omega) hy
          · have h5 : ¬ U r < U y := by omega
            rw [decide_eq_false h5] at v3
            rw [if_neg h5] at v4
            subst v3
            obtain ⟨u, u1, u2, u3⟩ := last_sub v1 hy (by omega) (by omega)
            have hs2 := fl_run .sub (a := v) (b := y) u2
            have hT := turn_of sx true u u1
            refine ⟨u, u1, by unfold remN; rw [← r2, if_neg g1, if_neg g2, u3, v4]; omega, ?_⟩
            have e : remT (U x) (U y) = true := by unfold remT; rw [← r2, if_neg g1, if_neg g2]
            rw [e]
            exact rem_htC _ _ x y y2 r d1 v d2 (wd true u) _ sx sy w H hT heq hhalf hyy hmd htiny hd1 ht1 hs1 hd2 (by rw [is_ge e2 hy, decide_eq_true (by omega)]) hs2
      · have htiny : (FloatKind.f64.format.order y 9007199254740992 == some .lt) = false := by rw [is_lt hy tiny_lt, decide_eq_false ht]
        have hyb : 2 * 2 ^ 52 ≤ y := by
          rcases Nat.lt_or_ge y (2 * 2 ^ 52) with h | h
          · exact absurd (U_mono (b := 9007199254740992) (by omega) tiny_lt) ht
          · exact h
        obtain ⟨hf, f1, f2, f3⟩ := half_of hy hyb
        have hh2 := fl_run .mul (a := 4602678819172646912) (b := y) f1
        by_cases g1 : 2 * U r ≤ U y
        · have hT := turn_of sx false r r1
          refine ⟨r, r1, by unfold remN; rw [← r2, if_pos g1], ?_⟩
          have e : remT (U x) (U y) = false := by unfold remT; rw [← r2, if_pos g1]
          rw [e]
          exact rem_hnA _ _ x y y2 r hf _ sx sy w H hT heq hhalf hyy hmd htiny hh2 (by rw [is_gt r1 f2, decide_eq_false (by omega)])
        · obtain ⟨t, v, v1, v2, v3, v4⟩ := tail_sub r1 hy (by omega) rlt
          have hs1 := fl_run .sub (a := r) (b := y) v2
          have ht1 : (FloatKind.f64.format.order r hf == some .gt) = true := by rw [is_gt r1 f2, decide_eq_true (by omega)]
          by_cases g2 : 2 * U r < 3 * U y
          · have hT := turn_of sx t v v1
            refine ⟨v, v1, by unfold remN; rw [← r2, if_neg g1, if_pos g2, v4], ?_⟩
            have e : remT (U x) (U y) = t := by unfold remT; rw [← r2, if_neg g1, if_pos g2, v3]
            rw [e]
            refine rem_hnB _ _ x y y2 r hf (wd t v) _ sx sy w H hT heq hhalf hyy hmd htiny hh2 ht1 hs1 ?_
            cases t
            · rw [wd_f, is_ge v1 f2, decide_eq_false]
              have := of_decide_eq_false v3.symm
              rw [if_neg this] at v4
              omega
            · have := of_decide_eq_true v3.symm
              rw [if_pos this] at v4
              exact neg_ge v1 (by omega) f2
          · have h5 : ¬ U r < U y := by omega
            rw [decide_eq_false h5] at v3
            rw [if_neg h5] at v4
            subst v3
            obtain ⟨u, u1, u2, u3⟩ := last_sub v1 hy (by omega) (by omega)
            have hs2 := fl_run .sub (a := v) (b := y) u2
            have hT := turn_of sx true u u1
            refine ⟨u, u1, by unfold remN; rw [← r2, if_neg g1, if_neg g2, u3, v4]; omega, ?_⟩
            have e : remT (U x) (U y) = true := by unfold remT; rw [← r2, if_neg g1, if_neg g2]
            rw [e]
            exact rem_hnC _ _ x y y2 r hf v (wd true u) _ sx sy w H hT heq hhalf hyy hmd htiny hh2 ht1 hs1 (by rw [is_ge v1 f2, decide_eq_true (by omega)]) hs2
    · have hhalf : (FloatKind.f64.format.order y 9214364837600034815 == some .lt || FloatKind.f64.format.order y 9214364837600034815 == some .eq) = false := by rw [is_le hy hmax_lt, decide_eq_false hh]
      have hbig := beyond_half hy hh
      have r2 : U x = U x % (2 * U y) := (Nat.mod_eq_of_lt (by omega)).symm
      have htn : ¬ U y < U 9007199254740992 := by
        have : U 9007199254740992 ≤ U 9214364837600034815 := Nat.le_of_lt (U_mono (by omega) hmax_lt)
        omega
      have htiny : (FloatKind.f64.format.order y 9007199254740992 == some .lt) = false := by rw [is_lt hy tiny_lt, decide_eq_false htn]
      have hyb : 2 * 2 ^ 52 ≤ y := by
        rcases Nat.lt_or_ge y (2 * 2 ^ 52) with h | h
        · exact absurd (U_mono (b := 9007199254740992) (by omega) tiny_lt) htn
        · exact h
      obtain ⟨hf, f1, f2, f3⟩ := half_of hy hyb
      have hh2 := fl_run .mul (a := 4602678819172646912) (b := y) f1
      by_cases g1 : 2 * U x ≤ U y
      · have hT := turn_of sx false x hx
        refine ⟨x, hx, by unfold remN; rw [← r2, if_pos g1], ?_⟩
        have e : remT (U x) (U y) = false := by unfold remT; rw [← r2, if_pos g1]
        rw [e]
        exact rem_bnA _ _ x y hf _ sx sy w H hT heq hhalf htiny hh2 (by rw [is_gt hx f2, decide_eq_false (by omega)])
      · obtain ⟨t, v, v1, v2, v3, v4⟩ := tail_sub hx hy (by omega) (by omega)
        have hs1 := fl_run .sub (a := x) (b := y) v2
        have ht1 : (FloatKind.f64.format.order x hf == some .gt) = true := by rw [is_gt hx f2, decide_eq_true (by omega)]
        by_cases g2 : 2 * U x < 3 * U y
        · have hT := turn_of sx t v v1
          refine ⟨v, v1, by unfold remN; rw [← r2, if_neg g1, if_pos g2, v4], ?_⟩
          have e : remT (U x) (U y) = t := by unfold remT; rw [← r2, if_neg g1, if_pos g2, v3]
          rw [e]
          refine rem_bnB _ _ x y hf (wd t v) _ sx sy w H hT heq hhalf htiny hh2 ht1 hs1 ?_
          cases t
          · rw [wd_f, is_ge v1 f2, decide_eq_false]
            have := of_decide_eq_false v3.symm
            rw [if_neg this] at v4
            omega
          · have := of_decide_eq_true v3.symm
            rw [if_pos this] at v4
            exact neg_ge v1 (by omega) f2
        · have h5 : ¬ U x < U y := by omega
          rw [decide_eq_false h5] at v3
          rw [if_neg h5] at v4
          subst v3
          obtain ⟨u, u1, u2, u3⟩ := last_sub v1 hy (by omega) (by omega)
          have hs2 := fl_run .sub (a := v) (b := y) u2
          have hT := turn_of sx true u u1
          refine ⟨u, u1, by unfold remN; rw [← r2, if_neg g1, if_neg g2, u3, v4]; omega, ?_⟩
          have e : remT (U x) (U y) = true := by unfold remT; rw [← r2, if_neg g1, if_neg g2]
          rw [e]
          exact rem_bnC _ _ x y hf v (wd true u) _ sx sy w H hT heq hhalf htiny hh2 ht1 hs1 (by rw [is_ge v1 f2, decide_eq_true (by omega)]) hs2
end Go.Proofs.Ytcpfnepkjbadjaa
