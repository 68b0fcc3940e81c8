/- math.ldexp scales a finite number by a power of two and rounds once: the walk and the plain law joined. -/
import Derived.Test.YtcpfnepkjbadjaaLdCore
namespace Go.Proofs.Ytcpfnepkjbadjaa
open Ieee
open Go.ChangeShapes Go.WideShapes Go.ChangeAt Go.RowKit
set_option linter.unusedVariables false
theorem mul_pow' (s : Bool) (r : Nat) (e : Int) (h : r < double.infRung) (h1 : -1022 ≤ e) (h2 : e ≤ 1023) :
    double.mul (wd false ((e + 1023).toNat * 2 ^ 52)) (wd s r) = some (wd s (rnE (U r) e)) := by
  have hb : (e + 1023).toNat * 2 ^ 52 < double.infRung := by rw [infRung_eq]; omega
  rw [mul_fin false s _ r hb h]
  have hU : U ((e + 1023).toNat * 2 ^ 52) = 2 ^ (e + 1074).toNat := by
    unfold U
    rw [if_neg (by omega), Nat.mul_mod_left, Nat.mul_div_cancel _ (Nat.two_pow_pos 52), Nat.add_zero, ← Nat.pow_add]
    congr 1; omega
  rw [hU, Bool.false_xor, Nat.mul_comm, rn_shift]
  unfold rnE
  rw [show (e + 1074).toNat - 1074 = e.toNat by omega, show 1074 - (e + 1074).toNat = (-e).toNat by omega]
theorem rnE_le (n : Nat) (e : Int) : rnE n e ≤ double.infRung := by
  unfold rnE rn
  split
  · rw [infRung_eq]; omega
  · exact Nat.min_le_right _ _
/-- a normal rung's parts -/
theorem norm_parts {r : Nat} (h1 : 2 ^ 52 ≤ r) (h2 : r < double.infRung) : ∃ E f, r = E * 2 ^ 52 + f ∧ f < 2 ^ 52 ∧ 1 ≤ E ∧ E ≤ 2046 ∧ U r = (2 ^ 52 + f) * 2 ^ (E - 1) := by
  rw [infRung_eq] at h2
  refine ⟨r / 2 ^ 52, r % 2 ^ 52, by omega, Nat.mod_lt _ (by omega), by omega, by omega, ?_⟩
  unfold U
  rw [if_neg (by omega)]
/-- what normalize leaves: a normal rung, of the same worth -/
theorem norm_ex (s : Bool) (r : Nat) (h0 : r ≠ 0) (hr : r < double.infRung) :
    ∃ r' e1, 2 ^ 52 ≤ r' ∧ r' < double.infRung ∧ -52 ≤ e1 ∧ e1 ≤ 0 ∧ (∀ e, rnE (U r) e = rnE (U r') (e + e1)) ∧
      ∀ w, Calls Try.prog 44 #[.float .f64 (wd s r)] w fun e w' => e = .returned (.tuple #[.float .f64 (wd s r'), .int .i64 e1]) ∧ w = w' := by
  have hr3 : r < 2 ^ 63 := by rw [infRung_eq] at hr; omega
  have hm := (wd_mod s r hr3).1
  have hl := wd_lt s r hr3
  by_cases hs : r < 2 ^ 52
  · have hU : U r = r := by unfold U; rw [if_pos hs]
    have hlog : r.log2 < 52 := (Nat.log2_lt h0).2 hs
    have hlo : 2 ^ r.log2 ≤ r := Nat.log2_self_le h0
    have hhi : r < 2 ^ (r.log2 + 1) := Nat.lt_log2_self
    -- r * 2^52 = c * 2^(log2 r), c of 53 digits
    have hc1 : 2 ^ 52 ≤ r * 2 ^ (52 - r.log2) := by
      have := Nat.mul_le_mul_right (2 ^ (52 - r.log2)) hlo
      rw [← Nat.pow_add, show r.log2 + (52 - r.log2) = 52 by omega] at this
      exact this
    have hc2 : r * 2 ^ (52 - r.log2) < 2 ^ 53 := by
      have := (Nat.mul_lt_mul_right (Nat.two_pow_pos (52 - r.log2))).2 hhi
      rw [← Nat.pow_add, show r.log2 + 1 + (52 - r.log2) = 53 by omega] at this
      exact this
    have e52 : rnE (U r) 52 = r.log2 * 2 ^ 52 + r * 2 ^ (52 - r.log2) := by
      have h := rnE_shift r (52 - r.log2) 52
      rw [show (52 : Int) - ((52 - r.log2 : Nat) : Int) = (r.log2 : Int) by omega] at h
      rw [hU, ← h, rnE_normal _ _ hc1 hc2 (by omega) (by omega), Int.toNat_natCast]
    have hrl : rnE (U r) 52 < double.infRung := by rw [e52, infRung_eq]; omega
    have hUr : U (rnE (U r) 52) = r * 2 ^ 52 := by
      rw [e52]
      unfold U
      rw [if_neg (by omega), show (r.log2 * 2 ^ 52 + r * 2 ^ (52 - r.log2)) % 2 ^ 52 = r * 2 ^ (52 - r.log2) - 2 ^ 52 by omega, show (r.log2 * 2 ^ 52 + r * 2 ^ (52 - r.log2)) / 2 ^ 52 - 1 = r.log2 by omega, show 2 ^ 52 + (r * 2 ^ (52 - r.log2) - 2 ^ 52) = r * 2 ^ (52 - r.log2) by omega, Nat.mul_assoc, ← Nat.pow_add, show 52 - r.log2 + r.log2 = 52 by omega]
    refine ⟨rnE (U r) 52, -52, by rw [e52]; omega, hrl, by omega, by omega, fun e => ?_, fun w => ?_⟩
    · rw [hUr, hU]
      exact (rnE_shift r 52 e).symm
    · refine normalize_lo (wd s r) _ w hl (by rw [hm]; exact hs) (run_float_arith w .mul 22 .f64 _ _ _ ?_)
      have := mul_pow s r 52 hr (by omega) (by omega)
      exact this
  · refine ⟨r, 0, by omega, hr, by omega, by omega, fun e => by rw [Int.add_zero], fun w => ?_⟩
    exact normalize_hi (wd s r) w hl (by rw [hm]; omega) (by rw [hm]; exact hr)
theorem order_neg (s : Bool) (r : Nat) (h : r < double.infRung) (h0 : r ≠ 0) : (FloatKind.f64.format.order (wd s r) 0 == some .lt) = s := by
  have hr3 : r < 2 ^ 63 := by rw [infRung_eq] at h; omega
  have hl := wd_lt s r hr3
  have hm := (wd_mod s r hr3).1
  have hn : nanB (wd s r) = false := by unfold nanB; rw [hm]; simp; omega
  rw [fmt_eq]
  have hd : decide (2 ^ 63 ≤ wd s r) = s := by
    show decide (2 ^ 63 ≤ (if s then 2 ^ 63 + r else r)) = s
    cases s <;> simp <;> omega
  have hV : V (wd s r) = sn s r := by unfold V; rw [hm, hd]
  cases s
  · rw [ord_gt hl (by omega) hn nan_zero (by rw [hV, V_zero]; unfold sn; simp; omega)]; rfl
  · rw [ord_lt hl (by omega) hn nan_zero (by rw [hV, V_zero]; unfold sn; simp; omega)]; rfl
theorem ldexp_fin (s : Bool) (r : Nat) (e : Int) (w : World) (hr : r < double.infRung) (h0 : r ≠ 0) (h1 : -200000 ≤ e) (h2 : e ≤ 200000) :
    Calls Try.prog 38 #[.float .f64 (wd s r), .int .i64 e] w fun e' w' => e' = .returned (.float .f64 (wd s (rnE (U r) e))) ∧ w = w' := by
  obtain ⟨r', e1, hr1, hr2, he1, he2, heq, hN⟩ := norm_ex s r h0 hr
  obtain ⟨E, f, hrE, hf, hE1, hE2, hU⟩ := norm_parts hr1 hr2
  have hr3 : r < 2 ^ 63 := by rw [infRung_eq] at hr; omega
  have hr3' : r' < 2 ^ 63 := by rw [infRung_eq] at hr2; omega
  have hl := wd_lt s r hr3
  have hl' := wd_lt s r' hr3'
  have hm := (wd_mod s r hr3).1
  have hm' := (wd_mod s r' hr3').1
  have hd' := (wd_mod s r' hr3').2
  have hs2 : s.toNat < 2 := by cases s <;> decide
  have hwE : wd s r' = s.toNat * 2 ^ 63 + r' := by
    have := Nat.div_add_mod (wd s r') (2 ^ 63)
    rw [hd', hm'] at this
    omega
  have hq : wd s r' / 2 ^ 52 = s.toNat * 2048 + E := by rw [hwE, hrE]; omega
  have hmod : wd s r' % 2 ^ 52 = f := by rw [hwE, hrE]; omega
  have H : Ldx (wd s r) (wd s r') (s.toNat * 2048 + E) E (s.toNat * 2 ^ 63 + f) e1 := by
    refine ⟨hl, hl', zero_test hl (by rw [hm]; exact h0), ?_, ?_, hN, he1, he2, ?_, by omega, ?_, hE1, hE2, ?_⟩
    · unfold infB; rw [hm]; simp; omega
    · unfold nanB; rw [hm]; simp; omega
    · have : ((wd s r' : Nat) : Int) / 4503599627370496 = ((wd s r' / 2 ^ 52 : Nat) : Int) := by omega
      rw [this, hq]
    · have := mask_bits (s.toNat * 2048 + E) (by omega)
      rw [this, show (s.toNat * 2048 + E) % 2048 = E by omega]
    · have := clear_bits hl'
      rw [this, hd', hmod]
  have key : rnE (U r) e = rnE (2 ^ 52 + f) (e + e1 + E - 1) := by
    rw [heq, hU]
    have := rnE_shift (2 ^ 52 + f) (E - 1) (e + e1 + E - 1)
    rw [show e + e1 + (E : Int) - 1 - ((E - 1 : Nat) : Int) = e + e1 by omega] at this
    exact this
  rw [key]
  generalize hp : e + e1 + (E : Int) - 1 = p
  by_cases c1 : p ≤ -54
  · have := ldexp_under _ _ _ _ _ e e1 w H h1 h2 (by omega)
    rw [rnE_under _ _ (by omega) c1]
    rw [hd'] at this
    have e0 : wd s 0 = s.toNat * 2 ^ 63 := by cases s <;> rfl
    rw [e0]
    exact this
  · by_cases c2 : 2046 ≤ p
    · rw [rnE_over _ _ (by omega) c2]
      refine ldexp_over _ _ _ _ _ _ e e1 w H h1 h2 (by omega) ?_
      rw [order_neg s r' hr2 (by omega)]
      cases s
      · exact .inr ⟨rfl, rfl⟩
      · exact .inl ⟨rfl, rfl⟩
    · by_cases c3 : 0 ≤ p
      · rw [rnE_normal _ _ (by omega) (by omega) c3 (by omega)]
        have hX := set_bits s.toNat (p.toNat + 1) f hs2 (by omega) hf
        have hw : wd s (p.toNat * 2 ^ 52 + (2 ^ 52 + f)) = s.toNat * 2 ^ 63 + ((p.toNat + 1) * 2 ^ 52 + f) := by
          have h3 : p.toNat * 2 ^ 52 + (2 ^ 52 + f) < 2 ^ 63 := by omega
          have := Nat.div_add_mod (wd s (p.toNat * 2 ^ 52 + (2 ^ 52 + f))) (2 ^ 63)
          rw [(wd_mod s _ h3).1, (wd_mod s _ h3).2] at this
          omega
        refine ldexp_norm _ _ _ _ _ (s.toNat * 2 ^ 63 + ((p.toNat + 1) * 2 ^ 52 + f)) _ e e1 w H h1 h2 (by omega) (by omega) ?_ (run_float_arith w .mul 22 .f64 _ _ _ ?_)
        · rw [← hX]
          congr 1
          omega
        · have hb : p.toNat * 2 ^ 52 + (2 ^ 52 + f) < double.infRung := by rw [infRung_eq]; omega
          have := mul_pow' s (p.toNat * 2 ^ 52 + (2 ^ 52 + f)) 0 hb (by omega) (by omega)
          rw [rnE_U _ hb, hw] at this
          rw [hw]
          exact this
      · have hX := set_bits s.toNat ((p + 54).toNat) f hs2 (by omega) hf
        have hb : (p + 53).toNat * 2 ^ 52 + (2 ^ 52 + f) < double.infRung := by rw [infRung_eq]; omega
        have hw : wd s ((p + 53).toNat * 2 ^ 52 + (2 ^ 52 + f)) = s.toNat * 2 ^ 63 + ((p + 54).toNat * 2 ^ 52 + f) := by
          have h3 : (p + 53).toNat * 2 ^ 52 + (2 ^ 52 + f) < 2 ^ 63 := by rw [infRung_eq] at hb; omega
          have := Nat.div_add_mod (wd s ((p + 53).toNat * 2 ^ 52 + (2 ^ 52 + f))) (2 ^ 63)
          rw [(wd_mod s _ h3).1, (wd_mod s _ h3).2] at this
          omega
        have hU2 : U ((p + 53).toNat * 2 ^ 52 + (2 ^ 52 + f)) = (2 ^ 52 + f) * 2 ^ (p + 53).toNat := by
          unfold U
          rw [if_neg (by omega), show ((p + 53).toNat * 2 ^ 52 + (2 ^ 52 + f)) % 2 ^ 52 = f by omega, show ((p + 53).toNat * 2 ^ 52 + (2 ^ 52 + f)) / 2 ^ 52 - 1 = (p + 53).toNat by omega]
        refine ldexp_den _ _ _ _ _ (s.toNat * 2 ^ 63 + ((p + 54).toNat * 2 ^ 52 + f)) _ e e1 w H h1 h2 (by omega) (by omega) ?_ (run_float_arith w .mul 22 .f64 _ _ _ ?_)
        · rw [← hX]
          congr 1
          omega
        · have := mul_pow' s ((p + 53).toNat * 2 ^ 52 + (2 ^ 52 + f)) (-53) hb (by omega) (by omega)
          rw [hU2, hw] at this
          have h4 := rnE_shift (2 ^ 52 + f) (p + 53).toNat p
          rw [show p - (((p + 53).toNat : Nat) : Int) = -53 by omega] at h4
          rw [h4] at this
          exact this
end Go.Proofs.Ytcpfnepkjbadjaa
