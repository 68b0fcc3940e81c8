/- Plain facts on number texts: a sign put in front, a digit put behind, the token that scanNumber accepts. No program in sight. -/
import Derived.Test.YtlnjbfloeliabaaVal
namespace Go.Proofs.Ytlnjbfloeliabaa
open Go.PlainAid
theorem skF_shift {s t : ByteArray} (hb : ∀ i, bt t (i + 1) = bt s i) : ∀ n i, skF t n (i + 1) = skF s n i + 1
  | 0, i => rfl
  | n + 1, i => by
    simp only [skF, hb i]
    split
    · exact skF_shift hb n (i + 1)
    · rfl
section
variable {s t : ByteArray}
theorem sk_shift (hn : t.size = s.size + 1) (hb : ∀ i, bt t (i + 1) = bt s i) (i : Nat) : sk t (i + 1) = sk s i + 1 := by
  unfold sk
  rw [show t.size - (i + 1) = s.size - i by omega]
  exact skF_shift hb _ i
theorem expAt_shift (hb : ∀ i, bt t (i + 1) = bt s i) (i : Nat) : expAt t (i + 1) = expAt s i + 1 := by
  unfold expAt; rw [hb (i + 1)]; split <;> rfl
theorem vEnd_shift (hn : t.size = s.size + 1) (hb : ∀ i, bt t (i + 1) = bt s i) (i : Nat) : vEnd t (i + 1) = vEnd s i := by
  unfold vEnd
  rw [hb i, expAt_shift hb i, sk_shift hn hb, hn]
  simp
theorem fracEnd_shift (hn : t.size = s.size + 1) (hb : ∀ i, bt t (i + 1) = bt s i) (i : Nat) : fracEnd t (i + 1) = fracEnd s i + 1 := by
  unfold fracEnd; rw [hb i, sk_shift hn hb (i + 1)]; split <;> rfl
theorem validFrom_shift (hn : t.size = s.size + 1) (hb : ∀ i, bt t (i + 1) = bt s i) (q : Nat) : validFrom t (q + 1) = validFrom s q := by
  unfold validFrom
  rw [hb q, sk_shift hn hb q, sk_shift hn hb (q + 1), fracEnd_shift hn hb, vEnd_shift hn hb, vEnd_shift hn hb]
  simp
end
theorem bt_append_left (a b : ByteArray) (i : Nat) (h : i < a.size) : bt (a ++ b) i = bt a i := by
  unfold bt
  rw [dif_pos h, dif_pos (by rw [ByteArray.size_append]; omega)]
  rw [ByteArray.getElem_append_left h]
theorem bt_append_right (a b : ByteArray) (i : Nat) : bt (a ++ b) (a.size + i) = bt b i := by
  unfold bt
  by_cases h : i < b.size
  · rw [dif_pos h, dif_pos (by rw [ByteArray.size_append]; omega), ByteArray.getElem_append_right (by omega)]
    simp
  · rw [dif_neg h, dif_neg (by rw [ByteArray.size_append]; omega)]
theorem bt_pre1 (c : UInt8) (s : ByteArray) (i : Nat) : bt ((⟨#[c]⟩ : ByteArray) ++ s) (i + 1) = bt s i := by
  have := bt_append_right ⟨#[c]⟩ s i
  rw [show (⟨#[c]⟩ : ByteArray).size = 1 from rfl, Nat.add_comm 1 i] at this
  exact this
theorem bt_pre0 (c : UInt8) (s : ByteArray) : bt ((⟨#[c]⟩ : ByteArray) ++ s) 0 = c.toNat := bt_append_left ⟨#[c]⟩ s 0 (by show 0 < 1; omega)
theorem valid_sign (c : UInt8) (hc : sg c.toNat = true) (s : ByteArray) (h : sg (bt s 0) = false) : validM ((⟨#[c]⟩ : ByteArray) ++ s) = validM s := by
  unfold validM
  rw [bt_pre0, hc, h, if_pos rfl, if_neg (by simp)]
  exact validFrom_shift (by rw [ByteArray.size_append]; exact Nat.add_comm 1 _) (bt_pre1 c s) 0
theorem valid_two (c d : UInt8) (hc : sg c.toNat = true) (hd : sg d.toNat = true) (s : ByteArray) : validM ((⟨#[c, d]⟩ : ByteArray) ++ s) = false := by
  have e0 : bt ((⟨#[c, d]⟩ : ByteArray) ++ s) 0 = c.toNat := bt_append_left ⟨#[c, d]⟩ s 0 (by show 0 < 2; omega)
  have e1 : bt ((⟨#[c, d]⟩ : ByteArray) ++ s) 1 = d.toNat := bt_append_left ⟨#[c, d]⟩ s 1 (by show 1 < 2; omega)
  have hd' : ((d.toNat : Int) = 43) ∨ ((d.toNat : Int) = 45) := by simpa [sg] using hd
  have n1 : dg (d.toNat : Int) = false := by rcases hd' with h | h <;> rw [h] <;> rfl
  have n2 : ¬ ((d.toNat : Int) = 46) := by omega
  unfold validM
  rw [e0, hc, if_pos rfl]
  unfold validFrom
  rw [sk_no _ 1 (by rw [e1]; exact n1), if_neg (Nat.lt_irrefl 1), e1, if_neg n2]
/-! a digit put behind -/
section
variable {s t : ByteArray}
theorem sk_more (hn : t.size = s.size + 1) (hl : ∀ i, i < s.size → bt t i = bt s i) (hd : dg (bt t s.size) = true) : ∀ n i, s.size - i = n → i ≤ s.size → sk t i = if sk s i = s.size then s.size + 1 else sk s i
  | 0, i, h, hi => by
    have e : i = s.size := by omega
    subst e
    rw [sk_yes t _ hd, sk_no t (s.size + 1) (by rw [bt_end t (by omega)]; rfl), sk_no s s.size (by rw [bt_end s (Nat.le_refl _)]; rfl), if_pos rfl]
  | n + 1, i, h, hi => by
    have hlt : i < s.size := by omega
    cases hc : dg (bt s i)
    · rw [sk_no s i hc, sk_no t i (by rw [hl i hlt]; exact hc), if_neg (by omega)]
    · rw [sk_yes s i hc, sk_yes t i (by rw [hl i hlt]; exact hc)]
      exact sk_more hn hl hd n (i + 1) (by omega) (by omega)
theorem vEnd_more (hn : t.size = s.size + 1) (hl : ∀ i, i < s.size → bt t i = bt s i) (hd : dg (bt t s.size) = true) (f : Nat) (h : vEnd s f = true) : vEnd t (if f = s.size then s.size + 1 else f) = true := by
  unfold vEnd at h
  by_cases he : ee (bt s f) = true
  · rw [if_pos he] at h
    have hf : f < s.size := by rcases Nat.lt_or_ge f s.size with h1 | h1; exact h1; rw [bt_end s h1] at he; cases he
    by_cases hx : sk s (expAt s f) = expAt s f
    · rw [if_pos hx] at h; cases h
    · rw [if_neg hx] at h
      have hz : sk s (expAt s f) = s.size := by simpa using h
      have hge := sk_ge s (expAt s f)
      have hxl : expAt s f < s.size := by omega
      have h1 : f + 1 < s.size := by unfold expAt at hxl; split at hxl <;> omega
      have ex : expAt t f = expAt s f := by unfold expAt; rw [hl (f + 1) h1]
      have hk := sk_more hn hl hd _ (expAt s f) rfl (by omega)
      rw [if_pos hz] at hk
      rw [if_neg (show ¬ f = s.size by omega)]
      unfold vEnd
      rw [hl f hf, if_pos he, ex, hk, if_neg (by omega)]
      simp [hn]
  · rw [if_neg he] at h
    have hz : f = s.size := by simpa using h
    unfold vEnd
    rw [if_pos hz, bt_end t (by omega)]
    simp [ee, hn]
theorem validFrom_more (hn : t.size = s.size + 1) (hl : ∀ i, i < s.size → bt t i = bt s i) (hd : dg (bt t s.size) = true) (q : Nat) (hq : q ≤ s.size) (h : validFrom s q = true) : validFrom t q = true := by
  unfold validFrom at h
  have hk := sk_more hn hl hd _ q rfl hq
  have hge := sk_ge s q
  have hle := sk_le s q hq
  by_cases h1 : q < sk s q
  · rw [if_pos h1] at h
    have ht : q < sk t q := by rw [hk]; split <;> omega
    unfold validFrom
    rw [if_pos ht]
    by_cases hdot : bt s (sk s q) = 46
    · have hi : sk s q < s.size := by rcases Nat.lt_or_ge (sk s q) s.size with h1 | h1; exact h1; rw [bt_end s h1] at hdot; omega
      rw [if_neg (by omega)] at hk
      have hk2 := sk_more hn hl hd _ (sk s q + 1) rfl (by omega)
      have e1 : fracEnd s (sk s q) = sk s (sk s q + 1) := by unfold fracEnd; rw [if_pos hdot]
      have e2 : fracEnd t (sk t q) = sk t (sk s q + 1) := by unfold fracEnd; rw [hk, hl _ hi, if_pos hdot]
      rw [e2, hk2]; rw [e1] at h
      exact vEnd_more hn hl hd _ h
    · have e1 : fracEnd s (sk s q) = sk s q := by unfold fracEnd; rw [if_neg hdot]
      rw [e1] at h
      have e2 : fracEnd t (sk t q) = sk t q := by
        unfold fracEnd
        rw [if_neg]
        rw [hk]; split
        · rw [bt_end t (by omega)]; omega
        · rw [hl _ (by omega)]; exact hdot
      rw [e2, hk]
      exact vEnd_more hn hl hd _ h
  · rw [if_neg h1] at h
    by_cases hdot : bt s q = 46
    · rw [if_pos hdot] at h
      have hi : q < s.size := by rcases Nat.lt_or_ge q s.size with h1 | h1; exact h1; rw [bt_end s h1] at hdot; omega
      by_cases hx : sk s (q + 1) = q + 1
      · rw [if_pos hx] at h; cases h
      · rw [if_neg hx] at h
        have hg2 := sk_ge s (q + 1)
        have hk2 := sk_more hn hl hd _ (q + 1) rfl (by omega)
        have hkq : sk t q = q := sk_no t q (by rw [hl q hi, hdot]; rfl)
        unfold validFrom
        rw [if_neg (by omega), hl q hi, if_pos hdot]
        rw [if_neg (by rw [hk2]; split <;> omega), hk2]
        exact vEnd_more hn hl hd _ h
    · rw [if_neg hdot] at h; cases h
end
theorem valid_more (s : ByteArray) (h : validM s = true) : validM (s ++ (⟨#[55]⟩ : ByteArray)) = true := by
  have hn : (s ++ (⟨#[55]⟩ : ByteArray)).size = s.size + 1 := by rw [ByteArray.size_append]; rfl
  have hl : ∀ i, i < s.size → bt (s ++ (⟨#[55]⟩ : ByteArray)) i = bt s i := fun i hi => bt_append_left s _ i hi
  have hd : dg (bt (s ++ (⟨#[55]⟩ : ByteArray)) s.size) = true := by
    have := bt_append_right s (⟨#[55]⟩ : ByteArray) 0
    rw [Nat.add_zero] at this; rw [this]; rfl
  unfold validM at h ⊢
  rcases Nat.eq_zero_or_pos s.size with h0 | h0
  · rw [bt_end s (by omega)] at h
    rw [if_neg (by decide)] at h
    unfold validFrom at h
    rw [sk_no s 0 (by rw [bt_end s (by omega)]; rfl), if_neg (Nat.lt_irrefl 0), bt_end s (by omega), if_neg (by omega)] at h
    cases h
  · rw [hl 0 h0]
    exact validFrom_more hn hl hd _ (by split <;> omega) h
/-! the token that is accepted -/
theorem sk_to (s : ByteArray) (r : Nat) (hr : dg (bt s r) = false) : ∀ n i, r - i = n → i ≤ r → sk s i ≤ r
  | 0, i, h, hi => by have e : i = r := by omega
                      subst e; rw [sk_no s i hr]; exact Nat.le_refl _
  | n + 1, i, h, hi => by
    cases hc : dg (bt s i)
    · rw [sk_no s i hc]; exact hi
    · rw [sk_yes s i hc]; exact sk_to s r hr n (i + 1) (by omega) (by omega)
section
variable {s t : ByteArray} {p r : Nat}
theorem sk_cut (hn : t.size = r - p) (hpr : p ≤ r) (hb : ∀ i, i < r - p → bt t i = bt s (p + i)) (hr : dg (bt s r) = false) : ∀ n i, r - p - i = n → i ≤ r - p → sk t i = sk s (p + i) - p
  | 0, i, h, hi => by
    have e : i = r - p := by omega
    subst e
    rw [sk_no t _ (by rw [bt_end t (by omega)]; rfl), show p + (r - p) = r by omega, sk_no s r hr]
  | n + 1, i, h, hi => by
    have hlt : i < r - p := by omega
    cases hc : dg (bt s (p + i))
    · rw [sk_no s _ hc, sk_no t i (by rw [hb i hlt]; exact hc)]; omega
    · rw [sk_yes s _ hc, sk_yes t i (by rw [hb i hlt]; exact hc)]
      rw [show p + i + 1 = p + (i + 1) by omega]
      exact sk_cut hn hpr hb hr n (i + 1) (by omega) (by omega)
theorem tok_valid (hps : p < s.size) (hd : dg (bt s p) = true) (hsc : scanM s 0 p = (r : Int)) (hn : t.size = r - p) (hb : ∀ i, i < r - p → bt t i = bt s (p + i)) :
    (p < r ∧ r ≤ s.size ∧ dg (bt s r) = false ∧ lt (bt s r) = false) ∧ validM t = true := by
  have hi0 := sk_pos s p hd
  have hle0 := sk_le s p (by omega)
  have hst0 := sk_stop s p
  -- the end of the digits and the fraction
  have hf : sk s p ≤ fracEnd s (sk s p) ∧ fracEnd s (sk s p) ≤ s.size ∧ dg (bt s (fracEnd s (sk s p))) = false := by
    unfold fracEnd
    by_cases hdot : bt s (sk s p) = 46
    · rw [if_pos hdot]
      have hi : sk s p < s.size := by rcases Nat.lt_or_ge (sk s p) s.size with h1 | h1; exact h1; rw [bt_end s h1] at hdot; omega
      have := sk_ge s (sk s p + 1)
      exact ⟨by omega, sk_le s _ (by omega), sk_stop s _⟩
    · rw [if_neg hdot]; exact ⟨Nat.le_refl _, hle0, hst0⟩
  have htl : tl s (fracEnd s (sk s p)) = (r : Int) := hsc
  unfold tl at htl
  generalize hF : fracEnd s (sk s p) = f at hf htl
  by_cases h46 : bt s f = 46
  · rw [if_pos h46] at htl; omega
  rw [if_neg h46] at htl
  have mk : ∀ (hpr : p < r) (hrs : r ≤ s.size) (hrd : dg (bt s r) = false) (hrl : lt (bt s r) = false) (hfr : f ≤ r) (hEnd : vEnd t (f - p) = true), (p < r ∧ r ≤ s.size ∧ dg (bt s r) = false ∧ lt (bt s r) = false) ∧ validM t = true := by
    intro hpr hrs hrd hrl hfr hEnd
    refine ⟨⟨hpr, hrs, hrd, hrl⟩, ?_⟩
    have b0 : bt t 0 = bt s p := by have := hb 0 (by omega); rwa [Nat.add_zero] at this
    have hsg : sg (bt t 0) = false := by
      rw [b0]
      have : 48 ≤ bt s p ∧ bt s p ≤ 57 := by simpa [dg] using hd
      simp [sg]; omega
    unfold validM
    rw [hsg, if_neg (by simp)]
    unfold validFrom
    have hk : sk t 0 = sk s p - p := by have := sk_cut hn (by omega) hb hrd _ 0 rfl (by omega); rwa [Nat.add_zero] at this
    rw [if_pos (by omega)]
    have hfe : fracEnd t (sk t 0) = f - p := by
      unfold fracEnd at hF ⊢
      rw [hk]
      by_cases hdot : bt s (sk s p) = 46
      · rw [if_pos hdot] at hF
        have hg2 := sk_ge s (sk s p + 1)
        rw [hb _ (by omega), show p + (sk s p - p) = sk s p by omega, if_pos hdot]
        have := sk_cut hn (by omega) hb hrd _ (sk s p - p + 1) rfl (by omega)
        rw [this, show p + (sk s p - p + 1) = sk s p + 1 by omega, hF]
      · rw [if_neg hdot] at hF
        rw [if_neg, hF]
        rcases Nat.lt_or_ge (sk s p) r with hlt | hge
        · rw [hb _ (by omega), show p + (sk s p - p) = sk s p by omega]; exact hdot
        · rw [bt_end t (by omega)]; omega
    rw [hfe]; exact hEnd
  by_cases he : ee (bt s f) = true
  · rw [if_pos he] at htl
    have hfl : f < s.size := by rcases Nat.lt_or_ge f s.size with h1 | h1; exact h1; rw [bt_end s h1] at he; cases he
    have hxb : f < expAt s f ∧ expAt s f ≤ s.size := by
      unfold expAt
      by_cases hg : sg (bt s (f + 1)) = true
      · rw [if_pos hg]
        have : f + 1 < s.size := by rcases Nat.lt_or_ge (f + 1) s.size with h1 | h1; exact h1; rw [bt_end s h1] at hg; cases hg
        omega
      · rw [if_neg hg]; omega
    unfold ex at htl
    have hge := sk_ge s (expAt s f)
    have hle := sk_le s (expAt s f) hxb.2
    by_cases hl : lt (bt s (sk s (expAt s f))) = true
    · rw [if_pos hl] at htl; omega
    rw [if_neg hl] at htl
    by_cases hx : sk s (expAt s f) = expAt s f
    · rw [if_pos (by simp [hx])] at htl; omega
    rw [if_neg (by simp [hx])] at htl
    have hr : sk s (expAt s f) = r := by omega
    have hst := sk_stop s (expAt s f)
    rw [hr] at hl hst hge hle hx
    have hx1 : f + 1 ≤ expAt s f ∧ expAt s f ≤ f + 2 := by unfold expAt; split <;> omega
    refine mk (by omega) (by omega) hst (by simpa using hl) (by omega) ?_
    have e1 : bt t (f - p) = bt s f := by rw [hb _ (by omega), show p + (f - p) = f by omega]
    have e2 : expAt t (f - p) = expAt s f - p := by
      unfold expAt at hge hx ⊢
      by_cases hg : sg (bt s (f + 1)) = true
      · rw [if_pos hg] at hge hx
        rw [hb _ (by omega), show p + (f - p + 1) = f + 1 by omega, if_pos hg, if_pos hg]; omega
      · rw [if_neg hg] at hge hx
        rw [hb _ (by omega), show p + (f - p + 1) = f + 1 by omega, if_neg hg, if_neg hg]; omega
    have e3 := sk_cut hn (by omega) hb hst _ (expAt s f - p) rfl (by omega)
    rw [show p + (expAt s f - p) = expAt s f by omega, hr] at e3
    unfold vEnd
    rw [e1, if_pos he, e2, e3, if_neg (by omega), hn]
    simp
  · rw [if_neg he] at htl
    by_cases hl : lt (bt s f) = true
    · rw [if_pos hl] at htl; omega
    rw [if_neg hl] at htl
    have hr : f = r := by omega
    subst hr
    refine mk (by omega) (by omega) hf.2.2 (by simpa using hl) (Nat.le_refl _) ?_
    unfold vEnd
    rw [bt_end t (by omega), hn]
    simp [ee]
theorem tok_bad (hps : p < s.size) (hd : dg (bt s p) = true) (hneg : scanM s 0 p < 0) : (p : Int) < -scanM s 0 p ∧ -scanM s 0 p ≤ (s.size : Int) := by
  have hi0 := sk_pos s p hd
  have hle0 := sk_le s p (by omega)
  have hf : sk s p ≤ fracEnd s (sk s p) ∧ fracEnd s (sk s p) ≤ s.size := by
    unfold fracEnd
    by_cases hdot : bt s (sk s p) = 46
    · rw [if_pos hdot]
      have hi : sk s p < s.size := by rcases Nat.lt_or_ge (sk s p) s.size with h1 | h1; exact h1; rw [bt_end s h1] at hdot; omega
      have := sk_ge s (sk s p + 1)
      exact ⟨by omega, sk_le s _ (by omega)⟩
    · rw [if_neg hdot]; exact ⟨Nat.le_refl _, hle0⟩
  have hsc : scanM s 0 p = tl s (fracEnd s (sk s p)) := rfl
  rw [hsc] at hneg ⊢
  generalize fracEnd s (sk s p) = f at hf hneg ⊢
  have lim : ∀ c : Int, bt s f = c → c ≠ 0 → f < s.size := fun c hc h0 => by rcases Nat.lt_or_ge f s.size with h1 | h1; exact h1; rw [bt_end s h1] at hc; omega
  unfold tl at hneg ⊢
  by_cases h46 : bt s f = 46
  · have := lim 46 h46 (by omega)
    rw [if_pos h46]; omega
  rw [if_neg h46] at hneg ⊢
  by_cases he : ee (bt s f) = true
  · rw [if_pos he] at hneg ⊢
    have hfl : f < s.size := by rcases Nat.lt_or_ge f s.size with h1 | h1; exact h1; rw [bt_end s h1] at he; cases he
    have hxb : f < expAt s f ∧ expAt s f ≤ s.size := by
      unfold expAt
      by_cases hg : sg (bt s (f + 1)) = true
      · rw [if_pos hg]
        have : f + 1 < s.size := by rcases Nat.lt_or_ge (f + 1) s.size with h1 | h1; exact h1; rw [bt_end s h1] at hg; cases hg
        omega
      · rw [if_neg hg]; omega
    have hge := sk_ge s (expAt s f)
    have hle := sk_le s (expAt s f) hxb.2
    unfold ex at hneg ⊢
    by_cases hl : lt (bt s (sk s (expAt s f))) = true
    · have := lt_lt s _ hl
      rw [if_pos hl]; omega
    rw [if_neg hl] at hneg ⊢
    by_cases hx : sk s (expAt s f) = expAt s f
    · rw [if_pos (by simp [hx])]; omega
    · rw [if_neg (by simp [hx])] at hneg; omega
  · rw [if_neg he] at hneg ⊢
    by_cases hl : lt (bt s f) = true
    · have := lt_lt s f hl
      rw [if_pos hl]; omega
    · rw [if_neg hl] at hneg; omega
end
/-- an accepted token ends within the text -/
theorem tok_end {s : ByteArray} {p r : Nat} (hps : p < s.size) (_hd : dg (bt s p) = true) (hsc : scanM s 0 p = (r : Int)) : r ≤ s.size := by
  have hle0 := sk_le s p (by omega)
  have hf : fracEnd s (sk s p) ≤ s.size := by
    unfold fracEnd
    by_cases hdot : bt s (sk s p) = 46
    · rw [if_pos hdot]
      have hi : sk s p < s.size := by rcases Nat.lt_or_ge (sk s p) s.size with h1 | h1; exact h1; rw [bt_end s h1] at hdot; omega
      exact sk_le s _ (by omega)
    · rw [if_neg hdot]; exact hle0
  have htl : tl s (fracEnd s (sk s p)) = (r : Int) := hsc
  generalize fracEnd s (sk s p) = f at hf htl
  unfold tl at htl
  by_cases h46 : bt s f = 46
  · rw [if_pos h46] at htl; omega
  rw [if_neg h46] at htl
  by_cases he : ee (bt s f) = true
  · rw [if_pos he] at htl
    have hfl : f < s.size := by rcases Nat.lt_or_ge f s.size with h1 | h1; exact h1; rw [bt_end s h1] at he; cases he
    have hxb : expAt s f ≤ s.size := by
      unfold expAt
      by_cases hg : sg (bt s (f + 1)) = true
      · rw [if_pos hg]
        have : f + 1 < s.size := by rcases Nat.lt_or_ge (f + 1) s.size with h1 | h1; exact h1; rw [bt_end s h1] at hg; cases hg
        omega
      · rw [if_neg hg]; omega
    have hle := sk_le s (expAt s f) hxb
    unfold ex at htl
    split at htl
    · omega
    · split at htl <;> omega
  · rw [if_neg he] at htl
    split at htl <;> omega
theorem cut_bt (s : ByteArray) (p r : Nat) (hr : r ≤ s.size) (i : Nat) (hi : i < r - p) : bt (s.extract p r) i = bt s (p + i) := by
  unfold bt
  have h1 : i < (s.extract p r).size := by rw [ByteArray.size_extract]; omega
  rw [dif_pos h1, dif_pos (by omega)]
  rw [ByteArray.getElem_extract]
end Go.Proofs.Ytlnjbfloeliabaa
