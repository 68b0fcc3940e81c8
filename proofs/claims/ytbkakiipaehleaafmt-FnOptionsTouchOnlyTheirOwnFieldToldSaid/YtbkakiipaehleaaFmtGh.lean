/- The walk of FnOptionsTouchOnlyTheirOwnField: true at every input. -/
import Derived.Test.YtbkakiipaehleaaFmtGf
namespace Go.Proofs.YtbkakiipaehleaaFmt
open Go.RowKit Go.MapKept Go.ChangeMaps
set_option maxRecDepth 100000
set_option linter.unusedVariables false
set_option linter.unusedSimpArgs false
def K0 (w : World) (C : Nat) (V : Value) : Prop := ∃ cc : Array Value, Blk w C 76 cc ∧ cc[0]? = some .nilIface ∧ cc[1]? = some .nilFunc ∧ cc[2]? = some V ∧ cc[3]? = some (.map none)
def K1 (w : World) (C : Nat) (V : Value) (es : Array MapEntry) (clock : Nat) : Prop := ∃ (cc : Array Value) (B : Nat), KAt w C cc B es clock ∧ cc[0]? = some .nilIface ∧ cc[1]? = some .nilFunc ∧ cc[2]? = some V ∧ C < B
theorem lt_of_arr {cc : Array Value} {i : Nat} {u : Value} (h : cc[i]? = some u) : i < cc.size := (Array.getElem?_eq_some_iff.1 h).1
theorem K0.below {w w' : World} {C : Nat} {V : Value} (h : K0 w C V) (hb : Below w.heap.size w w') : K0 w' C V := by
  obtain ⟨cc, h1, h2⟩ := h
  exact ⟨cc, h1.below hb h1.lt, h2⟩
theorem K1.below {w w' : World} {C clock : Nat} {V : Value} {es : Array MapEntry} (h : K1 w C V es clock) (hb : Below w.heap.size w w') : K1 w' C V es clock := by
  obtain ⟨cc, B, h1, h2⟩ := h
  exact ⟨cc, B, h1.below hb, h2⟩
theorem KAt.setC {w : World} {C B clock i : Nat} {cc : Array Value} {es : Array MapEntry} (h : KAt w C cc B es clock) (hCB : C < B) (hi : i ≠ 3) (u : Value) : KAt (w.setCell ⟨C, i, none⟩ u) C (cc.setIfInBounds i u) B es clock :=
  ⟨h.c.set_ i u, by rw [Array.getElem?_setIfInBounds_ne hi]; exact h.h3, (Below.heap_setCell w ⟨C, i, none⟩ u B (by show B ≠ C; omega)).trans h.b⟩
theorem ret1 {C i : Nat} {u : Value} {w : World} (e : Ending) (w' : World) (h : e = .returned (.tuple #[]) ∧ w' = w.setCell ⟨C, i, none⟩ u) : e = .returned (.tuple #[]) := h.1
def Stp0 (C : Nat) (V : Value) (w : World) (e : Ending) (w' : World) : Prop := e = .returned (.tuple #[]) ∧ K0 w' C V ∧ Below C w w'
def Stp1 (C : Nat) (V : Value) (es : Array MapEntry) (clock : Nat) (w : World) (e : Ending) (w' : World) : Prop := e = .returned (.tuple #[]) ∧ K1 w' C V es clock ∧ Below C w w'
theorem below_setC (C i : Nat) (w : World) (u : Value) : Below C w (w.setCell ⟨C, i, none⟩ u) := (Below.refl C w).setCell (p := ⟨C, i, none⟩) (Nat.le_refl _) u
theorem k0env {w : World} {C p : Nat} {V : Value} (h : K0 w C V) (hp : Blk w p 46 #[.nilFunc]) : Calls Tryf.prog 9 #[.pointer (some ⟨C, 0, none⟩), .func (.func 26) #[] #[.pointer (some ⟨p, 0, none⟩)]] w (Stp0 C V w) := by
  obtain ⟨cc, h1, h2, h3, h4, h5⟩ := h
  refine (apply9_26 C p w _ ret1 (ap26 C p cc w h1 (lt_of_arr h3) hp)).mono ?_
  rintro e w' ⟨rfl, rfl⟩
  exact ⟨rfl, ⟨_, h1.set_ 1 _, by rw [Array.getElem?_setIfInBounds_ne (by decide)]; exact h2, set_at _ _ _ (lt_of_arr h3), by rw [Array.getElem?_setIfInBounds_ne (by decide)]; exact h4, by rw [Array.getElem?_setIfInBounds_ne (by decide)]; exact h5⟩, below_setC _ _ _ _⟩
theorem k0mod {w : World} {C p : Nat} {V : Value} (h : K0 w C V) (hp : Blk w p 45 #[.nilIface]) : Calls Tryf.prog 9 #[.pointer (some ⟨C, 0, none⟩), .func (.func 27) #[] #[.pointer (some ⟨p, 0, none⟩)]] w (Stp0 C V w) := by
  obtain ⟨cc, h1, h2, h3, h4, h5⟩ := h
  refine (apply9_27 C p w _ ret1 (ap27 C p cc w h1 (lt_of_arr h2) hp)).mono ?_
  rintro e w' ⟨rfl, rfl⟩
  exact ⟨rfl, ⟨_, h1.set_ 0 _, set_at _ _ _ (lt_of_arr h2), by rw [Array.getElem?_setIfInBounds_ne (by decide)]; exact h3, by rw [Array.getElem?_setIfInBounds_ne (by decide)]; exact h4, by rw [Array.getElem?_setIfInBounds_ne (by decide)]; exact h5⟩, below_setC _ _ _ _⟩
theorem k0vars {w : World} {C p n c : Nat} {V : Value} {A : Option Addr} (h : K0 w C V) (hp : Blk w p 35 #[.slice A n c]) : Calls Tryf.prog 9 #[.pointer (some ⟨C, 0, none⟩), .func (.func 28) #[] #[.pointer (some ⟨p, 0, none⟩)]] w (Stp0 C (.slice A n c) w) := by
  obtain ⟨cc, h1, h2, h3, h4, h5⟩ := h
  refine (apply9_28 C p w _ ret1 (ap28 C p cc A n c w h1 (lt_of_arr h4) hp)).mono ?_
  rintro e w' ⟨rfl, rfl⟩
  exact ⟨rfl, ⟨_, h1.set_ 2 _, by rw [Array.getElem?_setIfInBounds_ne (by decide)]; exact h2, by rw [Array.getElem?_setIfInBounds_ne (by decide)]; exact h3, set_at _ _ _ (lt_of_arr h4), by rw [Array.getElem?_setIfInBounds_ne (by decide)]; exact h5⟩, below_setC _ _ _ _⟩
theorem k1env {w : World} {C p clock : Nat} {V : Value} {es : Array MapEntry} (h : K1 w C V es clock) (hp : Blk w p 46 #[.nilFunc]) : Calls Tryf.prog 9 #[.pointer (some ⟨C, 0, none⟩), .func (.func 26) #[] #[.pointer (some ⟨p, 0, none⟩)]] w (Stp1 C V es clock w) := by
  obtain ⟨cc, B, h1, h2, h3, h4, h5⟩ := h
  refine (apply9_26 C p w _ ret1 (ap26 C p cc w h1.c (lt_of_arr h3) hp)).mono ?_
  rintro e w' ⟨rfl, rfl⟩
  exact ⟨rfl, ⟨_, B, h1.setC h5 (by decide) _, by rw [Array.getElem?_setIfInBounds_ne (by decide)]; exact h2, set_at _ _ _ (lt_of_arr h3), by rw [Array.getElem?_setIfInBounds_ne (by decide)]; exact h4, h5⟩, below_setC _ _ _ _⟩
theorem k1mod {w : World} {C p clock : Nat} {V : Value} {es : Array MapEntry} (h : K1 w C V es clock) (hp : Blk w p 45 #[.nilIface]) : Calls Tryf.prog 9 #[.pointer (some ⟨C, 0, none⟩), .func (.func 27) #[] #[.pointer (some ⟨p, 0, none⟩)]] w (Stp1 C V es clock w) := by
  obtain ⟨cc, B, h1, h2, h3, h4, h5⟩ := h
  refine (apply9_27 C p w _ ret1 (ap27 C p cc w h1.c (lt_of_arr h2) hp)).mono ?_
  rintro e w' ⟨rfl, rfl⟩
  exact ⟨rfl, ⟨_, B, h1.setC h5 (by decide) _, set_at _ _ _ (lt_of_arr h2), by rw [Array.getElem?_setIfInBounds_ne (by decide)]; exact h3, by rw [Array.getElem?_setIfInBounds_ne (by decide)]; exact h4, h5⟩, below_setC _ _ _ _⟩
theorem k0fn {w : World} {C a p q r t : Nat} {V : Value} {s : ByteArray} (h : K0 w C V) (ho : Opt w s a p q r t) :
    Calls Tryf.prog 9 #[.pointer (some ⟨C, 0, none⟩), .func (.func 30) #[] #[.pointer (some ⟨p, 0, none⟩), .pointer (some ⟨q, 0, none⟩), .pointer (some ⟨r, 0, none⟩), .pointer (some ⟨t, 0, none⟩)]] w (Stp1 C V #[⟨.string s, .agg #[.int .i64 a, .bool false, .nilFunc], 0⟩] 1 w) := by
  obtain ⟨cc, h1, h2, h3, h4, h5⟩ := h
  refine (apply9_30 C p q r t w _ applied_ret (apply_first C a p q r t cc s w h1 h5 ho)).mono ?_
  rintro e w' ⟨rfl, B, hK, hCB, hb⟩
  exact ⟨rfl, ⟨_, B, hK, by rw [Array.getElem?_setIfInBounds_ne (by decide)]; exact h2, by rw [Array.getElem?_setIfInBounds_ne (by decide)]; exact h3, by rw [Array.getElem?_setIfInBounds_ne (by decide)]; exact h4, hCB⟩, hb⟩
theorem k1custom {w : World} {C a : Nat} {V : Value} {s : ByteArray} (h : K1 w C V #[⟨.string s, .agg #[.int .i64 a, .bool false, .nilFunc], 0⟩] 1) : Calls Tryf.prog 11 #[.pointer (some ⟨C, 0, none⟩), .string s] w (Got a w) := by
  obtain ⟨cc, B, h1, _⟩ := h
  exact custom_hit C B 0 a 1 cc _ s .nilFunc w h1 (Or.inl rfl) (by simp [Instr.findNow, same_yes])
theorem k1count {w : World} {C clock : Nat} {V : Value} {es : Array MapEntry} (h : K1 w C V es clock) : Calls Tryf.prog 12 #[.pointer (some ⟨C, 0, none⟩)] w fun e w' => e = .returned (.int .i64 es.size) ∧ w = w' := by
  obtain ⟨cc, B, h1, _⟩ := h
  exact count_any C B cc es clock w h1
theorem k1cells {w : World} {C clock : Nat} {V : Value} {es : Array MapEntry} (h : K1 w C V es clock) : w.cell? ⟨C, 0, none⟩ = some .nilIface ∧ w.cell? ⟨C, 1, none⟩ = some .nilFunc ∧ w.cell? ⟨C, 2, none⟩ = some V := by
  obtain ⟨cc, B, h1, h2, h3, h4, _⟩ := h
  exact ⟨(h1.c.cell 0).trans h2, (h1.c.cell 1).trans h3, (h1.c.cell 2).trans h4⟩
set_option maxHeartbeats 16000000 in
theorem law_touch (A : Option Addr) (c : Nat) (xs : List ByteArray) (s : ByteArray) (a b : Int) (l : Bool) (w : World) (hA : A = none → c = 0 ∧ xs = []) (hx : RdAt w w.heap.size A (vStrs xs)) (hn : xs.length ≤ 9223372036854775807) :
    Calls Tryf.prog 5 #[.slice A xs.length c, .string s, .int .i64 a, .int .i64 b, .bool l] w fun e w' => e = .returned (.bool true) ∧ Below w.heap.size w w' := by
  have hzz := Lib.hid (zz15 A c w.heap.size xs s a b l w hx hn)
  have hv := Lib.hid (valid_any a b w)
  by_cases h1 : xs.length ≤ 65536
  · have hby := Lib.hid (bytes16 A c w.heap.size xs w hx (by omega))
    have hcl : Hid (Calls Tryf.prog 17 #[.slice A xs.length c] w (Copied (vStrs xs) w)) := by
      show Calls _ _ _ _ _
      cases A with
      | none => obtain ⟨rfl, rfl⟩ := hA rfl; exact cloneStrs_nil w
      | some a =>
        have h := cloneStrs_some a c (vStrs xs) w hx (fun x hx => by
          obtain ⟨y, _, rfl⟩ := List.mem_map.1 hx
          exact ⟨y, rfl⟩) (by rw [vStrs_len]; omega)
        rw [vStrs_len] at h
        exact h
    clear hA hx
    by_cases h2 : 0 ≤ a ∧ a ≤ b ∧ b ≤ 30
    · obtain ⟨lo, rfl⟩ : ∃ lo : Nat, a = lo := ⟨a.toNat, by omega⟩
      obtain ⟨hi, rfl⟩ : ∃ hi : Nat, b = hi := ⟨b.toNat, by omega⟩
      have l1 : lo ≤ hi := by omega
      have l2 : hi ≤ 30 := by omega
      rw [decide_eq_true h2] at hv
      have hm := Lib.hid fun W => mask_any (ar lo hi) lo hi lo hi W (ar_lt lo hi l2) (ar_ok lo hi l1)
      clear h2
      go_enter Tryf.func5, Tryf.ntmps5
      go_wp2_with fail
      with_reducible refine (hzz.out).mono ?_
      rintro e0 w0 ⟨bb, rfl, rfl⟩
      cases bb
      · go_wp2_with fail
        go_ret
        exact ⟨rfl, Below.refl _ _⟩
      · go_wp2_with fail
        with_reducible refine (hby.out).mono ?_
        rintro e0 w0 ⟨m, rfl, rfl⟩
        by_cases hm1 : 1048576 < wrap64 (m + (s.size : Int))
        · go_wp2_with fail
          go_ret
          exact ⟨rfl, Below.refl _ _⟩
        · go_wp2_with fail
          with_reducible refine (hv.out).mono ?_
          rintro e0 w0 ⟨rfl, rfl⟩
          go_wp2_with fail
          with_reducible refine (hcl.out).mono ?_
          rintro e1 w1 ⟨Ax, cx, rfl, hR, hb1⟩
          rw [vStrs_len]
          have HR := Lib.hid hR
          have HB1 := Lib.hid hb1
          have hnk := Lib.hid (newK w1)
          clear hR hcl hzz hby hv hb1 hm1
          go_wp2_with fail
          with_reducible refine (hnk.out).mono ?_
          rintro e2 w2 ⟨cc, rfl, hC, q0, q1, q2, q3, hb2, _⟩
          have HK := Lib.hid (show K0 w2 w1.heap.size (.slice none 0 0) from ⟨cc, hC, q0, q1, q2, q3⟩)
          have HB := Lib.hid hb2
          clear hC q0 q1 q2 q3 hb2 hnk
          cases l
          · have hmk := Lib.hid (mk20 Ax xs.length cx w2)
            go_wp2_with fail
            with_reducible refine (hmk.out).mono ?_
            rintro e3 w3 ⟨p, rfl, hp, hb3⟩
            have hap := Lib.hid (k0vars (HK.out.below hb3) hp)
            have HB' := Lib.hid (HB.out.trans (hb3.mono HB.out.size))
            clear hmk hp hb3 HK HB
            go_wp2_with fail
            with_reducible refine (hap.out).mono ?_
            rintro e4 w4 ⟨rfl, hk4, hb4⟩
            have HK := Lib.hid hk4
            have HB := Lib.hid (HB'.out.trans hb4)
            clear hap hk4 hb4 HB'
            have hmk := Lib.hid (with10 s lo hi w4 l1 l2)
            go_wp2_with fail
            with_reducible refine (hmk.out).mono ?_
            rintro e5 w5 ⟨p, q, r, t, rfl, hp, hb5⟩
            have hap := Lib.hid (k0fn (HK.out.below hb5) hp)
            have HB' := Lib.hid (HB.out.trans (hb5.mono HB.out.size))
            clear hmk hp hb5 HK HB
            go_wp2_with fail
            with_reducible refine (hap.out).mono ?_
            rintro e6 w6 ⟨rfl, hk6, hb6⟩
            have HK := Lib.hid hk6
            have HB := Lib.hid (HB'.out.trans hb6)
            clear hap hk6 hb6 HB'
            have hmk := Lib.hid (mk18 w6)
            go_wp2_with fail
            with_reducible refine (hmk.out).mono ?_
            rintro e7 w7 ⟨p, rfl, hp, hb7⟩
            have hap := Lib.hid (k1env (HK.out.below hb7) hp)
            have HB' := Lib.hid (HB.out.trans (hb7.mono HB.out.size))
            clear hmk hp hb7 HK HB
            go_wp2_with fail
            with_reducible refine (hap.out).mono ?_
            rintro e8 w8 ⟨rfl, hk8, hb8⟩
            have HK := Lib.hid hk8
            have HB := Lib.hid (HB'.out.trans hb8)
            clear hap hk8 hb8 HB'
            have hmk := Lib.hid (mk19 w8)
            go_wp2_with fail
            with_reducible refine (hmk.out).mono ?_
            rintro e9 w9 ⟨p, rfl, hp, hb9⟩
            have hap := Lib.hid (k1mod (HK.out.below hb9) hp)
            have HB' := Lib.hid (HB.out.trans (hb9.mono HB.out.size))
            clear hmk hp hb9 HK HB
            go_wp2_with fail
            with_reducible refine (hap.out).mono ?_
            rintro e10 w10 ⟨rfl, hk10, hb10⟩
            have HK := Lib.hid hk10
            have HB := Lib.hid (HB'.out.trans hb10)
            clear hap hk10 hb10 HB'
            obtain ⟨c0, c1, c2⟩ := k1cells HK.out
            have h22 := Lib.hid (vars22 w1.heap.size _ w10 c2)
            have h21 := Lib.hid (same21 Ax cx w1.heap.size xs w10 (RdAt.below HB.out HR.out) (by omega))
            clear c0 c1 c2
            go_wp2_with fail
            with_reducible refine (h22.out).mono ?_
            rintro ea wa ⟨rfl, rfl⟩
            go_wp2_with fail
            with_reducible refine (h21.out).mono ?_
            rintro eb wb ⟨rfl, nd, rfl⟩
            have hbn := below_drewN (Below.refl w10.heap.size w10) nd
            have HKn := Lib.hid (HK.out.below hbn)
            have HBn := Lib.hid (HB.out.trans (hbn.mono HB.out.size))
            have hcu := Lib.hid (k1custom HKn.out)
            clear h22 h21 HK HB hbn
            go_wp2_with fail
            with_reducible refine (hcu.out).mono ?_
            rintro ec wc ⟨rfl, hbc⟩
            have HK := Lib.hid (HKn.out.below hbc)
            have HB := Lib.hid (HBn.out.trans (hbc.mono HBn.out.size))
            have hct := Lib.hid (k1count HK.out)
            clear hcu hbc HKn HBn
            go_wp2_with fail
            with_reducible refine (hct.out).mono ?_
            rintro ed wd ⟨rfl, rfl⟩
            obtain ⟨c0, c1, c2⟩ := k1cells HK.out
            have h23 := Lib.hid (env23 w1.heap.size wc c1)
            have h24 := Lib.hid (mod24 w1.heap.size wc c0)
            clear c0 c1 c2
            go_wp2_with fail
            with_reducible refine (hm.out _).mono ?_
            rintro ee we ⟨rfl, rfl⟩
            go_wp2_with fail
            with_reducible refine (h23.out).mono ?_
            rintro ef wf ⟨rfl, rfl⟩
            go_wp2_with fail
            with_reducible refine (h24.out).mono ?_
            rintro eg wg ⟨rfl, rfl⟩
            go_wp2_with fail
            go_ret
            exact ⟨rfl, HB1.out.trans (HB.out.mono HB1.out.size)⟩
          · have hmk := Lib.hid (mk18 w2)
            go_wp2_with fail
            with_reducible refine (hmk.out).mono ?_
            rintro e3 w3 ⟨p, rfl, hp, hb3⟩
            have hap := Lib.hid (k0env (HK.out.below hb3) hp)
            have HB' := Lib.hid (HB.out.trans (hb3.mono HB.out.size))
            clear hmk hp hb3 HK HB
            go_wp2_with fail
            with_reducible refine (hap.out).mono ?_
            rintro e4 w4 ⟨rfl, hk4, hb4⟩
            have HK := Lib.hid hk4
            have HB := Lib.hid (HB'.out.trans hb4)
            clear hap hk4 hb4 HB'
            have hmk := Lib.hid (mk19 w4)
            go_wp2_with fail
            with_reducible refine (hmk.out).mono ?_
            rintro e5 w5 ⟨p, rfl, hp, hb5⟩
            have hap := Lib.hid (k0mod (HK.out.below hb5) hp)
            have HB' := Lib.hid (HB.out.trans (hb5.mono HB.out.size))
            clear hmk hp hb5 HK HB
            go_wp2_with fail
            with_reducible refine (hap.out).mono ?_
            rintro e6 w6 ⟨rfl, hk6, hb6⟩
            have HK := Lib.hid hk6
            have HB := Lib.hid (HB'.out.trans hb6)
            clear hap hk6 hb6 HB'
            have hmk := Lib.hid (mk20 Ax xs.length cx w6)
            go_wp2_with fail
            with_reducible refine (hmk.out).mono ?_
            rintro e7 w7 ⟨p, rfl, hp, hb7⟩
            have hap := Lib.hid (k0vars (HK.out.below hb7) hp)
            have HB' := Lib.hid (HB.out.trans (hb7.mono HB.out.size))
            clear hmk hp hb7 HK HB
            go_wp2_with fail
            with_reducible refine (hap.out).mono ?_
            rintro e8 w8 ⟨rfl, hk8, hb8⟩
            have HK := Lib.hid hk8
            have HB := Lib.hid (HB'.out.trans hb8)
            clear hap hk8 hb8 HB'
            have hmk := Lib.hid (with10 s lo hi w8 l1 l2)
            go_wp2_with fail
            with_reducible refine (hmk.out).mono ?_
            rintro e9 w9 ⟨p, q, r, t, rfl, hp, hb9⟩
            have hap := Lib.hid (k0fn (HK.out.below hb9) hp)
            have HB' := Lib.hid (HB.out.trans (hb9.mono HB.out.size))
            clear hmk hp hb9 HK HB
            go_wp2_with fail
            with_reducible refine (hap.out).mono ?_
            rintro e10 w10 ⟨rfl, hk10, hb10⟩
            have HK := Lib.hid hk10
            have HB := Lib.hid (HB'.out.trans hb10)
            clear hap hk10 hb10 HB'
            obtain ⟨c0, c1, c2⟩ := k1cells HK.out
            have h22 := Lib.hid (vars22 w1.heap.size _ w10 c2)
            have h21 := Lib.hid (same21 Ax cx w1.heap.size xs w10 (RdAt.below HB.out HR.out) (by omega))
            clear c0 c1 c2
            go_wp2_with fail
            with_reducible refine (h22.out).mono ?_
            rintro ea wa ⟨rfl, rfl⟩
            go_wp2_with fail
            with_reducible refine (h21.out).mono ?_
            rintro eb wb ⟨rfl, nd, rfl⟩
            have hbn := below_drewN (Below.refl w10.heap.size w10) nd
            have HKn := Lib.hid (HK.out.below hbn)
            have HBn := Lib.hid (HB.out.trans (hbn.mono HB.out.size))
            have hcu := Lib.hid (k1custom HKn.out)
            clear h22 h21 HK HB hbn
            go_wp2_with fail
            with_reducible refine (hcu.out).mono ?_
            rintro ec wc ⟨rfl, hbc⟩
            have HK := Lib.hid (HKn.out.below hbc)
            have HB := Lib.hid (HBn.out.trans (hbc.mono HBn.out.size))
            have hct := Lib.hid (k1count HK.out)
            clear hcu hbc HKn HBn
            go_wp2_with fail
            with_reducible refine (hct.out).mono ?_
            rintro ed wd ⟨rfl, rfl⟩
            obtain ⟨c0, c1, c2⟩ := k1cells HK.out
            have h23 := Lib.hid (env23 w1.heap.size wc c1)
            have h24 := Lib.hid (mod24 w1.heap.size wc c0)
            clear c0 c1 c2
            go_wp2_with fail
            with_reducible refine (hm.out _).mono ?_
            rintro ee we ⟨rfl, rfl⟩
            go_wp2_with fail
            with_reducible refine (h23.out).mono ?_
            rintro ef wf ⟨rfl, rfl⟩
            go_wp2_with fail
            with_reducible refine (h24.out).mono ?_
            rintro eg wg ⟨rfl, rfl⟩
            go_wp2_with fail
            go_ret
            exact ⟨rfl, HB1.out.trans (HB.out.mono HB1.out.size)⟩
    · rw [decide_eq_false h2] at hv
      clear h2
      go_enter Tryf.func5, Tryf.ntmps5
      go_wp2_with fail
      with_reducible refine (hzz.out).mono ?_
      rintro e0 w0 ⟨bb, rfl, rfl⟩
      cases bb
      · go_wp2_with fail
        go_ret
        exact ⟨rfl, Below.refl _ _⟩
      · go_wp2_with fail
        with_reducible refine (hby.out).mono ?_
        rintro e0 w0 ⟨m, rfl, rfl⟩
        by_cases hm1 : 1048576 < wrap64 (m + (s.size : Int))
        · go_wp2_with fail
          go_ret
          exact ⟨rfl, Below.refl _ _⟩
        · go_wp2_with fail
          with_reducible refine (hv.out).mono ?_
          rintro e0 w0 ⟨rfl, rfl⟩
          go_wp2_with fail
          go_ret
          exact ⟨rfl, Below.refl _ _⟩
  · clear hA hx
    go_enter Tryf.func5, Tryf.ntmps5
    go_wp2_with fail
    with_reducible refine (hzz.out).mono ?_
    rintro e0 w0 ⟨bb, rfl, rfl⟩
    cases bb
    all_goals
      go_wp2_with fail
      go_ret
      exact ⟨rfl, Below.refl _ _⟩
end Go.Proofs.YtbkakiipaehleaaFmt
