/- The walk of FnAppendScript: true at every script of opcodes. -/
import Derived.Test.YtbkakiipaehleaaCmp
namespace Go.Proofs.Ytbkakiipaehleaa
open Go.RowKit
set_option maxRecDepth 100000
set_option linter.unusedVariables false
def vInts (xs : List Int) : List Value := xs.map (Value.int .i64)
/-- the first j pointers lead to codes with these operators and no operand -/
def Codes (w : World) (ps : List Value) (xs : List Int) (j : Nat) : Prop := ∀ i x, i < j → xs[i]? = some x → ∃ p, ps[i]? = some (.pointer (some ⟨p, 0, none⟩)) ∧ Blk w p 132 #[.nilIface, .int .i64 x]
theorem Codes.kept {w w' : World} {ps : List Value} {xs : List Int} {j : Nat} {C : Nat} {cc : Array Value} (hC : Blk w C 121 cc) (hk : Lib.OthersKept 129 (some C) w w') (h : Codes w ps xs j) : Codes w' ps xs j := by
  intro i x hi hx
  obtain ⟨p, h1, h2⟩ := h i x hi hx
  exact ⟨p, h1, h2.kept hk (fun e => h2.ne_ hC (by decide) (by injection e)) (by decide)⟩
set_option maxHeartbeats 1000000 in
theorem zz_append (C n : Nat) (cc : Array Value) (v : Value) (x : Int) (xs : List Value) (w : World) (hC : Blk w C 121 cc) (h5 : cc[5]? = some v) (hown : w.ownsRow C 129 1 v n xs) (hn : n ≤ 10000000) :
    Calls Try.prog 31 #[.pointer (some ⟨C, 0, none⟩), .int .i64 x] w (Appd C C (n + 1) cc (xs ++ [.pointer (some ⟨w.heap.size, 0, none⟩)]) (w.alloc (.cells #[.nilIface, .int .i64 x] 132))) := by
  have hc := Lib.hid (comp_append C C n cc v (some ⟨w.heap.size, 0, none⟩) xs _ (hC.alloc (.cells #[.nilIface, .int .i64 x] 132)) h5 (hown.alloc _) (Nat.le_refl _) hn)
  clear hC h5 hown
  go_enter Try.func31, Try.ntmps31
  go_wp2_with fail
  with_reducible refine (hc.out).mono ?_
  rintro e w1 ⟨g, cap, rfl, h1, h2, h3, h4⟩
  go_wp2_with fail
  go_end0
  exact ⟨g, cap, rfl, h1, h2, h3, h4⟩
theorem codeOp_any (C g p : Nat) (n cap i : Nat) (x : Int) (w : World) (c5 : w.cell? ⟨C, 5, none⟩ = some (.slice (some ⟨g, 0, none⟩) n cap)) (hi : i < n) (hn : n ≤ 10000000) (ci : w.cell? ⟨g, i, none⟩ = some (.pointer (some ⟨p, 0, none⟩))) (c1 : w.cell? ⟨p, 1, none⟩ = some (.int .i64 x)) :
    Calls Try.prog 33 #[.pointer (some ⟨C, 0, none⟩), .int .i64 i] w fun e w' => e = .returned (.int .i64 x) ∧ w' = w := by
  go_enter Try.func33, Try.ntmps33
  go_wp2_with fail
  go_ret
  exact ⟨rfl, rfl⟩
theorem codeNil_any (C g p : Nat) (n cap i : Nat) (w : World) (c5 : w.cell? ⟨C, 5, none⟩ = some (.slice (some ⟨g, 0, none⟩) n cap)) (hi : i < n) (hn : n ≤ 10000000) (ci : w.cell? ⟨g, i, none⟩ = some (.pointer (some ⟨p, 0, none⟩))) (c0 : w.cell? ⟨p, 0, none⟩ = some .nilIface) :
    Calls Try.prog 34 #[.pointer (some ⟨C, 0, none⟩), .int .i64 i] w fun e w' => e = .returned (.bool true) ∧ w' = w := by
  go_enter Try.func34, Try.ntmps34
  go_wp2_with fail
  go_ret
  exact ⟨rfl, rfl⟩
theorem quiet_add_same {P : Program} {f : FuncId} {args : Array Value} {w : World} {a n : Nat} {v : Value}
    (h : Calls P f args (w.drewN (a + n)) fun e w' => e = .returned v ∧ w' = w.drewN (a + n)) :
    Calls P f args (w.drewN (a + n)) fun e w'' => e = .returned v ∧ ∃ m, w'' = w.drewN (a + m) :=
  h.mono fun _ _ ⟨he, hm⟩ => ⟨he, n, hm⟩
theorem zzb_script (A : Option Addr) (n c : Nat) (w : World) (hn : n ≤ 9223372036854775807) :
    Calls Try.prog 28 #[.slice A n c] w fun e w' => e = .returned (.bool (decide (n ≤ 1048576))) ∧ w = w' := by
  go_enter Try.func28, Try.ntmps28
  go_wp2
  all_goals (go_ret; exact ⟨ret_bool (by first | (symm; apply decide_eq_true; omega) | (symm; apply decide_eq_false; omega)), rfl⟩)
theorem codeLen_any (C g n cap : Nat) (w : World) (c5 : w.cell? ⟨C, 5, none⟩ = some (.slice (some ⟨g, 0, none⟩) n cap)) :
    Calls Try.prog 32 #[.pointer (some ⟨C, 0, none⟩)] w fun e w' => e = .returned (.int .i64 n) ∧ w = w' := by
  go_enter Try.func32, Try.ntmps32
  go_wp2
  go_ret
  exact ⟨rfl, rfl⟩
set_option maxHeartbeats 4000000 in
theorem law_script (A : Option Addr) (c : Nat) (xs : List Int) (w : World) (hA : A = none → c = 0 ∧ xs = []) (hx : RdAt w w.heap.size A (vInts xs)) (hn : xs.length ≤ 9223372036854775807) :
    Calls Try.prog 5 #[.slice A xs.length c] w fun e w' => e = .returned (.bool true) ∧ Below w.heap.size w w' := by
  have hvl : (vInts xs).length = xs.length := List.length_map _
  have hzz := Lib.hid (zzb_script A xs.length c w hn)
  by_cases hs : 8 * xs.length ≤ 1048576 ∧ xs.length ≤ 65536
  · obtain ⟨hs1, hs2⟩ := hs
    rw [decide_eq_true (by omega)] at hzz
    have hcl : Hid (Calls Try.prog 29 #[.slice A xs.length c] w (Copied (vInts xs) w)) := by
      show Calls _ _ _ _ _
      cases A with
      | none => obtain ⟨rfl, rfl⟩ := hA rfl; exact cloneInts_nil w
      | some a =>
        have h := cloneInts_some a c (vInts xs) w hx (fun x hx => by
          obtain ⟨y, _, rfl⟩ := List.mem_map.1 hx
          exact ⟨y, rfl⟩) (by rw [hvl]; omega)
        rw [hvl] at h
        exact h
    have HV := Lib.hid hvl
    clear hA hx hvl
    go_enter Try.func5, Try.ntmps5
    go_wp2_with fail
    with_reducible refine (hzz.out).mono ?_
    rintro e0 w0 ⟨rfl, rfl⟩
    go_wp2_with fail
    with_reducible refine (hcl.out).mono ?_
    rintro e1 w1 ⟨Ax, cx, rfl, hR, hb1⟩
    rw [HV.out]
    have HR := Lib.hid hR
    have hnc := Lib.hid (newC73 w1)
    clear hR
    go_wp2_with fail
    with_reducible refine (hnc.out).mono ?_
    rintro e2 w2 ⟨cc0, rfl, hC0, hsz0, h50, _, _, _, hb2, _⟩
    have HC0 := Lib.hid hC0
    have HS0 := Lib.hid hsz0
    have H50 := Lib.hid h50
    clear hC0 hsz0 h50
    go_wp2_with fail
    go_loopw [4] (fun i wr => ∃ (j : Nat) (cc : Array Value) (v : Value) (ps : List Value), i = .int .i64 j ∧ j ≤ xs.length ∧ Blk wr w1.heap.size 121 cc ∧ Hid (cc.size = 17) ∧ Hid (cc[5]? = some v) ∧ wr.ownsRow w1.heap.size 129 1 v j ps ∧ Codes wr ps xs j ∧ Below w1.heap.size w1 wr) (fun i _ => xs.length - (intOf i).toNat)
    case atStart => exact ⟨0, cc0, _, [], rfl, by omega, HC0.out, HS0.out, H50.out, World.ownsRow_nil _ _ _ _, fun i x hi => absurd hi (by omega), hb2⟩
    case round =>
      obtain ⟨j, cc, v, ps, rfl, hj, hC, hsz, h5, hown, hcd, hbw⟩ := hrel
      by_cases hlt : j < xs.length
      · obtain ⟨g, o, rfl, hg, c0⟩ := (RdAt.below hbw HR.out) j (.int .i64 xs[j]) (by simp [vInts, hlt])
        have HG := Lib.hid (List.getElem?_eq_getElem hlt)
        obtain ⟨x, hxx⟩ : ∃ x, Hid (xs[j] = x) := ⟨_, Lib.hid rfl⟩
        rw [hxx.out] at c0 HG
        have hpl : ps.length = j := by have := hown.1; omega
        have hap := Lib.hid (zz_append w1.heap.size j cc v x ps wr hC h5.out hown (by omega))
        have HC := Lib.hid hC
        have HD := Lib.hid hcd
        have HP := Lib.hid hpl
        clear hC hcd hown hxx hpl
        go_wp2_with fail
        with_reducible refine (hap.out).mono ?_
        rintro e3 w3 ⟨g3, cap3, rfl, hC3, ho3, hb3, hk3⟩
        have h53 : (cc.setIfInBounds 5 (.slice (some ⟨g3, 0, none⟩) (j + 1) cap3))[5]? = some (.slice (some ⟨g3, 0, none⟩) (j + 1) cap3) := set_at _ _ _ (by rw [hsz.out]; omega)
        have c5 : w3.cell? ⟨w1.heap.size, 5, none⟩ = some (.slice (some ⟨g3, 0, none⟩) (j + 1) cap3) := (hC3.cell 5).trans h53
        have H3 := Lib.hid hC3
        have HO3 := Lib.hid ho3
        have H53 := Lib.hid h53
        have hcmp : ((j : Int) + 1 != (j : Int) + 1) = false := by simp
        clear hC3 ho3 h53
        have hln := Lib.hid (codeLen_any _ _ _ _ _ c5)
        go_wp2_with fail
        with_reducible refine (hln.out).mono ?_
        rintro e4 w4 ⟨rfl, rfl⟩
        go_wp2_with fail
        go_roundw
        case rel =>
          refine ⟨j + 1, _, _, _, by go_num, by omega, H3.out, by show _ = _; rw [Array.size_setIfInBounds]; exact hsz.out, H53.out, HO3.out, ?_, (hbw.alloc hbw.size _).trans hb3⟩
          intro i y hi hy
          have hC' := HC.out.alloc (.cells #[.nilIface, .int .i64 x] 132)
          by_cases hij : i = j
          · subst hij
            have hyx : y = x := by have := HG.out; rw [hy] at this; injection this
            subst hyx
            refine ⟨wr.heap.size, ?_, ?_⟩
            · have := HP.out
              rw [List.getElem?_append_right (by omega), this]; simp
            · have hn := Blk.new wr 132 #[.nilIface, .int .i64 y]
              exact hn.kept hk3 (fun e => hn.ne_ hC' (by decide) (by injection e)) (by decide)
          · obtain ⟨p, h1, h2⟩ := HD.out i y (by omega) hy
            refine ⟨p, ?_, ?_⟩
            · rw [List.getElem?_append_left (by have := HP.out; omega)]; exact h1
            · have h2' := h2.alloc (.cells #[.nilIface, .int .i64 x] 132)
              exact h2'.kept hk3 (fun e => h2'.ne_ hC' (by decide) (by injection e)) (by decide)
        case measure => simp [intOf]; omega
      · have hjx : j = xs.length := by omega
        have HJ := Lib.hid hjx
        have HC := Lib.hid hC
        have HD := Lib.hid hcd
        have HO := Lib.hid hown
        have HW := Lib.hid hbw
        clear hjx hC hcd hown hbw
        go_wp2_with fail
        go_loopw [5] (fun i wr2 => ∃ k : Nat, i = .int .i64 k ∧ k ≤ xs.length ∧ ∃ m, wr2 = wr.drewN m) (fun i _ => xs.length - (intOf i).toNat)
        case atStart => exact ⟨0, rfl, by omega, 0, rfl⟩
        case round =>
          obtain ⟨k, rfl, hk, m, rfl⟩ := hrel
          by_cases hlt2 : k < xs.length
          · have hjj := HJ.out
            obtain ⟨g, o, rfl, hg, c0⟩ := (RdAt.below HW.out HR.out) k (.int .i64 xs[k]) (by simp [vInts, hlt2])
            obtain ⟨p, hp1, hp2⟩ := HD.out k xs[k] (by omega) (List.getElem?_eq_getElem hlt2)
            obtain ⟨gv, capv, hv, _, _⟩ := HO.out.form (by omega)
            obtain ⟨x, hxx⟩ : ∃ x, Hid (xs[k] = x) := ⟨_, Lib.hid rfl⟩
            rw [hxx.out] at c0 hp2
            have ci : wr.cell? ⟨gv, k, none⟩ = some (.pointer (some ⟨p, 0, none⟩)) := by
              have := HO.out.cells (g := gv) (by rw [hv]; rfl) k _ hp1
              rw [Go.WideShapes.add_plain, Nat.zero_add] at this
              exact this
            have c5 : wr.cell? ⟨w1.heap.size, 5, none⟩ = some (.slice (some ⟨gv, 0, none⟩) j capv) := by rw [HC.out.cell 5, h5.out, hv]
            have hop := Lib.hid fun n => codeOp_any w1.heap.size gv p j capv k x (wr.drewN n) c5 (by omega) (by omega) ci (hp2.cell 1)
            have hnl := Lib.hid fun n => codeNil_any w1.heap.size gv p j capv k (wr.drewN n) c5 (by omega) (by omega) ci (hp2.cell 0)
            have hne : (x != x) = false := by simp
            have k0 : (0 : Int) ≤ k := by omega
            have k1 : (k : Int) < xs.length := by omega
            clear hxx ci c5 hp1 hp2 hv hjj
            go_wp2_with fail
            go_quiet ((first | (go_at_call 33; exact quiet_add_same (hop.out _)) | (go_at_call 34; exact quiet_add_same (hnl.out _))))
            go_wp2_with fail
            go_roundw
            case rel => exact ⟨k + 1, by go_num, by omega, _, rfl⟩
            case measure => simp [intOf]; omega
          · go_wp2_with fail
            go_ret
            exact ⟨rfl, hb1.trans ((below_drewN HW.out _).mono hb1.size)⟩
  · by_cases hz : xs.length ≤ 1048576
    · rw [decide_eq_true hz] at hzz
      have hor : 1048576 < 8 * xs.length ∨ 65536 < xs.length := by omega
      clear hs hx hA hvl
      by_cases hz2 : 8 * xs.length ≤ 1048576
      · have h3 : 65536 < xs.length := by omega
        clear hor
        go_enter Try.func5, Try.ntmps5
        go_wp2_with fail
        with_reducible refine (hzz.out).mono ?_
        rintro e0 w0 ⟨rfl, rfl⟩
        go_wp2_with fail
        all_goals (go_ret; exact ⟨rfl, Below.refl _ _⟩)
      · clear hor
        go_enter Try.func5, Try.ntmps5
        go_wp2_with fail
        with_reducible refine (hzz.out).mono ?_
        rintro e0 w0 ⟨rfl, rfl⟩
        go_wp2_with fail
        all_goals (go_ret; exact ⟨rfl, Below.refl _ _⟩)
    · rw [decide_eq_false hz] at hzz
      go_enter Try.func5, Try.ntmps5
      go_wp2_with fail
      with_reducible refine (hzz.out).mono ?_
      rintro e0 w0 ⟨rfl, rfl⟩
      go_wp2_with fail
      all_goals (go_ret; exact ⟨rfl, Below.refl _ _⟩)
end Go.Proofs.Ytbkakiipaehleaa
