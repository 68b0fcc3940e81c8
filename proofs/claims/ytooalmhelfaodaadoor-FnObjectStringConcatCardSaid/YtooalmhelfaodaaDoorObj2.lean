/- (*Object).String; an object written behind a text; the walks of two laws over one pair. -/
import Derived.Test.YtooalmhelfaodaaDoorObj
import Derived.Test.YtooalmhelfaodaaDoorLawA
namespace Go.Proofs.YtooalmhelfaodaaDoor
open Go.RowKit
set_option maxRecDepth 100000
set_option linter.unusedVariables false
set_option maxHeartbeats 1000000 in
theorem objString (o : Nat) (xs : List It) (w : World) (hx : ObjIs w w.heap.size o xs) (hl : 2 * wtS xs + 8 ≤ 70368744177664) :
    Calls Tryd.prog 20 #[.pointer (some ⟨o, 0, none⟩)] w fun r w' => r = .returned (.string ⟨(objT xs).toArray⟩) ∧ Below w.heap.size w w' := by
  have hb0 : Below w.heap.size w (w.alloc (.cells #[.pointer none, .slice none 0 0] 95)) := (Below.refl _ _).alloc (Nat.le_refl _) _
  have hK := Lib.hid (obj_write w.heap.size w.heap.size o xs [] _ (Bd.fresh w) (hx.below hb0) (by simpa using hl))
  go_enter Tryd.func20, Tryd.ntmps20
  go_wp2_with fail
  with_reducible refine (hK.out).mono ?_
  rintro e1 w1 ⟨rfl, h1, hb1⟩
  go_wp2_with fail
  with_reducible refine (bStr _ _ _ _ h1).mono ?_
  rintro e2 w2 ⟨rfl, h2, hb2⟩
  go_wp2_with fail
  go_ret
  exact ⟨rfl, (hb0.trans hb1).trans hb2⟩
set_option maxHeartbeats 1000000 in
theorem objWrite (o : Nat) (s : ByteArray) (xs : List It) (w : World) (hx : ObjIs w w.heap.size o xs) (hl : s.size + 2 * wtS xs + 8 ≤ 70368744177664) :
    Calls Tryd.prog 29 #[.pointer (some ⟨o, 0, none⟩), .string s] w fun r w' => r = .returned (.string ⟨(s.data.toList ++ objT xs).toArray⟩) ∧ Below w.heap.size w w' := by
  have hb0 : Below w.heap.size w (w.alloc (.cells #[.pointer none, .slice none 0 0] 95)) := (Below.refl _ _).alloc (Nat.le_refl _) _
  have hS := Lib.hid (wStr w.heap.size w.heap.size [] s _ (Bd.fresh w) (by simp; omega))
  go_enter Tryd.func29, Tryd.ntmps29
  go_wp2_with fail
  with_reducible refine (hS.out).mono ?_
  rintro e1 w1 ⟨rfl, h1, hb1⟩
  go_wp2_with fail
  with_reducible refine (obj_write _ _ o xs _ _ h1 ((hx.below hb0).below hb1) (by simpa [size_list] using hl)).mono ?_
  rintro e2 w2 ⟨rfl, h2, hb2⟩
  go_wp2_with fail
  with_reducible refine (bStr _ _ _ _ h2).mono ?_
  rintro e3 w3 ⟨rfl, h3, hb3⟩
  go_wp2_with fail
  go_ret
  exact ⟨rfl, ((hb0.trans hb1).trans hb2).trans hb3⟩
set_option maxHeartbeats 2000000 in
theorem law_agrees (k n v : ByteArray) (km vm : Int) (w : World) :
    Calls Tryd.prog 4 #[.agg #[.string k, .int .i64 km, .string n, .int .i64 vm, .string v]] w fun e w' => e = .returned (.bool true) ∧ Below w.heap.size w w' := by
  have hz := Lib.hid fun w => zzb_agrees k n v km vm w
  have hbx := (Below.refl _ w).alloc (Nat.le_refl _) (.cells #[.string k, .int .i64 km, .string n, .int .i64 vm, .string v] 23)
  by_cases hs : k.size + n.size + v.size ≤ 1048576
  · rw [decide_eq_true hs] at hz
    obtain ⟨m, hm, hkb⟩ : ∃ m : Int, Hid (m = ((k.size + n.size + v.size + 64 : Nat) : Int)) ∧ Hid (∀ w, Calls Tryd.prog 15 #[.agg #[.string k, .int .i64 km, .string n, .int .i64 vm, .string v]] w fun e w' => e = .returned (.int .i64 m) ∧ Below w.heap.size w w') := ⟨_, Lib.hid rfl, Lib.hid fun w => kvBytes_any k n v km vm w hs⟩
    go_enter Tryd.func4, Tryd.ntmps4
    go_wp2_with fail
    with_reducible refine (hz.out _).mono ?_
    rintro e1 w1 ⟨rfl, hb1⟩
    rw [show (w.alloc (.cells #[.string k, .int .i64 km, .string n, .int .i64 vm, .string v] 23)).heap.size = w.heap.size + 1 by simp] at hb1
    have k1 := box5 hb1 (by omega) (box_new w 23 _ _ _ _ _)
    have B1 := hbx.trans (hb1.mono (by omega))
    have s1 := hb1.size
    simp at s1
    obtain ⟨c0, c1, c2, c3, c4⟩ := k1
    go_wp2_with fail
    with_reducible refine (hkb.out _).mono ?_
    rintro e2 w2 ⟨rfl, hb2⟩
    have k2 := box5 hb2 (by omega) ⟨c0, c1, c2, c3, c4⟩
    clear c0 c1 c2 c3 c4
    have B2 := B1.trans (hb2.mono (by omega))
    have s2 := hb2.size
    by_cases hs2 : m ≤ 1048576
    · obtain ⟨c0, c1, c2, c3, c4⟩ := k2
      have hbk := Lib.hid fun w => buildKV_any k n v km vm w
      have hle1 := keyS_le km k
      have hle2 := keyQ_le km n
      have hle3 := valL_le vm v
      go_wp2_with fail
      with_reducible refine (hbk.out _).mono ?_
      rintro eA wA ⟨g, rfl, hgA, hKA, hbA⟩
      have sA := hbA.size
      have BA := B2.trans (hbA.mono (by omega))
      have hKB : KvIs ((wA.alloc (.cells #[.pointer (some ⟨g, 0, none⟩)] 26)).alloc (.cells #[.slice (some ⟨wA.heap.size, 0, none⟩) 1 1] 33)) (wA.heap.size + 2) g (keyS km k) (keyQ km n) (valL vm v) :=
        ((hKA.below ((Below.refl _ wA).alloc (Nat.le_refl _) _)).below ((Below.refl _ _).alloc (by simp) _)).mono (by omega)
      have hO : ObjIs ((wA.alloc (.cells #[.pointer (some ⟨g, 0, none⟩)] 26)).alloc (.cells #[.slice (some ⟨wA.heap.size, 0, none⟩) 1 1] 33)) (wA.heap.size + 2) (wA.heap.size + 1) [⟨keyS km k, keyQ km n, valL vm v⟩] := by
        refine ⟨by omega, _, _, Blk.at_ _ _ (by simp), fun j x hj => ?_⟩
        match j, hj with
        | 0, hj =>
          simp at hj
          subst hj
          exact ⟨_, rfl, by omega, g, ((Blk.new wA 26 #[.pointer (some ⟨g, 0, none⟩)]).alloc _).cell 0, hKB⟩
      have hT : objT [⟨keyS km k, keyQ km n, valL vm v⟩] = [123, 32] ++ outKV (keyS km k) (keyQ km n) (valL vm v) [] ++ [32, 125] := by
        simp [objT, joinT, tailT, It.txt]
      have hC := Lib.hid (objString (wA.heap.size + 1) [⟨keyS km k, keyQ km n, valL vm v⟩] ((wA.alloc (.cells #[.pointer (some ⟨g, 0, none⟩)] 26)).alloc (.cells #[.slice (some ⟨wA.heap.size, 0, none⟩) 1 1] 33)) (hO.mono (by simp)) (by simp [wtS, It.wt]; omega))
      rw [hT] at hC
      have hol := outKV_len (keyS km k) (keyQ km n) (valL vm v) []
      simp only [List.length_nil] at hol
      obtain ⟨T, hTT⟩ : ∃ T : List UInt8, Hid (outKV (keyS km k) (keyQ km n) (valL vm v) [] = T) := ⟨_, Lib.hid rfl⟩
      have hK2 := Lib.hid fun (W : World) (hW : KvIs W W.heap.size g (keyS km k) (keyQ km n) (valL vm v)) => kvString g _ _ _ W hW (by omega)
      rw [hTT.out] at hC hK2 hol
      clear hT hO hKA c0 c1 c2 c3 c4
      go_wp2_with fail
      with_reducible refine (hC.out).mono ?_
      rintro eB wB ⟨rfl, hbB⟩
      have hKC := (hKB.below (hbB.mono (by simp))).mono (B' := wB.heap.size) (by have := hbB.size; simp at this; omega)
      have BB := ((BA.alloc (by omega) (.cells #[.pointer (some ⟨g, 0, none⟩)] 26)).alloc (by simp; omega) (.cells #[.slice (some ⟨wA.heap.size, 0, none⟩) 1 1] 33)).trans (hbB.mono (by simp; omega))
      have sB := BB.size
      clear hKB hbB
      go_wp2_with fail
      with_reducible refine (hK2.out _ hKC).mono ?_
      rintro eC wC ⟨rfl, hbC⟩
      go_wp2_with fail
      go_ret
      refine ⟨ret_bool ?_, BB.trans (hbC.mono sB)⟩
      rw [beq_iff_eq, Lib.toList_data]
      simp [ByteArray.data_append]
    · go_wp2_with fail
      go_ret
      exact ⟨rfl, B2⟩
  · rw [decide_eq_false hs] at hz
    go_enter Tryd.func4, Tryd.ntmps4
    go_wp2_with fail
    with_reducible refine (hz.out _).mono ?_
    rintro e1 w1 ⟨rfl, hb1⟩
    go_wp2_with fail
    go_ret
    exact ⟨rfl, hbx.trans (hb1.mono (by simp))⟩
set_option maxHeartbeats 2000000 in
theorem law_writes (k n v s : ByteArray) (km vm : Int) (w : World) :
    Calls Tryd.prog 5 #[.agg #[.string k, .int .i64 km, .string n, .int .i64 vm, .string v], .string s] w fun e w' => e = .returned (.bool true) ∧ Below w.heap.size w w' := by
  have hz := Lib.hid fun w => zzb_writes k n v s km vm w
  have hbx := (Below.refl _ w).alloc (Nat.le_refl _) (.cells #[.string k, .int .i64 km, .string n, .int .i64 vm, .string v] 23)
  by_cases hs : k.size + n.size + v.size + s.size ≤ 1048576
  · rw [decide_eq_true hs] at hz
    obtain ⟨m, hm, hkb⟩ : ∃ m : Int, Hid (m = ((k.size + n.size + v.size + 64 : Nat) : Int)) ∧ Hid (∀ w, Calls Tryd.prog 15 #[.agg #[.string k, .int .i64 km, .string n, .int .i64 vm, .string v]] w fun e w' => e = .returned (.int .i64 m) ∧ Below w.heap.size w w') := ⟨_, Lib.hid rfl, Lib.hid fun w => kvBytes_any k n v km vm w (by omega)⟩
    go_enter Tryd.func5, Tryd.ntmps5
    go_wp2_with fail
    with_reducible refine (hz.out _).mono ?_
    rintro e1 w1 ⟨rfl, hb1⟩
    rw [show (w.alloc (.cells #[.string k, .int .i64 km, .string n, .int .i64 vm, .string v] 23)).heap.size = w.heap.size + 1 by simp] at hb1
    have k1 := box5 hb1 (by omega) (box_new w 23 _ _ _ _ _)
    have B1 := hbx.trans (hb1.mono (by omega))
    have s1 := hb1.size
    simp at s1
    obtain ⟨c0, c1, c2, c3, c4⟩ := k1
    go_wp2_with fail
    with_reducible refine (hkb.out _).mono ?_
    rintro e2 w2 ⟨rfl, hb2⟩
    have k2 := box5 hb2 (by omega) ⟨c0, c1, c2, c3, c4⟩
    clear c0 c1 c2 c3 c4
    have hm1 : 64 ≤ m := by have := hm.out; omega
    have hm2 : m ≤ 2000000 := by have := hm.out; omega
    have B2 := B1.trans (hb2.mono (by omega))
    have s2 := hb2.size
    by_cases hs2 : m + s.size ≤ 1048576
    · obtain ⟨c0, c1, c2, c3, c4⟩ := k2
      have hbk := Lib.hid fun w => buildKV_any k n v km vm w
      have hle1 := keyS_le km k
      have hle2 := keyQ_le km n
      have hle3 := valL_le vm v
      go_wp2_with fail
      with_reducible refine (hbk.out _).mono ?_
      rintro eA wA ⟨g, rfl, hgA, hKA, hbA⟩
      have sA := hbA.size
      have BA := B2.trans (hbA.mono (by omega))
      have kA := box5 hbA (by omega) ⟨c0, c1, c2, c3, c4⟩
      have hol := outKV_len (keyS km k) (keyQ km n) (valL vm v) []
      simp only [List.length_nil] at hol
      have hap := kvT_app k n v km vm s.data.toList
      have hC := Lib.hid (kvWrite g _ s _ _ _ hKA (by omega))
      have hmd := Lib.hid fun w => kvModel_any k n v km vm w (by omega)
      have hK2 := Lib.hid fun (W : World) (hW : KvIs W W.heap.size g (keyS km k) (keyQ km n) (valL vm v)) => kvString g _ _ _ W hW (by omega)
      unfold kvT at hap
      obtain ⟨T, hTT⟩ : ∃ T : List UInt8, Hid (outKV (keyS km k) (keyQ km n) (valL vm v) [] = T) := ⟨_, Lib.hid rfl⟩
      obtain ⟨G, hGG⟩ : ∃ T : List UInt8, Hid (outKV (keyS km k) (keyQ km n) (valL vm v) s.data.toList = T) := ⟨_, Lib.hid rfl⟩
      have hTK : kvT k n v km vm [] = T := hTT.out
      rw [hGG.out, hTT.out] at hap
      rw [hTT.out] at hK2 hol
      rw [hGG.out] at hC
      rw [hTK] at hmd
      have hd : (G == (s ++ (⟨T.toArray⟩ : ByteArray)).toList) = true := by rw [beq_iff_eq, Lib.toList_data, hap]; simp [ByteArray.data_append]
      clear c0 c1 c2 c3 c4 hap hTK
      go_wp2_with fail
      with_reducible refine (hC.out).mono ?_
      rintro eB wB ⟨rfl, hbB⟩
      have sB := hbB.size
      have hKB := (hKA.below hbB).mono sB
      have kB := box5 hbB (by omega) kA
      have BB := BA.trans (hbB.mono (by omega))
      go_wp2_with fail
      with_reducible refine (hK2.out _ hKB).mono ?_
      rintro eC wC ⟨rfl, hbC⟩
      have sC := hbC.size
      have kC := box5 hbC (by omega) kB
      have BC := BB.trans (hbC.mono (by omega))
      clear kA kB
      obtain ⟨c0, c1, c2, c3, c4⟩ := kC
      go_wp2_with fail
      with_reducible refine (hmd.out _).mono ?_
      rintro eD wD ⟨rfl, hbD⟩
      go_wp2_with fail
      go_ret
      exact ⟨rfl, BC.trans (hbD.mono (by omega))⟩
    · go_wp2_with fail
      go_ret
      exact ⟨rfl, B2⟩
  · rw [decide_eq_false hs] at hz
    go_enter Tryd.func5, Tryd.ntmps5
    go_wp2_with fail
    with_reducible refine (hz.out _).mono ?_
    rintro e1 w1 ⟨rfl, hb1⟩
    go_wp2_with fail
    go_ret
    exact ⟨rfl, hbx.trans (hb1.mono (by simp))⟩
end Go.Proofs.YtooalmhelfaodaaDoor
