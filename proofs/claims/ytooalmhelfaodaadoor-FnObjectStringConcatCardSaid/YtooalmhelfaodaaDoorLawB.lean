/- The walks of FnObjectStringModel and FnObjectWriteToAppends: true at every list of pair descriptions. -/
import Derived.Test.YtooalmhelfaodaaDoorKvs6
namespace Go.Proofs.YtooalmhelfaodaaDoor
open Go.RowKit
set_option maxRecDepth 100000
set_option linter.unusedVariables false
/-- a list of descriptions that came in -/
def KvsIn (w : World) (A : Option Addr) (c : Nat) (xs : List KVd) : Prop := (A = none → c = 0 ∧ xs = []) ∧ KvsAt w w.heap.size A xs ∧ xs.length ≤ 9223372036854775807
theorem clone_any (A : Option Addr) (c : Nat) (xs : List KVd) (w : World) (hA : A = none → c = 0 ∧ xs = []) (hx : KvsAt w w.heap.size A xs) (hn : xs.length ≤ 1048576) :
    Calls Tryd.prog 25 #[.slice A xs.length c] w (Cloned A c xs w) := by
  cases A with
  | none => obtain ⟨rfl, rfl⟩ := hA rfl; exact clone_nil w
  | some a => exact clone_some a c xs w hx hn
theorem objModel_any (A : Option Addr) (c : Nat) (xs : List KVd) (w : World) (hx : KvsAt w w.heap.size A xs) (hn : xs.length ≤ 1048576) (ht : tot xs ≤ 1048576) :
    Calls Tryd.prog 27 #[.slice A xs.length c] w fun e w' => e = .returned (.string ⟨(objT (xs.map KVd.it)).toArray⟩) ∧ Below w.heap.size w w' := by
  by_cases h0 : 0 < xs.length
  · exact objModel_some A c xs w hx h0 hn ht
  · have : xs = [] := List.eq_nil_of_length_eq_zero (by omega)
    subst this
    exact objModel_nil A c w
theorem wt_le (xs : List KVd) : wtS (xs.map KVd.it) ≤ tot xs + 24 * xs.length := by
  induction xs with
  | nil => exact Nat.le_refl _
  | cons x r ih =>
    have h1 := keyS_le x.km x.k
    have h2 := keyQ_le x.km x.n
    have h3 := valL_le x.vm x.v
    have e : x.it.wt = (keyS x.km x.k).size + wtO (keyQ x.km x.n) + wtO (valL x.vm x.v) + 8 := rfl
    have e2 : x.sz = x.k.size + x.n.size + x.v.size := rfl
    simp only [List.map_cons, wtS, tot, List.sum_cons, List.length_cons] at ih ⊢
    omega
theorem kvsN_hi {xs : List KVd} (h : kvsN xs ≤ 1048576) : tot xs + 64 * xs.length ≤ 1048576 := by
  unfold kvsN at h
  by_cases hc : tot xs + 64 * xs.length ≤ 1048576
  · exact hc
  · rw [if_neg hc] at h; omega
theorem kvsN_bd (xs : List KVd) : 0 ≤ kvsN xs ∧ kvsN xs ≤ 1073741824 := by
  unfold kvsN
  by_cases hc : tot xs + 64 * xs.length ≤ 1048576
  · rw [if_pos hc]; omega
  · rw [if_neg hc]; omega
set_option maxHeartbeats 4000000 in
theorem law_model (A : Option Addr) (c : Nat) (xs : List KVd) (w : World) (hin : KvsIn w A c xs) :
    Calls Tryd.prog 6 #[.slice A xs.length c] w fun e w' => e = .returned (.bool true) ∧ Below w.heap.size w w' := by
  obtain ⟨hA, hx, hn⟩ := hin
  have HX := Lib.hid hx
  have HA := Lib.hid hA
  have hz := Lib.hid (zzs_model A c w.heap.size xs w hx hn)
  clear hx hA
  by_cases hs : xs.length + tot xs ≤ 1048576
  · rw [decide_eq_true hs] at hz
    obtain ⟨m, hm, hkb⟩ : ∃ m : Int, Hid (m = kvsN xs) ∧ Hid (∀ w, KvsAt w w.heap.size A xs → Calls Tryd.prog 24 #[.slice A xs.length c] w fun e w' => e = .returned (.int .i64 m) ∧ Below w.heap.size w w') := ⟨_, Lib.hid rfl, Lib.hid fun w h => kvsBytes_any A c xs w h (by omega) (by omega)⟩
    go_enter Tryd.func6, Tryd.ntmps6
    go_wp2_with fail
    with_reducible refine (hz.out).mono ?_
    rintro e1 w1 ⟨rfl, rfl⟩
    go_wp2_with fail
    with_reducible refine (hkb.out _ HX.out).mono ?_
    rintro e2 w2 ⟨rfl, hb2⟩
    by_cases hs2 : m ≤ 1048576
    · have hlim := kvsN_hi (xs := xs) (by have := hm.out; omega)
      have hwt := wt_le xs
      have hcl := Lib.hid (clone_any A c xs w2 HA.out ((KvsAt.below hb2 HX.out).mono hb2.size) (by omega))
      go_wp2_with fail
      with_reducible refine (hcl.out).mono ?_
      rintro e3 w3 ⟨A', c', rfl, hK3, hb3⟩
      have B3 := hb2.trans (hb3.mono hb2.size)
      have hbo := Lib.hid (build_any A' c' xs w3 hK3 (by omega))
      have HK3 := Lib.hid hK3
      clear hK3
      go_wp2_with fail
      with_reducible refine (hbo.out).mono ?_
      rintro e4 w4 ⟨o, rfl, hO, hb4⟩
      have B4 := B3.trans (hb4.mono B3.size)
      have hst := Lib.hid (objString o _ w4 hO (by omega))
      clear hO
      go_wp2_with fail
      with_reducible refine (hst.out).mono ?_
      rintro e5 w5 ⟨rfl, hb5⟩
      have B5 := B4.trans (hb5.mono B4.size)
      have hK5 := ((HK3.out.below hb4).mono hb4.size)
      have hmo := Lib.hid (objModel_any A' c' xs w5 (((hK5.below hb5)).mono hb5.size) (by omega) (by omega))
      clear hK5
      go_wp2_with fail
      with_reducible refine (hmo.out).mono ?_
      rintro e6 w6 ⟨rfl, hb6⟩
      go_wp2_with fail
      go_ret
      exact ⟨rfl, B5.trans (hb6.mono B5.size)⟩
    · go_wp2_with fail
      go_ret
      exact ⟨rfl, hb2⟩
  · rw [decide_eq_false hs] at hz
    go_enter Tryd.func6, Tryd.ntmps6
    go_wp2_with fail
    with_reducible refine (hz.out).mono ?_
    rintro e1 w1 ⟨rfl, rfl⟩
    go_wp2_with fail
    go_ret
    exact ⟨rfl, Below.refl _ _⟩
set_option maxHeartbeats 4000000 in
theorem law_owrites (A : Option Addr) (c : Nat) (xs : List KVd) (s : ByteArray) (w : World) (hin : KvsIn w A c xs) :
    Calls Tryd.prog 7 #[.slice A xs.length c, .string s] w fun e w' => e = .returned (.bool true) ∧ Below w.heap.size w w' := by
  obtain ⟨hA, hx, hn⟩ := hin
  have HX := Lib.hid hx
  have HA := Lib.hid hA
  have hz := Lib.hid (zzs_write A c w.heap.size xs s w hx hn)
  clear hx hA
  by_cases hs : xs.length + tot xs + s.size ≤ 1048576
  · rw [decide_eq_true hs] at hz
    have hbd := kvsN_bd xs
    obtain ⟨m, hm, hkb⟩ : ∃ m : Int, Hid (m = kvsN xs) ∧ Hid (∀ w, KvsAt w w.heap.size A xs → Calls Tryd.prog 24 #[.slice A xs.length c] w fun e w' => e = .returned (.int .i64 m) ∧ Below w.heap.size w w') := ⟨_, Lib.hid rfl, Lib.hid fun w h => kvsBytes_any A c xs w h (by omega) (by omega)⟩
    rw [← hm.out] at hbd
    obtain ⟨hm0, hm1⟩ := hbd
    go_enter Tryd.func7, Tryd.ntmps7
    go_wp2_with fail
    with_reducible refine (hz.out).mono ?_
    rintro e1 w1 ⟨rfl, rfl⟩
    go_wp2_with fail
    with_reducible refine (hkb.out _ HX.out).mono ?_
    rintro e2 w2 ⟨rfl, hb2⟩
    by_cases hs2 : m + s.size ≤ 1048576
    · have hlim := kvsN_hi (xs := xs) (by have := hm.out; omega)
      have hwt := wt_le xs
      have hcl := Lib.hid (clone_any A c xs w2 HA.out ((KvsAt.below hb2 HX.out).mono hb2.size) (by omega))
      go_wp2_with fail
      with_reducible refine (hcl.out).mono ?_
      rintro e3 w3 ⟨A', c', rfl, hK3, hb3⟩
      have B3 := hb2.trans (hb3.mono hb2.size)
      have hbo := Lib.hid (build_any A' c' xs w3 hK3 (by omega))
      have HK3 := Lib.hid hK3
      clear hK3
      go_wp2_with fail
      with_reducible refine (hbo.out).mono ?_
      rintro e4 w4 ⟨o, rfl, hO, hb4⟩
      have B4 := B3.trans (hb4.mono B3.size)
      obtain ⟨T, HT⟩ : ∃ T, Hid (objT (xs.map KVd.it) = T) := ⟨_, Lib.hid rfl⟩
      have hTl := objT_len (xs.map KVd.it)
      rw [HT.out] at hTl
      have hst := Lib.hid (objWrite o s _ w4 hO (by omega))
      rw [HT.out] at hst
      have HO := Lib.hid hO
      clear hO
      have hd : (s.data.toList ++ T == (s ++ (⟨T.toArray⟩ : ByteArray)).toList) = true := by rw [beq_iff_eq, Lib.toList_data]; simp [ByteArray.data_append]
      obtain ⟨G, HG⟩ : ∃ G, Hid (s.data.toList ++ T = G) := ⟨_, Lib.hid rfl⟩
      rw [HG.out] at hst hd
      go_wp2_with fail
      with_reducible refine (hst.out).mono ?_
      rintro e5 w5 ⟨rfl, hb5⟩
      have B5 := B4.trans (hb5.mono B4.size)
      have hst2 := Lib.hid (objString o _ w5 ((HO.out.below hb5).mono hb5.size) (by omega))
      rw [HT.out] at hst2
      go_wp2_with fail
      with_reducible refine (hst2.out).mono ?_
      rintro e6 w6 ⟨rfl, hb6⟩
      have B6 := B5.trans (hb6.mono B5.size)
      have hK5 := ((HK3.out.below hb4).mono hb4.size)
      have hK6 := ((hK5.below hb5).mono hb5.size)
      have hmo := Lib.hid (objModel_any A' c' xs w6 ((hK6.below hb6).mono hb6.size) (by omega) (by omega))
      rw [HT.out] at hmo
      clear hK5 hK6
      go_wp2_with fail
      with_reducible refine (hmo.out).mono ?_
      rintro e7 w7 ⟨rfl, hb7⟩
      go_wp2_with fail
      go_ret
      exact ⟨rfl, B6.trans (hb7.mono B6.size)⟩
    · go_wp2_with fail
      go_ret
      exact ⟨rfl, hb2⟩
  · rw [decide_eq_false hs] at hz
    go_enter Tryd.func7, Tryd.ntmps7
    go_wp2_with fail
    with_reducible refine (hz.out).mono ?_
    rintro e1 w1 ⟨rfl, rfl⟩
    go_wp2_with fail
    go_ret
    exact ⟨rfl, Below.refl _ _⟩
end Go.Proofs.YtooalmhelfaodaaDoor
