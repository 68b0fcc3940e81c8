/- objModel: the model's text of an object. -/
import Derived.Test.YtooalmhelfaodaaDoorKvs5
namespace Go.Proofs.YtooalmhelfaodaaDoor
open Go.RowKit
set_option maxRecDepth 100000
set_option linter.unusedVariables false
theorem grown_of_below {a w : World} (h : Below a.heap.size a w) : a.grownBy w none := ⟨h.os, h.tape, h.output, h.size, fun i hi _ => h.block i hi⟩
theorem owns_below {base : Nat} {e : TypeId} {size n : Nat} {v : Value} {xs : List Value} {w w' : World} (h : w.ownsRow base e size v n xs) (hb : Below w.heap.size w w') : w'.ownsRow base e size v n xs :=
  h.kept (grown_of_below hb) (by cases v.ownBlock <;> simp)
def bodyT (xs : List KVd) : List UInt8 := xs.flatMap fun x => kvT x.k x.n x.v x.km x.vm [] ++ [44, 32]
theorem bodyT_snoc (a : List KVd) (x : KVd) : bodyT (a ++ [x]) = bodyT a ++ kvT x.k x.n x.v x.km x.vm [] ++ [44, 32] := by simp [bodyT]
theorem kvT_len (k n v : ByteArray) (km vm : Int) : (kvT k n v km vm []).length ≤ k.size + n.size + v.size + 24 := by
  have h := outKV_len (keyS km k) (keyQ km n) (valL vm v) []
  have h1 := keyS_le km k
  have h2 := keyQ_le km n
  have h3 := valL_le vm v
  simp only [List.length_nil] at h
  unfold kvT; omega
theorem bodyT_len (xs : List KVd) : (bodyT xs).length ≤ tot xs + 26 * xs.length := by
  induction xs with
  | nil => simp [bodyT]
  | cons x r ih => have := kvT_len x.k x.n x.v x.km x.vm; simp [bodyT, tot, KVd.sz] at ih ⊢; omega
theorem it_txt (x : KVd) : x.it.txt = kvT x.k x.n x.v x.km x.vm [] := rfl
theorem bodyT_join (xs : List KVd) (h : xs ≠ []) : bodyT xs = joinT (xs.map KVd.it) ++ [44, 32] := by
  have aux : ∀ r : List KVd, [44, 32] ++ bodyT r = tailT (r.map KVd.it) ++ [44, 32] := by
    intro r
    induction r with
    | nil => simp [bodyT, tailT]
    | cons x r ih =>
      have e : bodyT (x :: r) = kvT x.k x.n x.v x.km x.vm [] ++ ([44, 32] ++ bodyT r) := by simp [bodyT]
      rw [e, ih]
      simp [tailT, it_txt]
  cases xs with
  | nil => exact absurd rfl h
  | cons x r =>
    have e : bodyT (x :: r) = kvT x.k x.n x.v x.km x.vm [] ++ ([44, 32] ++ bodyT r) := by simp [bodyT]
    rw [e, aux]
    simp [joinT, it_txt]
theorem byteCells_two (a b : UInt8) (x y : Int) (h : x = (a.toNat : Int)) (k : y = (b.toNat : Int)) : [Value.int .u8 x, Value.int .u8 y] = Lib.byteCells [a, b] := by subst h k; rfl
theorem two_cells (w : World) (x y : Value) (t : TypeId) : ∀ j u, [x, y][j]? = some u → (w.alloc (.cells #[x, y] t)).cell? ((⟨w.heap.size, 0, none⟩ : Addr).add j) = some u := by
  intro j u hj
  have hB := Blk.new w t #[x, y]
  match j, hj with
  | 0, hj => simp at hj; subst hj; exact hB.cell 0
  | 1, hj => simp at hj; subst hj; exact hB.cell 1
theorem owns_two (w : World) (x y : Value) (t : TypeId) : (w.alloc (.cells #[x, y] t)).ownsRow w.heap.size t 1 (.slice (some ⟨w.heap.size, 0, none⟩) 2 2) 2 [x, y] :=
  ⟨rfl, .inr ⟨w.heap.size, 2, #[x, y], rfl, Nat.le_refl _, heap_alloc_new w _, by omega, by unfold maxLen; omega, rfl, rfl⟩⟩
theorem byteOne (l : List UInt8) : ∀ u ∈ Lib.byteCells l, u.oneCell' = true := by
  intro u hu
  simp only [Lib.byteCells, List.mem_map] at hu
  obtain ⟨b, _, rfl⟩ := hu
  rfl
theorem own_at {a G n c : Nat} (h : a ≤ G) : ∀ k, (Value.slice (some ⟨G, 0, none⟩) n c).ownBlock = some k → a ≤ k := by
  intro k hk
  injection hk with hk
  subst hk
  exact h
theorem objModel_nil (A : Option Addr) (c : Nat) (w : World) :
    Calls Tryd.prog 27 #[.slice A 0 c] w fun e w' => e = .returned (.string ⟨(objT []).toArray⟩) ∧ Below w.heap.size w w' := by
  go_enter Tryd.func27, Tryd.ntmps27
  go_wp2_with fail
  go_ret
  exact ⟨rfl, Below.refl _ _⟩
set_option maxHeartbeats 8000000 in
theorem objModel_some (A : Option Addr) (c : Nat) (xs : List KVd) (w : World) (hx : KvsAt w w.heap.size A xs) (h0 : 0 < xs.length) (hn : xs.length ≤ 1048576) (ht : tot xs ≤ 1048576) :
    Calls Tryd.prog 27 #[.slice A xs.length c] w fun e w' => e = .returned (.string ⟨(objT (xs.map KVd.it)).toArray⟩) ∧ Below w.heap.size w w' := by
  have hn0 : ((xs.length : Int) == 0) = false := by rw [beq_eq_false_iff_ne]; omega
  obtain ⟨i0, hi, hz0, hz1, hz2⟩ := info_parts infoByte
  have HX := Lib.hid hx
  clear hx
  have HE : Hid (objT (xs.map KVd.it) = [123, 32] ++ joinT (xs.map KVd.it) ++ [32, 125]) := by
    show _ = _
    unfold objT
    rw [if_neg]
    intro hc
    rw [List.isEmpty_iff, List.map_eq_nil_iff] at hc
    subst hc
    simp at h0
  have HJ := Lib.hid (bodyT_join xs (by rintro rfl; simp at h0))
  obtain ⟨R, HR⟩ : ∃ R, Hid (R = objT (xs.map KVd.it)) := ⟨_, Lib.hid rfl⟩
  rw [← HR.out]
  go_enter Tryd.func27, Tryd.ntmps27
  go_wp2_with fail
  clear hn0
  go_loopw [3, 4] (fun x i wr => ∃ j : Nat, i = .int .i64 j ∧ j ≤ xs.length ∧ wr.ownsRow w.heap.size 5 1 x (bodyT (xs.take j)).length (Lib.byteCells (bodyT (xs.take j))) ∧ Below w.heap.size w wr) (fun _ i _ => xs.length - (intOf i).toNat)
  case atStart => exact ⟨0, rfl, by omega, by simpa [bodyT, Lib.byteCells] using (World.ownsRow_made (base := w.heap.size) (e := 5) (size := 1) w #[] 0 (Nat.le_refl _) (by unfold maxLen; omega) rfl), (Below.refl _ _).alloc (Nat.le_refl _) _⟩
  case round =>
    obtain ⟨j, rfl, hj, hown, hbw⟩ := hrel
    have hbs := hbw.size
    by_cases hlt : j < xs.length
    · obtain ⟨g, o, rfl, hg, C⟩ := (KvsAt.below hbw HX.out) j _ (List.getElem?_eq_getElem hlt)
      have HTK := Lib.hid (List.take_succ_eq_append_getElem hlt)
      have hbl := bodyT_len (xs.take j)
      have htt := tot_take xs j
      have htt1 := tot_take xs (j + 1)
      have hts := tot_succ xs j hlt
      have htl : (xs.take j).length ≤ j := List.length_take_le _ _
      obtain ⟨x, hxx⟩ : ∃ x, Hid (xs[j] = x) := ⟨_, Lib.hid rfl⟩
      rw [hxx.out] at C HTK hts
      obtain ⟨c0, c1, c2, c3, c4⟩ := C
      have hxs : x.k.size + x.n.size + x.v.size ≤ 1048576 := by
        have : x.sz = x.k.size + x.n.size + x.v.size := rfl
        omega
      have hmd := Lib.hid fun w => kvModel_any x.k x.n x.v x.km x.vm w hxs
      have hkl := kvT_len x.k x.n x.v x.km x.vm
      obtain ⟨T, HTT⟩ : ∃ T, Hid (kvT x.k x.n x.v x.km x.vm [] = T) := ⟨_, Lib.hid rfl⟩
      rw [HTT.out] at hmd hkl
      obtain ⟨b, HBB⟩ : ∃ b, Hid (bodyT (xs.take j) = b) := ⟨_, Lib.hid rfl⟩
      rw [HBB.out] at hown hbl
      have hTs : (⟨T.toArray⟩ : ByteArray).size = T.length := by show T.toArray.size = _; simp
      have hlen : b.length + (⟨T.toArray⟩ : ByteArray).size ≤ 1099511627776 := by rw [hTs]; omega
      have hlen2 : b.length + (⟨T.toArray⟩ : ByteArray).size + 2 ≤ 1099511627776 := by rw [hTs]; omega
      have HTs := Lib.hid hTs
      have HLEN := Lib.hid hlen
      have HLEN2 := Lib.hid hlen2
      clear hts hTs hlen hlen2 hxx
      go_wp2_with fail
      with_reducible refine (hmd.out _).mono ?_
      rintro e1 w1 ⟨rfl, hb1⟩
      have ho1 := owns_below hown hb1
      have hbw1 := hbw.trans (hb1.mono hbs)
      have hap := Lib.hid (appendStr_any w.heap.size _ b ⟨T.toArray⟩ w1 ho1 hbw1.size HLEN.out)
      clear hown c0 c1 c2 c3 c4 ho1
      go_wp2_with fail
      with_reducible refine (hap.out).mono ?_
      rintro e2 w2 ⟨v2, rfl, ho2, hb2⟩
      have hbw2 := hbw1.trans hb2
      have hs2 := hbw2.size
      go_wp2_with (at_builtin; refine wpList_append_own _ rfl _ _ 56 rfl w.heap.size 5 i0 (.int .u8 0) 1 1 Tryd.underlying56 hi hz0 hz1 hz2 rfl (by decide) _ _ _ rfl (ho2.alloc _) ⟨w2.heap.size, 0, none⟩ 2 2 [.int .u8 44, .int .u8 32] rfl rfl ?c1 ?c2 ?c3 ?c4 ?c5 ?_)
      case c1 => exact two_cells w2 _ _ _
      case c2 => intro u hu; simp at hu; rcases hu with rfl | rfl <;> rfl
      case c3 => have := HLEN2.out; unfold maxLen; omega
      case c4 => have := HLEN2.out; omega
      case c5 => simp; omega
      intro v3 w3 ho3 hgrow _
      have hbw3 : Below w.heap.size w w3 := (hbw2.alloc hs2 _).grown hgrow (by simp; omega) (fun g hg => (ho2.lt g hg).1)
      have HO := Lib.hid ho3
      clear ho3 ho2
      go_wp2_with fail
      go_roundw
      case rel =>
        refine ⟨j + 1, by go_num, by omega, ?_, hbw3⟩
        have h3 := HO.out
        rw [HTK.out, bodyT_snoc, HTT.out, HBB.out, Lib.byteCells_append, Lib.byteCells_append]
        rw [Lib.byteCells_append] at h3
        rw [List.length_append, List.length_append]
        exact h3
      case measure => simp [intOf]; omega
    · have HTake : Hid (xs.take j = xs) := List.take_of_length_le (by omega)
      rw [HTake.out, HJ.out] at hown
      have hjl := joinT_len (xs.map KVd.it)
      have hbl := bodyT_len xs
      rw [HJ.out] at hbl
      obtain ⟨t, Ht⟩ : ∃ t, Hid (joinT (xs.map KVd.it) = t) := ⟨_, Lib.hid rfl⟩
      rw [Ht.out] at hown hbl
      have hol : (t ++ [44, 32] : List UInt8).length = t.length + 2 := by simp
      rw [hol] at hown hbl
      obtain ⟨g, cap, rfl, hgb, hgl⟩ := hown.form (by omega)
      have hcap : t.length + 2 ≤ cap := by
        rcases hown.2 with ⟨h1, _⟩ | ⟨g', cap', cur, h1, _, _, h2, _⟩
        · cases h1
        · injection h1 with _ _ h1; omega
      have hcapm : cap ≤ maxLen := by
        rcases hown.2 with ⟨h1, _⟩ | ⟨g', cap', cur, h1, _, _, _, h2, _⟩
        · cases h1
        · injection h1 with _ _ h1; omega
      have hcm : cap ≤ 9223372036854775807 := hcapm
      have hsrc : ∀ i u, (Lib.byteCells t)[i]? = some u → wr.cell? ((⟨g, 0, none⟩ : Addr).add i) = some u := by
        intro i u hu
        refine hown.cells (g := g) rfl i u ?_
        rw [Lib.byteCells_append]
        rw [List.getElem?_append_left]
        · exact hu
        · exact (List.getElem?_eq_some_iff.1 hu).1
      have HSRC := Lib.hid hsrc
      have hlb : t.length ≤ 100000000 := by omega
      clear hsrc hown hcapm hol
      go_wp2_with (at_builtin; refine wpList_append_own _ rfl (.tmp 32) (.tmp 33) 56 rfl wr.heap.size 5 i0 (.int .u8 0) 1 1 Tryd.underlying56 hi hz0 hz1 hz2 rfl (by decide) _ 2 _ rfl (owns_two wr (.int .u8 123) (.int .u8 32) 5) ⟨g, 0, none⟩ t.length cap (Lib.byteCells t) rfl ?c0 ?c1 ?c2 ?c3 ?c4 ?c5 ?_)
      case c0 => rw [Lib.byteCells_length, Nat.mul_one]
      case c1 =>
        intro i u hu
        have h1 := HSRC.out i u hu
        have h2 : ((⟨g, 0, none⟩ : Addr).add i).block = g := by unfold Addr.add; split <;> rfl
        rw [World.cell?_alloc_lt wr _ _ (by rw [h2]; exact hgl)]
        exact h1
      case c2 => exact byteOne t
      case c3 => unfold maxLen; omega
      case c4 => omega
      case c5 => simp
      intro v2 w2 ho2 hgrow2 _
      have hb2 : Below w.heap.size w w2 := (hbw.alloc hbs _).grown hgrow2 (by simp; omega) (own_at hbs)
      have hs2 := hb2.size
      have hs22 : wr.heap.size ≤ w2.heap.size := by have := hgrow2.size; simp at this; omega
      go_wp2_with (at_builtin; refine wpList_append_own _ rfl (.tmp 35) (.tmp 36) 56 rfl wr.heap.size 5 i0 (.int .u8 0) 1 1 Tryd.underlying56 hi hz0 hz1 hz2 rfl (by decide) _ _ _ rfl (ho2.alloc _) ⟨w2.heap.size, 0, none⟩ 2 2 [.int .u8 32, .int .u8 125] rfl rfl ?d1 ?d2 ?d3 ?d4 ?d5 ?_)
      case d1 => exact two_cells w2 _ _ _
      case d2 => intro u hu; simp at hu; rcases hu with rfl | rfl <;> rfl
      case d3 => unfold maxLen; omega
      case d4 => omega
      case d5 => simp; omega
      intro v3 w3 ho3 hgrow3 _
      have hb3 : Below w.heap.size w w3 := (hb2.alloc hs2 _).grown hgrow3 (by simp; omega) (fun k hk => Nat.le_trans hbs (ho2.lt k hk).1)
      obtain ⟨g3, cap3, rfl, _, _⟩ := ho3.form (by omega)
      have hR : R = [123, 32] ++ t ++ [32, 125] := by rw [HR.out, HE.out, Ht.out]
      have hRl : R.length = 2 + t.length + 2 := by rw [hR]; simp; omega
      have hcv := run_convert_bytes_back (P := Tryd.prog) w3 56 9 5 ⟨g3, 0, none⟩ cap3 R Tryd.underlying56 Tryd.underlying5 Tryd.underlying9 (by
        intro i hi
        refine ho3.cells (g := g3) rfl i _ ?_
        have hbc : [Value.int .u8 123, Value.int .u8 32] ++ Lib.byteCells t ++ [Value.int .u8 32, Value.int .u8 125] = Lib.byteCells R := by rw [hR]; simp [Lib.byteCells]
        show ([Value.int .u8 123, Value.int .u8 32] ++ Lib.byteCells t ++ [Value.int .u8 32, Value.int .u8 125])[i]? = _
        rw [hbc]
        simp [Lib.byteCells, hi])
      rw [hRl] at hcv
      have HCV := Lib.hid hcv
      clear ho3 ho2 hgrow3 hgrow2 hR hRl HSRC hcv
      have hcv := HCV.out
      go_wp2_with fail
      go_ret
      exact ⟨rfl, hb3⟩
end Go.Proofs.YtooalmhelfaodaaDoor
