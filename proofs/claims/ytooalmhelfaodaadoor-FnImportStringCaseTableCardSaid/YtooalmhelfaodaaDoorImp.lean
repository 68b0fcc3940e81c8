/- What (*Import).writeTo and String write, where paths and metadata are printable. -/
import Derived.Test.YtooalmhelfaodaaDoorEnc
import Derived.Test.YtooalmhelfaodaaDoorZzc
namespace Go.Proofs.YtooalmhelfaodaaDoor
open Go.RowKit
set_option maxRecDepth 100000
set_option linter.unusedVariables false
set_option linter.unusedSimpArgs false
theorem Bd.alloc {B b : Nat} {l : List UInt8} {w : World} (h : Bd B b l w) (o : Obj) : Bd B b l (w.alloc o) := by
  refine ⟨?_, Nat.le_trans h.2 (by simp)⟩
  rcases h.1 with h1 | h1
  · exact Or.inl (h1.alloc o)
  · exact Or.inr (h1.alloc o)
theorem Bd.of_eq {B b : Nat} {l l' : List UInt8} {w : World} (h : Bd B b l w) (e : l' = l) : Bd B b l' w := by rw [e]; exact h
theorem Bd.blt {B b : Nat} {l : List UInt8} {w : World} (h : Bd B b l w) : b < w.heap.size := by
  rcases h.1 with h1 | h1 <;> exact h1.lt
def qT (s : ByteArray) : List UInt8 := [34] ++ s.data.toList ++ [34]
theorem qT_len (s : ByteArray) : (qT s).length = s.size + 2 := by simp only [qT, List.length_append, List.length_cons, List.length_nil, size_list]; omega
set_option maxHeartbeats 1000000 in
theorem jsonP (B b : Nat) (l : List UInt8) (s : ByteArray) (w : World) (h : Bd B b l w) (hs : Prn s) (hl : l.length + s.size + 2 ≤ 70368744177664) :
    Calls Tryd.prog 80 #[.pointer (some ⟨b, 0, none⟩), .string s] w (Wrote B b (l ++ qT s) w) := by
  have hE := Lib.hid fun (cs : Array Value) (h0 : cs[0]? = some (.iface 93 (.pointer (some ⟨b, 0, none⟩)))) => encP B b w.heap.size cs l s (w.alloc (.cells cs 162)) (h.alloc _) (Blk.new w _ _) h0 (by have := h.blt; omega) hs hl
  have hb0 := Lib.hid h.2
  clear h hs
  go_enter Tryd.func80, Tryd.ntmps80
  go_wp2_with fail
  with_reducible refine (hE.out _ rfl).mono ?_
  rintro e1 w1 ⟨rfl, h1, hb1⟩
  go_wp2_with fail
  go_end0
  refine ⟨rfl, ?_, ((Below.refl B w).alloc hb0.out _).trans hb1⟩
  unfold qT
  rw [← List.append_assoc, ← List.append_assoc]
  exact h1
def ctS (s : ByteArray) : Array Value := #[.pointer none, .pointer none, .string ⟨#[]⟩, .string s, .bool false, .bool false, .bool false]
set_option maxHeartbeats 1000000 in
theorem termS (B b t : Nat) (l : List UInt8) (s : ByteArray) (w : World) (h : Bd B b l w) (hs : Prn s) (hl : l.length + s.size + 2 ≤ 70368744177664) (hT : Blk w t 81 (ctS s)) :
    Calls Tryd.prog 95 #[.pointer (some ⟨t, 0, none⟩), .pointer (some ⟨b, 0, none⟩)] w (Wrote B b (l ++ qT s) w) := by
  have c0 : w.cell? ⟨t, 0, none⟩ = some (.pointer none) := hT.cell 0
  have c1 : w.cell? ⟨t, 1, none⟩ = some (.pointer none) := hT.cell 1
  have c2 : w.cell? ⟨t, 2, none⟩ = some (.string ⟨#[]⟩) := hT.cell 2
  have c3 : w.cell? ⟨t, 3, none⟩ = some (.string s) := hT.cell 3
  have c4 : w.cell? ⟨t, 4, none⟩ = some (.bool false) := hT.cell 4
  have c5 : w.cell? ⟨t, 5, none⟩ = some (.bool false) := hT.cell 5
  have c6 : w.cell? ⟨t, 6, none⟩ = some (.bool false) := hT.cell 6
  have hj := Lib.hid (jsonP B b l s w h hs hl)
  clear hT h hs
  go_enter Tryd.func95, Tryd.ntmps95
  go_wp2_with fail
  with_reducible refine (hj.out).mono ?_
  rintro e1 w1 ⟨rfl, h1, hb1⟩
  go_wp2_with fail
  go_end0
  exact ⟨rfl, h1, hb1⟩
def keyT (k : ByteArray) : List UInt8 := if k.size = 0 then [34, 34] else k.data.toList
def kvT' (k v : ByteArray) : List UInt8 := keyT k ++ [58, 32] ++ qT v
theorem prn_nil : Prn ⟨#[]⟩ := fun i h => absurd h (by show ¬ i < 0; omega)
theorem keyT_len (k : ByteArray) : (keyT k).length ≤ k.size + 2 := by
  unfold keyT
  split
  · simp
  · rw [size_list]; omega
set_option maxHeartbeats 2000000 in
theorem kvS (B b c t : Nat) (l : List UInt8) (k v : ByteArray) (w : World) (h : Bd B b l w) (hs : Prn v) (hl : l.length + k.size + v.size + 8 ≤ 70368744177664) (hc : c < B) (ht : t < B) (hC : Blk w c 83 #[.string k, .string ⟨#[]⟩, .pointer (some ⟨t, 0, none⟩)]) (hT : Blk w t 81 (ctS v)) :
    Calls Tryd.prog 83 #[.pointer (some ⟨c, 0, none⟩), .pointer (some ⟨b, 0, none⟩)] w (Wrote B b (l ++ kvT' k v) w) := by
  have c0 : w.cell? ⟨c, 0, none⟩ = some (.string k) := hC.cell 0
  have c1 : w.cell? ⟨c, 1, none⟩ = some (.string ⟨#[]⟩) := hC.cell 1
  have HC := Lib.hid hC
  have HT := Lib.hid hT
  have HV := Lib.hid hs
  clear hC hT hs
  by_cases hk : k.size = 0
  · have hkt : keyT k = [34, 34] := by unfold keyT; rw [if_pos hk]
    obtain rfl : k = ⟨#[]⟩ := by
      obtain ⟨d⟩ := k
      have : d.size = 0 := hk
      rw [Array.eq_empty_of_size_eq_zero this]
    have HK := Lib.hid hkt
    have hj := Lib.hid (jsonP B b l ⟨#[]⟩ w h prn_nil (by show _ + 0 + 2 ≤ _; omega))
    clear hkt hk h
    go_enter Tryd.func83, Tryd.ntmps83
    go_wp2_with fail
    with_reducible refine (hj.out).mono ?_
    rintro e1 w1 ⟨rfl, h1, hb1⟩
    have hd := Lib.hid (wStr B b _ ⟨#[58, 32]⟩ w1 h1 (by simp only [List.length_append, qT_len]; show _ + (0 + 2) + 2 ≤ _; omega))
    clear h1 hj c0 c1
    go_wp2_with fail
    with_reducible refine (hd.out).mono ?_
    rintro e2 w2 ⟨rfl, h2, hb2⟩
    have c2 : w2.cell? ⟨c, 2, none⟩ = some (.pointer (some ⟨t, 0, none⟩)) := ((hb1.trans hb2).cell (p := ⟨c, 2, none⟩) hc).trans (HC.out.cell 2)
    have hv := Lib.hid (termS B b t _ v w2 h2 HV.out (by simp only [List.length_append, qT_len]; show _ + (0 + 2) + 2 + _ + 2 ≤ _; omega) (HT.out.below (hb1.trans hb2) ht))
    clear h2 hd
    go_wp2_with fail
    with_reducible refine (hv.out).mono ?_
    rintro e3 w3 ⟨rfl, h3, hb3⟩
    go_wp2_with fail
    go_end0
    refine ⟨rfl, ?_, (hb1.trans hb2).trans hb3⟩
    unfold kvT'
    rw [HK.out]
    have e : l ++ ([34, 34] ++ [58, 32] ++ qT v) = l ++ qT ⟨#[]⟩ ++ (⟨#[58, 32]⟩ : ByteArray).data.toList ++ qT v := by simp [qT]
    rw [e]
    exact h3
  · have hkt : keyT k = k.data.toList := by unfold keyT; rw [if_neg hk]
    obtain ⟨k1, k2⟩ := size_ne hk
    have HK := Lib.hid hkt
    have hj := Lib.hid (wStr B b l k w h (by omega))
    clear hkt hk h
    go_enter Tryd.func83, Tryd.ntmps83
    go_wp2_with fail
    with_reducible refine (hj.out).mono ?_
    rintro e1 w1 ⟨rfl, h1, hb1⟩
    have hd := Lib.hid (wStr B b _ ⟨#[58, 32]⟩ w1 h1 (by simp only [List.length_append, size_list]; show _ + _ + 2 ≤ _; omega))
    clear h1 hj c0 c1
    go_wp2_with fail
    with_reducible refine (hd.out).mono ?_
    rintro e2 w2 ⟨rfl, h2, hb2⟩
    have c2 : w2.cell? ⟨c, 2, none⟩ = some (.pointer (some ⟨t, 0, none⟩)) := ((hb1.trans hb2).cell (p := ⟨c, 2, none⟩) hc).trans (HC.out.cell 2)
    have hv := Lib.hid (termS B b t _ v w2 h2 HV.out (by simp only [List.length_append, size_list]; show _ + _ + 2 + _ + 2 ≤ _; omega) (HT.out.below (hb1.trans hb2) ht))
    clear h2 hd
    go_wp2_with fail
    with_reducible refine (hv.out).mono ?_
    rintro e3 w3 ⟨rfl, h3, hb3⟩
    go_wp2_with fail
    go_end0
    refine ⟨rfl, ?_, (hb1.trans hb2).trans hb3⟩
    unfold kvT'
    rw [HK.out]
    have e : l ++ (k.data.toList ++ [58, 32] ++ qT v) = l ++ k.data.toList ++ (⟨#[58, 32]⟩ : ByteArray).data.toList ++ qT v := by simp
    rw [e]
    exact h3
/-- the metadata: an object of one pair, or none -/
def MetaIs (w : World) (B : Nat) (m : Value) : Option (ByteArray × ByteArray) → Prop
  | none => m = .pointer none
  | some (k, v) => ∃ o r c t, m = .pointer (some ⟨o, 0, none⟩) ∧ o < B ∧ r < B ∧ c < B ∧ t < B ∧ Blk w o 86 #[.slice (some ⟨r, 0, none⟩) 1 1] ∧ Blk w r 77 #[.pointer (some ⟨c, 0, none⟩)] ∧
      Blk w c 83 #[.string k, .string ⟨#[]⟩, .pointer (some ⟨t, 0, none⟩)] ∧ Blk w t 81 (ctS v) ∧ Prn v
theorem MetaIs.below {w w' : World} {B : Nat} {m : Value} (hb : Below B w w') : ∀ {x : Option (ByteArray × ByteArray)}, MetaIs w B m x → MetaIs w' B m x
  | none, h => h
  | some (_, _), ⟨o, r, c, t, h1, h2, h3, h4, h5, h6, h7, h8, h9, h10⟩ => ⟨o, r, c, t, h1, h2, h3, h4, h5, h6.below hb h2, h7.below hb h3, h8.below hb h4, h9.below hb h5, h10⟩
def metaT : Option (ByteArray × ByteArray) → List UInt8
  | none => []
  | some (k, v) => [32] ++ ([123, 32] ++ kvT' k v ++ [32, 125])
def metaN : Option (ByteArray × ByteArray) → Nat
  | none => 0
  | some (k, v) => k.size + v.size + 16
set_option maxHeartbeats 2000000 in
theorem objS (B b o r c t : Nat) (l : List UInt8) (k v : ByteArray) (w : World) (h : Bd B b l w) (hs : Prn v) (hl : l.length + k.size + v.size + 14 ≤ 70368744177664) (ho : o < B) (hr : r < B) (hc : c < B) (ht : t < B)
    (hO : Blk w o 86 #[.slice (some ⟨r, 0, none⟩) 1 1]) (hR : Blk w r 77 #[.pointer (some ⟨c, 0, none⟩)]) (hC : Blk w c 83 #[.string k, .string ⟨#[]⟩, .pointer (some ⟨t, 0, none⟩)]) (hT : Blk w t 81 (ctS v)) :
    Calls Tryd.prog 75 #[.pointer (some ⟨o, 0, none⟩), .pointer (some ⟨b, 0, none⟩)] w (Wrote B b (l ++ ([123, 32] ++ kvT' k v ++ [32, 125])) w) := by
  have c0 : w.cell? ⟨o, 0, none⟩ = some (.slice (some ⟨r, 0, none⟩) 1 1) := hO.cell 0
  have HO := Lib.hid hO
  have HR := Lib.hid hR
  have HC := Lib.hid hC
  have HT := Lib.hid hT
  have HV := Lib.hid hs
  have hj := Lib.hid (wStr B b l ⟨#[123, 32]⟩ w h (by show _ + 2 ≤ _; omega))
  have hkl := keyT_len k
  clear hO hR hC hT hs h
  go_enter Tryd.func75, Tryd.ntmps75
  go_wp2_with fail
  with_reducible refine (hj.out).mono ?_
  rintro e1 w1 ⟨rfl, h1, hb1⟩
  have d0 : w1.cell? ⟨o, 0, none⟩ = some (.slice (some ⟨r, 0, none⟩) 1 1) := (hb1.cell (p := ⟨o, 0, none⟩) ho).trans (HO.out.cell 0)
  have r0 : w1.cell? ⟨r, 0, none⟩ = some (.pointer (some ⟨c, 0, none⟩)) := (hb1.cell (p := ⟨r, 0, none⟩) hr).trans (HR.out.cell 0)
  have hk := Lib.hid (kvS B b c t _ k v w1 h1 HV.out (by simp only [List.length_append]; show _ + 2 + _ + _ + 8 ≤ _; omega) hc ht (HC.out.below hb1 hc) (HT.out.below hb1 ht))
  clear h1 c0 hj
  go_wp2_with fail
  refine wp_loop_rounds 2 ?_
  rw [rounds_succ]
  go_wp2_with fail
  with_reducible refine (hk.out).mono ?_
  rintro e2 w2 ⟨rfl, h2, hb2⟩
  have hq := Lib.hid (wStr B b _ ⟨#[32, 125]⟩ w2 h2 (by simp only [List.length_append, kvT', qT_len, List.length_cons, List.length_nil]; show _ + 2 + (_ + 2 + _) + 2 ≤ _; omega))
  clear h2 d0 r0 hk
  go_wp2_with fail
  rw [rounds_succ]
  go_wp2_with fail
  with_reducible refine (hq.out).mono ?_
  rintro e3 w3 ⟨rfl, h3, hb3⟩
  go_wp2_with fail
  go_end0
  refine ⟨rfl, ?_, (hb1.trans hb2).trans hb3⟩
  exact h3.of_eq (by simp)
def ImIs (w : World) (B i : Nat) (p a n : ByteArray) (m : Option (ByteArray × ByteArray)) : Prop := i < B ∧ ∃ v, Blk w i 75 #[.string p, .string a, .string n, v] ∧ MetaIs w B v m
def headT (p a n : ByteArray) : List UInt8 := if p.size = 0 then [105, 110, 99, 108, 117, 100, 101, 32] ++ qT n else [105, 109, 112, 111, 114, 116, 32] ++ qT p ++ [32, 97, 115, 32] ++ a.data.toList
def imT (p a n : ByteArray) (m : Option (ByteArray × ByteArray)) : List UInt8 := headT p a n ++ metaT m ++ [59, 10]
/-- behind the head: the metadata, the semicolon -/
theorem im_tail (B b i : Nat) (l : List UInt8) (m : Option (ByteArray × ByteArray)) (mv : Value) (w : World) (h : Bd B b l w) (hi : i < B) (hM : MetaIs w B mv m) (hl : l.length + metaN m + 20 ≤ 70368744177664) :
    match m with
    | none => mv = .pointer none ∧ Hid (Calls Tryd.prog 59 #[.pointer (some ⟨b, 0, none⟩), .string ⟨#[59, 10]⟩] w fun e w' => e = .returned (.tuple #[.int .i64 ((⟨#[59, 10]⟩ : ByteArray).size : Nat), .nilIface]) ∧ Bd B b (l ++ metaT m ++ [59, 10]) w' ∧ Below B w w')
    | some _ => ∃ o, mv = .pointer (some ⟨o, 0, none⟩) ∧ Hid (Calls Tryd.prog 70 #[.pointer (some ⟨b, 0, none⟩), .int .u8 32] w fun e w' => e = .returned .nilIface ∧ Below B w w' ∧
        Hid (Calls Tryd.prog 75 #[.pointer (some ⟨o, 0, none⟩), .pointer (some ⟨b, 0, none⟩)] w' fun e w2 => e = .returned (.tuple #[]) ∧ Below B w' w2 ∧
          Hid (Calls Tryd.prog 59 #[.pointer (some ⟨b, 0, none⟩), .string ⟨#[59, 10]⟩] w2 fun e w3 => e = .returned (.tuple #[.int .i64 ((⟨#[59, 10]⟩ : ByteArray).size : Nat), .nilIface]) ∧ Bd B b (l ++ metaT m ++ [59, 10]) w3 ∧ Below B w2 w3))) := by
  cases m with
  | none =>
    refine ⟨hM, ?_⟩
    refine Lib.hid ((wStr B b l ⟨#[59, 10]⟩ w h (by show _ + 2 ≤ _; omega)).mono ?_)
    rintro e w' ⟨rfl, h1, h2⟩
    exact ⟨rfl, h1.of_eq (by simp [metaT]), h2⟩
  | some kv =>
    obtain ⟨k, v⟩ := kv
    obtain ⟨o, r, c, t, rfl, ho, hr, hc, ht, h6, h7, h8, h9, hv⟩ := hM
    have hkl := keyT_len k
    simp only [metaN] at hl
    refine ⟨o, rfl, Lib.hid ((wByte B b l 32 32 w (by decide) h (by omega)).mono ?_)⟩
    rintro e w1 ⟨rfl, h1, hb1⟩
    refine ⟨rfl, hb1, Lib.hid ((objS B b o r c t _ k v w1 h1 hv (by simp only [List.length_append, List.length_cons, List.length_nil]; omega) ho hr hc ht (h6.below hb1 ho) (h7.below hb1 hr) (h8.below hb1 hc) (h9.below hb1 ht)).mono ?_)⟩
    rintro e w2 ⟨rfl, h2, hb2⟩
    refine ⟨rfl, hb2, Lib.hid ((wStr B b _ ⟨#[59, 10]⟩ w2 h2 (by simp only [List.length_append, kvT', qT_len, List.length_cons, List.length_nil]; show _ + 2 ≤ _; omega)).mono ?_)⟩
    rintro e w3 ⟨rfl, h3, hb3⟩
    exact ⟨rfl, h3.of_eq (by simp [metaT]), hb3⟩
set_option maxHeartbeats 4000000 in
theorem im_any (B b i : Nat) (l : List UInt8) (p a n : ByteArray) (m : Option (ByteArray × ByteArray)) (w : World) (h : Bd B b l w) (hI : ImIs w B i p a n m) (hp : Prn p) (hn : p.size = 0 → Prn n) (hl : l.length + p.size + a.size + n.size + metaN m + 60 ≤ 70368744177664) :
    Calls Tryd.prog 68 #[.pointer (some ⟨i, 0, none⟩), .pointer (some ⟨b, 0, none⟩)] w (Wrote B b (l ++ imT p a n m) w) := by
  obtain ⟨hi, mv, hB, hM⟩ := hI
  have c0 : w.cell? ⟨i, 0, none⟩ = some (.string p) := hB.cell 0
  have HB := Lib.hid hB
  have HM := Lib.hid hM
  have HP := Lib.hid hp
  have HN := Lib.hid hn
  clear hB hM hp hn
  by_cases hp0 : p.size = 0
  · have hht : Hid (headT p a n = [105, 110, 99, 108, 117, 100, 101, 32] ++ qT n) := by unfold headT; rw [if_pos hp0]; exact rfl
    have HN' := Lib.hid (HN.out hp0)
    obtain rfl : p = ⟨#[]⟩ := by
      obtain ⟨d⟩ := p
      have : d.size = 0 := hp0
      rw [Array.eq_empty_of_size_eq_zero this]
    have hj := Lib.hid (wStr B b l ⟨#[105, 110, 99, 108, 117, 100, 101, 32]⟩ w h (by show _ + 8 ≤ _; omega))
    clear hp0 h
    go_enter Tryd.func68, Tryd.ntmps68
    go_wp2_with fail
    with_reducible refine (hj.out).mono ?_
    rintro e1 w1 ⟨rfl, h1, hb1⟩
    have d2 : w1.cell? ⟨i, 2, none⟩ = some (.string n) := (hb1.cell (p := ⟨i, 2, none⟩) hi).trans (HB.out.cell 2)
    have hq := Lib.hid (jsonP B b _ n w1 h1 HN'.out (by simp only [List.length_append, size_list]; show _ + 8 + _ + 2 ≤ _; omega))
    clear h1 hj c0
    go_wp2_with fail
    with_reducible refine (hq.out).mono ?_
    rintro e2 w2 ⟨rfl, h2, hb2⟩
    have hb12 := hb1.trans hb2
    have ht := im_tail B b i _ m mv w2 h2 hi (HM.out.below hb12) (by simp only [List.length_append, qT_len]; show _ + 8 + (_ + 2) + _ + 20 ≤ _; omega)
    have d3 : w2.cell? ⟨i, 3, none⟩ = some mv := (hb12.cell (p := ⟨i, 3, none⟩) hi).trans (HB.out.cell 3)
    clear h2 hq d2
    cases m with
    | none =>
      obtain ⟨rfl, ht⟩ := ht
      go_wp2_with fail
      with_reducible refine (ht.out).mono ?_
      rintro e3 w3 ⟨rfl, h3, hb3⟩
      go_wp2_with fail
      go_end0
      exact ⟨rfl, h3.of_eq (by unfold imT; rw [hht.out]; simp), hb12.trans hb3⟩
    | some kv =>
      obtain ⟨o, rfl, ht⟩ := ht
      go_wp2_with fail
      with_reducible refine (ht.out).mono ?_
      rintro e3 w3 ⟨rfl, hb3, ht3⟩
      have d4 : w3.cell? ⟨i, 3, none⟩ = some (.pointer (some ⟨o, 0, none⟩)) := (hb3.cell (p := ⟨i, 3, none⟩) hi).trans d3
      clear d3 ht
      go_wp2_with fail
      with_reducible refine (ht3.out).mono ?_
      rintro e4 w4 ⟨rfl, hb4, ht4⟩
      go_wp2_with fail
      with_reducible refine (ht4.out).mono ?_
      rintro e5 w5 ⟨rfl, h5, hb5⟩
      go_wp2_with fail
      go_end0
      exact ⟨rfl, h5.of_eq (by unfold imT; rw [hht.out]; simp), ((hb12.trans hb3).trans hb4).trans hb5⟩
  · have hht : Hid (headT p a n = [105, 109, 112, 111, 114, 116, 32] ++ qT p ++ [32, 97, 115, 32] ++ a.data.toList) := by unfold headT; rw [if_neg hp0]; exact rfl
    obtain ⟨k1, k2⟩ := size_ne hp0
    have hj := Lib.hid (wStr B b l ⟨#[105, 109, 112, 111, 114, 116, 32]⟩ w h (by show _ + 7 ≤ _; omega))
    clear hp0 h
    go_enter Tryd.func68, Tryd.ntmps68
    go_wp2_with fail
    with_reducible refine (hj.out).mono ?_
    rintro e1 w1 ⟨rfl, h1, hb1⟩
    have d0 : w1.cell? ⟨i, 0, none⟩ = some (.string p) := (hb1.cell (p := ⟨i, 0, none⟩) hi).trans (HB.out.cell 0)
    have hq := Lib.hid (jsonP B b _ p w1 h1 HP.out (by simp only [List.length_append, size_list]; show _ + 7 + _ + 2 ≤ _; omega))
    clear h1 hj c0
    go_wp2_with fail
    with_reducible refine (hq.out).mono ?_
    rintro e2 w2 ⟨rfl, h2, hb2⟩
    have hb12 := hb1.trans hb2
    have ha := Lib.hid (wStr B b _ ⟨#[32, 97, 115, 32]⟩ w2 h2 (by simp only [List.length_append, qT_len]; show _ + 7 + (_ + 2) + 4 ≤ _; omega))
    clear h2 hq d0
    go_wp2_with fail
    with_reducible refine (ha.out).mono ?_
    rintro e3 w3 ⟨rfl, h3, hb3⟩
    have hb13 := hb12.trans hb3
    have d1 : w3.cell? ⟨i, 1, none⟩ = some (.string a) := (hb13.cell (p := ⟨i, 1, none⟩) hi).trans (HB.out.cell 1)
    have hq := Lib.hid (wStr B b _ a w3 h3 (by simp only [List.length_append, qT_len]; show _ + 7 + (_ + 2) + 4 + _ ≤ _; omega))
    clear h3 ha
    go_wp2_with fail
    with_reducible refine (hq.out).mono ?_
    rintro e4 w4 ⟨rfl, h4, hb4⟩
    have hb14 := hb13.trans hb4
    have ht := im_tail B b i _ m mv w4 h4 hi (HM.out.below hb14) (by simp only [List.length_append, qT_len, size_list]; show _ + 7 + (_ + 2) + 4 + _ + _ + 20 ≤ _; omega)
    have d3 : w4.cell? ⟨i, 3, none⟩ = some mv := (hb14.cell (p := ⟨i, 3, none⟩) hi).trans (HB.out.cell 3)
    clear h4 hq d1
    cases m with
    | none =>
      obtain ⟨rfl, ht⟩ := ht
      go_wp2_with fail
      with_reducible refine (ht.out).mono ?_
      rintro e5 w5 ⟨rfl, h5, hb5⟩
      go_wp2_with fail
      go_end0
      exact ⟨rfl, h5.of_eq (by unfold imT; rw [hht.out]; simp), hb14.trans hb5⟩
    | some kv =>
      obtain ⟨o, rfl, ht⟩ := ht
      go_wp2_with fail
      with_reducible refine (ht.out).mono ?_
      rintro e5 w5 ⟨rfl, hb5, ht3⟩
      have d4 : w5.cell? ⟨i, 3, none⟩ = some (.pointer (some ⟨o, 0, none⟩)) := (hb5.cell (p := ⟨i, 3, none⟩) hi).trans d3
      clear d3 ht
      go_wp2_with fail
      with_reducible refine (ht3.out).mono ?_
      rintro e6 w6 ⟨rfl, hb6, ht4⟩
      go_wp2_with fail
      with_reducible refine (ht4.out).mono ?_
      rintro e7 w7 ⟨rfl, h7, hb7⟩
      go_wp2_with fail
      go_end0
      exact ⟨rfl, h7.of_eq (by unfold imT; rw [hht.out]; simp), ((hb14.trans hb5).trans hb6).trans hb7⟩
theorem MetaIs.mono {w : World} {B B' : Nat} {m : Value} (hB : B ≤ B') : ∀ {x : Option (ByteArray × ByteArray)}, MetaIs w B m x → MetaIs w B' m x
  | none, h => h
  | some (_, _), ⟨o, r, c, t, h1, h2, h3, h4, h5, h6⟩ => ⟨o, r, c, t, h1, by omega, by omega, by omega, by omega, h6⟩
set_option maxHeartbeats 1000000 in
theorem imStr (i : Nat) (p a n : ByteArray) (m : Option (ByteArray × ByteArray)) (w : World) (hI : ImIs w w.heap.size i p a n m) (hp : Prn p) (hn : p.size = 0 → Prn n) (hl : p.size + a.size + n.size + metaN m + 60 ≤ 70368744177664) :
    Calls Tryd.prog 51 #[.pointer (some ⟨i, 0, none⟩)] w fun r w' => r = .returned (.string ⟨(imT p a n m).toArray⟩) ∧ Below w.heap.size w w' := by
  have hb0 : Below w.heap.size w (w.alloc (.cells #[.pointer none, .slice none 0 0] 95)) := (Below.refl _ _).alloc (Nat.le_refl _) _
  obtain ⟨h1, v, h2, h3⟩ := hI
  have hK := Lib.hid (im_any w.heap.size w.heap.size i [] p a n m _ (Bd.fresh w) ⟨h1, v, h2.below hb0 h1, h3.below hb0⟩ hp hn (by simp only [List.length_nil]; omega))
  clear h2 h3 hp hn
  go_enter Tryd.func51, Tryd.ntmps51
  go_wp2_with fail
  with_reducible refine (hK.out).mono ?_
  rintro e1 w1 ⟨rfl, h1, hb1⟩
  go_wp2_with fail
  with_reducible refine (bStr _ _ _ _ h1).mono ?_
  rintro e2 w2 ⟨rfl, h2, hb2⟩
  go_wp2_with fail
  go_ret
  exact ⟨rfl, (hb0.trans hb1).trans hb2⟩
end Go.Proofs.YtooalmhelfaodaaDoor
