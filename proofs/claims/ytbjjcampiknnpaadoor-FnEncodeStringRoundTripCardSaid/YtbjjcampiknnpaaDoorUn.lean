/- n001_64: what unquoteB2 answers at a text that reads back. -/
import Derived.Test.YtbjjcampiknnpaaDoorUr
import Derived.Test.YtbjjcampiknnpaaDoorMs
import Derived.Test.YtbjjcampiknnpaaDoorHx
import Derived.Test.YtbjjcampiknnpaaDoorRb
import Derived.Test.YtbjjcampiknnpaaDoorRc
namespace Go.Proofs.YtbjjcampiknnpaaDoor
open Go.RowKit
set_option maxRecDepth 100000
set_option linter.unusedVariables false
set_option linter.unusedSimpArgs false
theorem UQ.len {r d : List UInt8} (h : UQ r d) : d.length ≤ r.length := by
  induction h with
  | nil => exact Nat.le_refl _
  | plain _ _ _ ih => simp only [List.length_cons]; omega
  | esc _ _ ih => simp only [List.length_cons]; omega
  | uni _ _ ih => simp only [List.length_cons]; omega
  | bad _ ih => simp only [List.length_cons]; omega
/-- the state of the loop -/
def US (s : ByteArray) (d : List UInt8) (w0 : World) (j : Nat) (v : Value) (D : List UInt8) (w : World) : Prop :=
  Txw w0.heap.size v D w ∧ Below w0.heap.size w0 w ∧ ∃ r d', s.data.toList.drop j = r ++ [34] ∧ UQ r d' ∧ D ++ d' = d
theorem US.tx {s : ByteArray} {d : List UInt8} {w0 w : World} {j : Nat} {v : Value} {D : List UInt8} (h : US s d w0 j v D w) : Txw w0.heap.size v D w := h.1
theorem US.bel {s : ByteArray} {d : List UInt8} {w0 w : World} {j : Nat} {v : Value} {D : List UInt8} (h : US s d w0 j v D w) : Below w0.heap.size w0 w := h.2.1
theorem US.len {s : ByteArray} {d : List UInt8} {w0 w : World} {j : Nat} {v : Value} {D : List UInt8} (h : US s d w0 j v D w) : D.length ≤ d.length := by
  obtain ⟨r, d', _, _, e⟩ := h.2.2
  have := congrArg List.length e
  rw [List.length_append] at this
  omega
theorem at_drop {s : ByteArray} {j : Nat} {c : UInt8} {r : List UInt8} (k : Nat) (h : s.data.toList.drop j = r) (hk : j + k < s.size) (hr : r[k]? = some c) : s[j + k].toNat = c.toNat := by
  rw [← bt_at s j k hk, h]
  unfold bt
  rw [hr]
theorem drop_more {s : ByteArray} {j k : Nat} {a r : List UInt8} (h : s.data.toList.drop j = a ++ r) (ha : a.length = k) : s.data.toList.drop (j + k) = r := by
  rw [← List.drop_drop, h, ← ha, List.drop_left]
def acc4 (x y z u : Nat) : Nat → Nat
  | 0 => 0
  | 1 => x
  | 2 => x * 16 + y
  | 3 => (x * 16 + y) * 16 + z
  | _ => ((x * 16 + y) * 16 + z) * 16 + u
theorem hex_at {s : ByteArray} {j : Nat} {a b c e : UInt8} {r : List UInt8} {x y z u : Nat} (h : s.data.toList.drop j = 92 :: 117 :: a :: b :: c :: e :: r) (hj : j + 6 ≤ s.size)
    (ha : hexV a.toNat = x) (hb : hexV b.toNat = y) (hc : hexV c.toNat = z) (he : hexV e.toNat = u) (gx : x < 16) (gy : y < 16) (gz : z < 16) (gu : u < 16) :
    ∀ p (hp : p < s.size), j + 2 ≤ p → p < j + 6 → ∃ g : Nat, g < 16 ∧ hexV s[p].toNat = (g : Int) ∧ acc4 x y z u (p + 1 - (j + 2)) = acc4 x y z u (p - (j + 2)) * 16 + g ∧ acc4 x y z u (p - (j + 2)) < 4096 := by
  intro p hp h1 h2
  obtain rfl | rfl | rfl | rfl : p = j + 2 ∨ p = j + 3 ∨ p = j + 4 ∨ p = j + 5 := by omega
  · refine ⟨x, gx, ?_, ?_, ?_⟩
    · rw [at_drop 2 h hp rfl, ha]
    · rw [show j + 2 + 1 - (j + 2) = 1 by omega, show j + 2 - (j + 2) = 0 by omega]; show x = 0 * 16 + x; omega
    · rw [show j + 2 - (j + 2) = 0 by omega]; show 0 < 4096; omega
  · refine ⟨y, gy, ?_, ?_, ?_⟩
    · rw [at_drop 3 h hp rfl, hb]
    · rw [show j + 3 + 1 - (j + 2) = 2 by omega, show j + 3 - (j + 2) = 1 by omega]; rfl
    · rw [show j + 3 - (j + 2) = 1 by omega]; show x < 4096; omega
  · refine ⟨z, gz, ?_, ?_, ?_⟩
    · rw [at_drop 4 h hp rfl, hc]
    · rw [show j + 4 + 1 - (j + 2) = 3 by omega, show j + 4 - (j + 2) = 2 by omega]; rfl
    · rw [show j + 4 - (j + 2) = 2 by omega]; show x * 16 + y < 4096; omega
  · refine ⟨u, gu, ?_, ?_, ?_⟩
    · rw [at_drop 5 h hp rfl, he]
    · rw [show j + 5 + 1 - (j + 2) = 4 by omega, show j + 5 - (j + 2) = 3 by omega]; rfl
    · rw [show j + 5 - (j + 2) = 3 by omega]; show (x * 16 + y) * 16 + z < 4096; omega
def Unq (d : List UInt8) (w : World) (e : Ending) (w' : World) : Prop := e = .returned (.tuple #[.string ⟨d.toArray⟩, .bool true]) ∧ Below w.heap.size w w'
set_option maxHeartbeats 8000000 in
theorem unquote_any (s : ByteArray) (body d : List UInt8) (w : World) (hs : s.size ≤ 16777216) (hb : s.data.toList = [34] ++ body ++ [34]) (hq : UQ body d) :
    Calls Tryd.prog 23 #[.string s] w (Unq d w) := by
  obtain ⟨i0, hi, hz0, hz1, hz2⟩ := info_parts infoU8
  have HI := Lib.hid hi
  have HZ0 := Lib.hid hz0
  have HZ1 := Lib.hid hz1
  have HZ2 := Lib.hid hz2
  have hsz : s.size = body.length + 2 := by rw [← size_list', hb]; simp
  have HDL : Hid (d.length ≤ s.size) := Lib.hid (by have := hq.len; omega)
  obtain ⟨V0, W0, hmk, h0, hb0⟩ : ∃ V0 W0, (Instr.makeSlice 46 (.int .i64 0) (.int .i64 (s.size : Int))).run Tryd.prog w = .ok V0 W0 ∧ Txw w.heap.size V0 [] W0 ∧ Below w.heap.size w W0 := by
    have h := run_make_rowN (P := Tryd.prog) 46 5 i0 _ Tryd.underlying46 hi hz0 .i64 .i64 0 s.size (Nat.zero_le _) (by rw [hz2]; omega) (by omega) w
    rw [hz1, Nat.mul_one] at h
    exact ⟨_, _, h, ⟨rfl, .inr ⟨w.heap.size, s.size, _, (0, 0), rfl, Nat.le_refl _, Blk.new _ _ _, Nat.le_refl _, Nat.zero_le _, by unfold maxLen; omega, by rw [size_madeCells, Nat.mul_one], rfl⟩⟩, (Below.refl _ _).alloc (Nat.le_refl _) _⟩
  have HM0 : Hid (US s d w 1 V0 [] W0) := Lib.hid ⟨h0, hb0, body, d, by rw [hb]; rfl, hq, rfl⟩
  have p0 : 0 < s.size := by omega
  have p1 : s.size - 1 < s.size := by omega
  have c0 : (s[0]'p0).toNat = 34 := at_drop (j := 0) (c := 34) 0 (r := [34] ++ body ++ [34]) (by rw [hb]; rfl) (by omega) rfl
  have hdl : s.data.toList.drop (s.size - 1) = [34] := by rw [hb, hsz, show body.length + 2 - 1 = ([34] ++ body).length by simp, List.drop_left]
  have cl : (s[s.size - 1]'p1).toNat = 34 := at_drop (j := s.size - 1) (c := 34) 0 hdl (by omega) rfl
  have hc0 : (((s[0]'p0).toNat : Nat) : Int) = 34 := by rw [c0]; rfl
  have hcl : (((s[s.size - 1]'p1).toNat : Nat) : Int) = 34 := by rw [cl]; rfl
  have z0 : (2 : Int) ≤ (s.size : Int) := by omega
  have z1 : (0 : Int) ≤ (s.size : Int) - 1 := by omega
  have z2 : (s.size : Int) - 1 < (s.size : Int) := by omega
  clear hi hz0 hz1 hz2 h0 hb0 hb hq c0 cl hdl hsz
  go_enter Tryd.func23, Tryd.ntmps23
  go_wp2_with fail
  go_loopw [5, 6] (fun v iv wr => ∃ (j : Nat) (D : List UInt8) (ov : Value), ov = v ∧ iv = .int .i64 j ∧ 1 ≤ j ∧ j + 1 ≤ s.size ∧ Hid (US s d w j ov D wr)) (fun _ iv _ => s.size - (intOf iv).toNat)
  case atStart => exact ⟨1, [], _, rfl, rfl, by omega, by omega, HM0⟩
  case round =>
    obtain ⟨j, D, ov, rfl, rfl, hj1, hjs, HM⟩ := hrel
    clear HM0
    have HL : Hid (D.length ≤ 16777216) := Lib.hid (by have := HM.out.len; have := HDL.out; omega)
    obtain ⟨r0, d', hdr, hu, hde⟩ := HM.out.2.2
    have hrl : s.size - j = r0.length + 1 := by have := congrArg List.length hdr; rw [List.length_drop, size_list', List.length_append] at this; exact this
    have y0 : (0 : Int) ≤ (j : Int) := by omega
    have y1 : (j : Int) < (s.size : Int) := by omega
    clear hmk
    cases hu with
    | nil =>
      have HDE : Hid (D = d) := Lib.hid (by rw [← hde]; simp)
      have hje : j + 1 = s.size := by simp only [List.length_nil] at hrl; omega
      have y2 : ¬ ((j : Int) < (s.size : Int) - 1) := by omega
      obtain ⟨S, hS, hcv⟩ : ∃ S : ByteArray, Hid (S = ⟨d.toArray⟩) ∧ (convert 46 9 ov).run Tryd.prog wr = .ok (.string S) wr := ⟨_, Lib.hid rfl, (HM.out.tx.of_eq HDE.out.symm).str⟩
      clear hdr hde hrl
      go_wp2_with fail
      go_ret2
      exact ⟨by rw [hS.out]; rfl, HM.out.bel⟩
    | @plain c r d1 h34 h92 hu1 =>
      simp only [List.length_cons] at hrl
      have y2 : (j : Int) < (s.size : Int) - 1 := by omega
      as_aux_lemma =>
        obtain ⟨x, hx⟩ : ∃ x : Nat, Hid (c.toNat = x) := ⟨_, Lib.hid rfl⟩
        have hb0 : s[j].toNat = c.toNat := at_drop 0 hdr (by omega) rfl
        have hxe : ((s[j].toNat : Nat) : Int) = (x : Int) := by rw [hb0, hx.out]
        have hx8 : x < 256 := by rw [← hx.out]; exact c.toNat_lt
        have n34 : ((x : Int) == 34) = false := by rw [beq_eq_false_iff_ne]; intro e; apply h34; apply UInt8.toNat_inj.1; rw [hx.out]; show x = 34; omega
        have n92 : ((x : Int) == 92) = false := by rw [beq_eq_false_iff_ne]; intro e; apply h92; apply UInt8.toNat_inj.1; rw [hx.out]; show x = 92; omega
        have HDR : Hid (s.data.toList.drop (j + 1) = r ++ [34]) := Lib.hid (drop_more (a := [c]) hdr rfl)
        have HU := Lib.hid hu1
        have HDE := Lib.hid hde
        clear hdr hu1 hde hb0
        go_wp2_with (at_builtin; refine wpList_append_ownF _ rfl _ _ 46 rfl w.heap.size 5 i0 (.int .u8 0) 1 1 Tryd.underlying46 HI.out HZ0.out HZ1.out HZ2.out rfl (by decide) _ _ _ rfl (World.ownsRowF.alloc HM.out.tx _) _ 1 1 [.int .u8 (x : Int)] rfl rfl (newsA _ _ _ _ (by simp)) (one_u8 _ (by simp)) (by unfold maxLen; have := HL.out; omega) (by have := HL.out; omega) (by simp; have := HM.out.bel.size; omega) ?_; intro v2 w2 hown hgr _)
        have hown : w2.ownsRowF w.heap.size 5 1 v2 (D.length + 1) (Lib.byteCells D ++ [.int .u8 ((c.toNat : Nat) : Int)]) := by rw [hx.out]; exact hown
        have HN : Hid (US s d w (j + 1) v2 (D ++ [c]) w2) := Lib.hid ⟨Txw.next (m := [c]) rfl rfl hown, (HM.out.bel.alloc HM.out.bel.size _).grown hgr (by simp; have := HM.out.bel.size; omega) (fun k hk => (World.ownsRowF.lt HM.out.tx k hk).1), _, _, HDR.out, HU.out, by rw [← HDE.out]; simp⟩
        clear hown hgr
        go_wp2_with fail
        go_roundw
        case rel => exact ⟨j + 1, _, _, rfl, by go_num, by omega, by omega, HN⟩
        case measure => simp [intOf]; omega
    | @esc e b r d1 he hu1 =>
      simp only [List.length_cons] at hrl
      have y2 : (j : Int) < (s.size : Int) - 1 := by omega
      rcases he with ⟨rfl, rfl⟩ | ⟨rfl, rfl⟩ | ⟨rfl, rfl⟩ | ⟨rfl, rfl⟩ | ⟨rfl, rfl⟩ | ⟨rfl, rfl⟩ | ⟨rfl, rfl⟩
      · as_aux_lemma =>
          have hb0 : s[j].toNat = 92 := at_drop 0 hdr (by omega) rfl
          have hb1 : s[j + 1].toNat = 34 := at_drop 1 hdr (by omega) rfl
          have e0 : ((s[j].toNat : Nat) : Int) = 92 := by rw [hb0]; exact rfl
          have e1 : ((s[j + 1].toNat : Nat) : Int) = 34 := by rw [hb1]; exact rfl
          have HDR : Hid (s.data.toList.drop (j + 2) = r ++ [34]) := Lib.hid (drop_more (a := [92, 34]) hdr rfl)
          have HU := Lib.hid hu1
          have HDE := Lib.hid hde
          have i2 : (0 : Int) ≤ (j : Int) + 1 := by omega
          have i3 : (j : Int) + 1 < (s.size : Int) := by omega
          have i4 : (j : Int) + 1 < (s.size : Int) - 1 := by omega
          clear hdr hu1 hde hb0 hb1
          go_wp2_with (at_builtin; refine wpList_append_ownF _ rfl _ _ 46 rfl w.heap.size 5 i0 (.int .u8 0) 1 1 Tryd.underlying46 HI.out HZ0.out HZ1.out HZ2.out rfl (by decide) _ _ _ rfl (World.ownsRowF.alloc HM.out.tx _) _ 1 1 [.int .u8 34] rfl rfl (newsA _ _ _ _ (by simp)) (one_u8 _ (by simp)) (by unfold maxLen; have := HL.out; omega) (by have := HL.out; omega) (by simp; have := HM.out.bel.size; omega) ?_; intro v2 w2 hown hgr _)
          have HN : Hid (US s d w (j + 2) v2 (D ++ [34]) w2) := Lib.hid ⟨Txw.next (m := [34]) rfl rfl hown, (HM.out.bel.alloc HM.out.bel.size _).grown hgr (by simp; have := HM.out.bel.size; omega) (fun k hk => (World.ownsRowF.lt HM.out.tx k hk).1), _, _, HDR.out, HU.out, by rw [← HDE.out]; simp⟩
          clear hown hgr
          go_wp2_with fail
          go_roundw
          case rel => exact ⟨j + 2, _, _, rfl, by go_num, by omega, by omega, HN⟩
          case measure => simp [intOf]; omega
      · as_aux_lemma =>
          have hb0 : s[j].toNat = 92 := at_drop 0 hdr (by omega) rfl
          have hb1 : s[j + 1].toNat = 92 := at_drop 1 hdr (by omega) rfl
          have e0 : ((s[j].toNat : Nat) : Int) = 92 := by rw [hb0]; exact rfl
          have e1 : ((s[j + 1].toNat : Nat) : Int) = 92 := by rw [hb1]; exact rfl
          have HDR : Hid (s.data.toList.drop (j + 2) = r ++ [34]) := Lib.hid (drop_more (a := [92, 92]) hdr rfl)
          have HU := Lib.hid hu1
          have HDE := Lib.hid hde
          have i2 : (0 : Int) ≤ (j : Int) + 1 := by omega
          have i3 : (j : Int) + 1 < (s.size : Int) := by omega
          have i4 : (j : Int) + 1 < (s.size : Int) - 1 := by omega
          clear hdr hu1 hde hb0 hb1
          go_wp2_with (at_builtin; refine wpList_append_ownF _ rfl _ _ 46 rfl w.heap.size 5 i0 (.int .u8 0) 1 1 Tryd.underlying46 HI.out HZ0.out HZ1.out HZ2.out rfl (by decide) _ _ _ rfl (World.ownsRowF.alloc HM.out.tx _) _ 1 1 [.int .u8 92] rfl rfl (newsA _ _ _ _ (by simp)) (one_u8 _ (by simp)) (by unfold maxLen; have := HL.out; omega) (by have := HL.out; omega) (by simp; have := HM.out.bel.size; omega) ?_; intro v2 w2 hown hgr _)
          have HN : Hid (US s d w (j + 2) v2 (D ++ [92]) w2) := Lib.hid ⟨Txw.next (m := [92]) rfl rfl hown, (HM.out.bel.alloc HM.out.bel.size _).grown hgr (by simp; have := HM.out.bel.size; omega) (fun k hk => (World.ownsRowF.lt HM.out.tx k hk).1), _, _, HDR.out, HU.out, by rw [← HDE.out]; simp⟩
          clear hown hgr
          go_wp2_with fail
          go_roundw
          case rel => exact ⟨j + 2, _, _, rfl, by go_num, by omega, by omega, HN⟩
          case measure => simp [intOf]; omega
      · as_aux_lemma =>
          have hb0 : s[j].toNat = 92 := at_drop 0 hdr (by omega) rfl
          have hb1 : s[j + 1].toNat = 98 := at_drop 1 hdr (by omega) rfl
          have e0 : ((s[j].toNat : Nat) : Int) = 92 := by rw [hb0]; exact rfl
          have e1 : ((s[j + 1].toNat : Nat) : Int) = 98 := by rw [hb1]; exact rfl
          have HDR : Hid (s.data.toList.drop (j + 2) = r ++ [34]) := Lib.hid (drop_more (a := [92, 98]) hdr rfl)
          have HU := Lib.hid hu1
          have HDE := Lib.hid hde
          have i2 : (0 : Int) ≤ (j : Int) + 1 := by omega
          have i3 : (j : Int) + 1 < (s.size : Int) := by omega
          have i4 : (j : Int) + 1 < (s.size : Int) - 1 := by omega
          clear hdr hu1 hde hb0 hb1
          go_wp2_with (at_builtin; refine wpList_append_ownF _ rfl _ _ 46 rfl w.heap.size 5 i0 (.int .u8 0) 1 1 Tryd.underlying46 HI.out HZ0.out HZ1.out HZ2.out rfl (by decide) _ _ _ rfl (World.ownsRowF.alloc HM.out.tx _) _ 1 1 [.int .u8 8] rfl rfl (newsA _ _ _ _ (by simp)) (one_u8 _ (by simp)) (by unfold maxLen; have := HL.out; omega) (by have := HL.out; omega) (by simp; have := HM.out.bel.size; omega) ?_; intro v2 w2 hown hgr _)
          have HN : Hid (US s d w (j + 2) v2 (D ++ [8]) w2) := Lib.hid ⟨Txw.next (m := [8]) rfl rfl hown, (HM.out.bel.alloc HM.out.bel.size _).grown hgr (by simp; have := HM.out.bel.size; omega) (fun k hk => (World.ownsRowF.lt HM.out.tx k hk).1), _, _, HDR.out, HU.out, by rw [← HDE.out]; simp⟩
          clear hown hgr
          go_wp2_with fail
          go_roundw
          case rel => exact ⟨j + 2, _, _, rfl, by go_num, by omega, by omega, HN⟩
          case measure => simp [intOf]; omega
      · as_aux_lemma =>
          have hb0 : s[j].toNat = 92 := at_drop 0 hdr (by omega) rfl
          have hb1 : s[j + 1].toNat = 102 := at_drop 1 hdr (by omega) rfl
          have e0 : ((s[j].toNat : Nat) : Int) = 92 := by rw [hb0]; exact rfl
          have e1 : ((s[j + 1].toNat : Nat) : Int) = 102 := by rw [hb1]; exact rfl
          have HDR : Hid (s.data.toList.drop (j + 2) = r ++ [34]) := Lib.hid (drop_more (a := [92, 102]) hdr rfl)
          have HU := Lib.hid hu1
          have HDE := Lib.hid hde
          have i2 : (0 : Int) ≤ (j : Int) + 1 := by omega
          have i3 : (j : Int) + 1 < (s.size : Int) := by omega
          have i4 : (j : Int) + 1 < (s.size : Int) - 1 := by omega
          clear hdr hu1 hde hb0 hb1
          go_wp2_with (at_builtin; refine wpList_append_ownF _ rfl _ _ 46 rfl w.heap.size 5 i0 (.int .u8 0) 1 1 Tryd.underlying46 HI.out HZ0.out HZ1.out HZ2.out rfl (by decide) _ _ _ rfl (World.ownsRowF.alloc HM.out.tx _) _ 1 1 [.int .u8 12] rfl rfl (newsA _ _ _ _ (by simp)) (one_u8 _ (by simp)) (by unfold maxLen; have := HL.out; omega) (by have := HL.out; omega) (by simp; have := HM.out.bel.size; omega) ?_; intro v2 w2 hown hgr _)
          have HN : Hid (US s d w (j + 2) v2 (D ++ [12]) w2) := Lib.hid ⟨Txw.next (m := [12]) rfl rfl hown, (HM.out.bel.alloc HM.out.bel.size _).grown hgr (by simp; have := HM.out.bel.size; omega) (fun k hk => (World.ownsRowF.lt HM.out.tx k hk).1), _, _, HDR.out, HU.out, by rw [← HDE.out]; simp⟩
          clear hown hgr
          go_wp2_with fail
          go_roundw
          case rel => exact ⟨j + 2, _, _, rfl, by go_num, by omega, by omega, HN⟩
          case measure => simp [intOf]; omega
      · as_aux_lemma =>
          have hb0 : s[j].toNat = 92 := at_drop 0 hdr (by omega) rfl
          have hb1 : s[j + 1].toNat = 110 := at_drop 1 hdr (by omega) rfl
          have e0 : ((s[j].toNat : Nat) : Int) = 92 := by rw [hb0]; exact rfl
          have e1 : ((s[j + 1].toNat : Nat) : Int) = 110 := by rw [hb1]; exact rfl
          have HDR : Hid (s.data.toList.drop (j + 2) = r ++ [34]) := Lib.hid (drop_more (a := [92, 110]) hdr rfl)
          have HU := Lib.hid hu1
          have HDE := Lib.hid hde
          have i2 : (0 : Int) ≤ (j : Int) + 1 := by omega
          have i3 : (j : Int) + 1 < (s.size : Int) := by omega
          have i4 : (j : Int) + 1 < (s.size : Int) - 1 := by omega
          clear hdr hu1 hde hb0 hb1
          go_wp2_with (at_builtin; refine wpList_append_ownF _ rfl _ _ 46 rfl w.heap.size 5 i0 (.int .u8 0) 1 1 Tryd.underlying46 HI.out HZ0.out HZ1.out HZ2.out rfl (by decide) _ _ _ rfl (World.ownsRowF.alloc HM.out.tx _) _ 1 1 [.int .u8 10] rfl rfl (newsA _ _ _ _ (by simp)) (one_u8 _ (by simp)) (by unfold maxLen; have := HL.out; omega) (by have := HL.out; omega) (by simp; have := HM.out.bel.size; omega) ?_; intro v2 w2 hown hgr _)
          have HN : Hid (US s d w (j + 2) v2 (D ++ [10]) w2) := Lib.hid ⟨Txw.next (m := [10]) rfl rfl hown, (HM.out.bel.alloc HM.out.bel.size _).grown hgr (by simp; have := HM.out.bel.size; omega) (fun k hk => (World.ownsRowF.lt HM.out.tx k hk).1), _, _, HDR.out, HU.out, by rw [← HDE.out]; simp⟩
          clear hown hgr
          go_wp2_with fail
          go_roundw
          case rel => exact ⟨j + 2, _, _, rfl, by go_num, by omega, by omega, HN⟩
          case measure => simp [intOf]; omega
      · as_aux_lemma =>
          have hb0 : s[j].toNat = 92 := at_drop 0 hdr (by omega) rfl
          have hb1 : s[j + 1].toNat = 114 := at_drop 1 hdr (by omega) rfl
          have e0 : ((s[j].toNat : Nat) : Int) = 92 := by rw [hb0]; exact rfl
          have e1 : ((s[j + 1].toNat : Nat) : Int) = 114 := by rw [hb1]; exact rfl
          have HDR : Hid (s.data.toList.drop (j + 2) = r ++ [34]) := Lib.hid (drop_more (a := [92, 114]) hdr rfl)
          have HU := Lib.hid hu1
          have HDE := Lib.hid hde
          have i2 : (0 : Int) ≤ (j : Int) + 1 := by omega
          have i3 : (j : Int) + 1 < (s.size : Int) := by omega
          have i4 : (j : Int) + 1 < (s.size : Int) - 1 := by omega
          clear hdr hu1 hde hb0 hb1
          go_wp2_with (at_builtin; refine wpList_append_ownF _ rfl _ _ 46 rfl w.heap.size 5 i0 (.int .u8 0) 1 1 Tryd.underlying46 HI.out HZ0.out HZ1.out HZ2.out rfl (by decide) _ _ _ rfl (World.ownsRowF.alloc HM.out.tx _) _ 1 1 [.int .u8 13] rfl rfl (newsA _ _ _ _ (by simp)) (one_u8 _ (by simp)) (by unfold maxLen; have := HL.out; omega) (by have := HL.out; omega) (by simp; have := HM.out.bel.size; omega) ?_; intro v2 w2 hown hgr _)
          have HN : Hid (US s d w (j + 2) v2 (D ++ [13]) w2) := Lib.hid ⟨Txw.next (m := [13]) rfl rfl hown, (HM.out.bel.alloc HM.out.bel.size _).grown hgr (by simp; have := HM.out.bel.size; omega) (fun k hk => (World.ownsRowF.lt HM.out.tx k hk).1), _, _, HDR.out, HU.out, by rw [← HDE.out]; simp⟩
          clear hown hgr
          go_wp2_with fail
          go_roundw
          case rel => exact ⟨j + 2, _, _, rfl, by go_num, by omega, by omega, HN⟩
          case measure => simp [intOf]; omega
      · as_aux_lemma =>
          have hb0 : s[j].toNat = 92 := at_drop 0 hdr (by omega) rfl
          have hb1 : s[j + 1].toNat = 116 := at_drop 1 hdr (by omega) rfl
          have e0 : ((s[j].toNat : Nat) : Int) = 92 := by rw [hb0]; exact rfl
          have e1 : ((s[j + 1].toNat : Nat) : Int) = 116 := by rw [hb1]; exact rfl
          have HDR : Hid (s.data.toList.drop (j + 2) = r ++ [34]) := Lib.hid (drop_more (a := [92, 116]) hdr rfl)
          have HU := Lib.hid hu1
          have HDE := Lib.hid hde
          have i2 : (0 : Int) ≤ (j : Int) + 1 := by omega
          have i3 : (j : Int) + 1 < (s.size : Int) := by omega
          have i4 : (j : Int) + 1 < (s.size : Int) - 1 := by omega
          clear hdr hu1 hde hb0 hb1
          go_wp2_with (at_builtin; refine wpList_append_ownF _ rfl _ _ 46 rfl w.heap.size 5 i0 (.int .u8 0) 1 1 Tryd.underlying46 HI.out HZ0.out HZ1.out HZ2.out rfl (by decide) _ _ _ rfl (World.ownsRowF.alloc HM.out.tx _) _ 1 1 [.int .u8 9] rfl rfl (newsA _ _ _ _ (by simp)) (one_u8 _ (by simp)) (by unfold maxLen; have := HL.out; omega) (by have := HL.out; omega) (by simp; have := HM.out.bel.size; omega) ?_; intro v2 w2 hown hgr _)
          have HN : Hid (US s d w (j + 2) v2 (D ++ [9]) w2) := Lib.hid ⟨Txw.next (m := [9]) rfl rfl hown, (HM.out.bel.alloc HM.out.bel.size _).grown hgr (by simp; have := HM.out.bel.size; omega) (fun k hk => (World.ownsRowF.lt HM.out.tx k hk).1), _, _, HDR.out, HU.out, by rw [← HDE.out]; simp⟩
          clear hown hgr
          go_wp2_with fail
          go_roundw
          case rel => exact ⟨j + 2, _, _, rfl, by go_num, by omega, by omega, HN⟩
          case measure => simp [intOf]; omega
    | @uni b r d1 hb hu1 =>
      simp only [List.length_cons] at hrl
      have y2 : (j : Int) < (s.size : Int) - 1 := by omega
      as_aux_lemma =>
        skip
        have hb0 : s[j].toNat = 92 := at_drop 0 hdr (by omega) rfl
        have hb1 : s[j + 1].toNat = 117 := at_drop 1 hdr (by omega) rfl
        have e0 : ((s[j].toNat : Nat) : Int) = 92 := by rw [hb0]; exact rfl
        have e1 : ((s[j + 1].toNat : Nat) : Int) = 117 := by rw [hb1]; exact rfl
        have HDR : Hid (s.data.toList.drop (j + 6) = r ++ [34]) := Lib.hid (drop_more (a := [92, 117, 48, 48, hxd (b / 16), hxd (b % 16)]) hdr rfl)
        have HX := Lib.hid (hex_at hdr (by omega) (x := 0) (y := 0) (z := b / 16) (u := b % 16) (by decide) (by decide) (hexV_hxd _ (by omega)) (hexV_hxd _ (by omega)) (by omega) (by omega) (by omega) (by omega))
        have HU := Lib.hid hu1
        have HDE := Lib.hid hde
        have i2 : (0 : Int) ≤ (j : Int) + 1 := by omega
        have i3 : (j : Int) + 1 < (s.size : Int) := by omega
        have i4 : (j : Int) + 1 < (s.size : Int) - 1 := by omega
        have i6 : (j : Int) + 6 ≤ (s.size : Int) - 1 := by omega
        clear hdr hu1 hde hb0 hb1
        go_wp2_with fail
        go_loopw [8, 9] (fun rv kv wi => ∃ (p R : Nat), rv = .int .i64 R ∧ kv = .int .i64 p ∧ j + 2 ≤ p ∧ p ≤ j + 6 ∧ wr = wi ∧ Hid (R = acc4 0 0 (b / 16) (b % 16) (p - (j + 2)))) (fun _ kv _ => j + 6 - (intOf kv).toNat)
        case atStart => exact ⟨j + 2, 0, rfl, by go_num, by omega, by omega, rfl, Lib.hid (by rw [show j + 2 - (j + 2) = 0 by omega]; rfl)⟩
        case round =>
          obtain ⟨p, R, rfl, rfl, p2, p6, hwi, HR⟩ := hrel
          subst hwi
          by_cases hlt : p < j + 6
          · have ps : p < s.size := by omega
            obtain ⟨g, hg, hgv, hga, hgb⟩ := HX.out p ps p2 hlt
            rw [← HR.out] at hga hgb
            have HV := Lib.hid (hexVal_any s[p].toNat wr s[p].toNat_lt)
            rw [hgv] at HV
            have HA := Lib.hid hga
            have k0 : (0 : Int) ≤ (p : Int) := by omega
            have k1 : (p : Int) < (s.size : Int) := by omega
            have k2 : (p : Int) < (j : Int) + 6 := by omega
            clear hga hgv
            go_wp2_with fail
            with_reducible refine (HV.out).mono ?_
            rintro e5 w5 ⟨rfl, rfl⟩
            go_wp2_with fail
            go_roundw
            case rel => exact ⟨p + 1, R * 16 + g, by go_num, by go_num, by omega, by omega, trivial, Lib.hid HA.out.symm⟩
            case measure => simp [intOf]; omega
          · obtain rfl : p = j + 6 := by omega
            have HRR : Hid (R = b) := Lib.hid (by rw [HR.out, show j + 6 - (j + 2) = 4 by omega]; show ((0 * 16 + 0) * 16 + b / 16) * 16 + b % 16 = b; omega)
            have k2 : ¬ (((j + 6 : Nat) : Int) < (j : Int) + 6) := by omega
            clear HX
            have HAP := Lib.hid (appRune_small w.heap.size b ov D wr HM.out.tx HM.out.bel.size hb (by have := HL.out; omega))
            obtain rfl : b = R := HRR.out.symm
            go_wp2_with fail
            with_reducible refine (HAP.out).mono ?_
            rintro e5 w5 ⟨v5, rfl, ht5, hb5⟩
            have HN : Hid (US s d w (j + 6) v5 (D ++ [UInt8.ofNat b]) w5) := Lib.hid ⟨ht5, HM.out.bel.trans hb5, _, _, HDR.out, HU.out, by rw [← HDE.out]; simp⟩
            clear ht5 hb5
            go_wp2_with fail
            go_roundw
            case rel => exact ⟨j + 6, _, _, rfl, by go_num, by omega, by omega, HN⟩
            case measure => simp [intOf]; omega
    | @bad r d1 hu1 =>
      simp only [List.length_cons] at hrl
      have y2 : (j : Int) < (s.size : Int) - 1 := by omega
      as_aux_lemma =>
        skip
        have hb0 : s[j].toNat = 92 := at_drop 0 hdr (by omega) rfl
        have hb1 : s[j + 1].toNat = 117 := at_drop 1 hdr (by omega) rfl
        have e0 : ((s[j].toNat : Nat) : Int) = 92 := by rw [hb0]; exact rfl
        have e1 : ((s[j + 1].toNat : Nat) : Int) = 117 := by rw [hb1]; exact rfl
        have HDR : Hid (s.data.toList.drop (j + 6) = r ++ [34]) := Lib.hid (drop_more (a := [92, 117, 102, 102, 102, 100]) hdr rfl)
        have HX := Lib.hid (hex_at hdr (by omega) (x := 15) (y := 15) (z := 15) (u := 13) (by decide) (by decide) (by decide) (by decide) (by omega) (by omega) (by omega) (by omega))
        have HU := Lib.hid hu1
        have HDE := Lib.hid hde
        have i2 : (0 : Int) ≤ (j : Int) + 1 := by omega
        have i3 : (j : Int) + 1 < (s.size : Int) := by omega
        have i4 : (j : Int) + 1 < (s.size : Int) - 1 := by omega
        have i6 : (j : Int) + 6 ≤ (s.size : Int) - 1 := by omega
        clear hdr hu1 hde hb0 hb1
        go_wp2_with fail
        go_loopw [8, 9] (fun rv kv wi => ∃ (p R : Nat), rv = .int .i64 R ∧ kv = .int .i64 p ∧ j + 2 ≤ p ∧ p ≤ j + 6 ∧ wr = wi ∧ Hid (R = acc4 15 15 15 13 (p - (j + 2)))) (fun _ kv _ => j + 6 - (intOf kv).toNat)
        case atStart => exact ⟨j + 2, 0, rfl, by go_num, by omega, by omega, rfl, Lib.hid (by rw [show j + 2 - (j + 2) = 0 by omega]; rfl)⟩
        case round =>
          obtain ⟨p, R, rfl, rfl, p2, p6, hwi, HR⟩ := hrel
          subst hwi
          by_cases hlt : p < j + 6
          · have ps : p < s.size := by omega
            obtain ⟨g, hg, hgv, hga, hgb⟩ := HX.out p ps p2 hlt
            rw [← HR.out] at hga hgb
            have HV := Lib.hid (hexVal_any s[p].toNat wr s[p].toNat_lt)
            rw [hgv] at HV
            have HA := Lib.hid hga
            have k0 : (0 : Int) ≤ (p : Int) := by omega
            have k1 : (p : Int) < (s.size : Int) := by omega
            have k2 : (p : Int) < (j : Int) + 6 := by omega
            clear hga hgv
            go_wp2_with fail
            with_reducible refine (HV.out).mono ?_
            rintro e5 w5 ⟨rfl, rfl⟩
            go_wp2_with fail
            go_roundw
            case rel => exact ⟨p + 1, R * 16 + g, by go_num, by go_num, by omega, by omega, trivial, Lib.hid HA.out.symm⟩
            case measure => simp [intOf]; omega
          · obtain rfl : p = j + 6 := by omega
            have HRR : Hid (R = 65533) := Lib.hid (by rw [HR.out, show j + 6 - (j + 2) = 4 by omega]; rfl)
            have k2 : ¬ (((j + 6 : Nat) : Int) < (j : Int) + 6) := by omega
            clear HX
            have HAP := Lib.hid (appRune_bad w.heap.size ov D wr HM.out.tx HM.out.bel.size (by have := HL.out; omega))
            obtain rfl : R = 65533 := HRR.out
            go_wp2_with fail
            with_reducible refine (HAP.out).mono ?_
            rintro e5 w5 ⟨v5, rfl, ht5, hb5⟩
            have HN : Hid (US s d w (j + 6) v5 (D ++ [239, 191, 189]) w5) := Lib.hid ⟨ht5, HM.out.bel.trans hb5, _, _, HDR.out, HU.out, by rw [← HDE.out]; simp⟩
            clear ht5 hb5
            go_wp2_with fail
            go_roundw
            case rel => exact ⟨j + 6, _, _, rfl, by go_num, by omega, by omega, HN⟩
            case measure => simp [intOf]; omega
end Go.Proofs.YtbjjcampiknnpaaDoor
