/- zzBuild: the chain of queries and, beside it, its flat text. -/
import Derived.Test.YtooalmhelfaodaaDoorZze
import Derived.Deep.LoopGhost
import Derived.Deep.RegionHeld3
namespace Go.Proofs.YtooalmhelfaodaaDoor
open Go.RowKit
set_option maxRecDepth 100000
set_option linter.unusedVariables false
set_option linter.unusedSimpArgs false
def u8s (xs : List Nat) : List Value := xs.map fun (k : Nat) => Value.int .u8 (k : Int)
theorem u8s_at {xs : List Nat} {j : Nat} (h : j < xs.length) : (u8s xs)[j]? = some (.int .u8 (kAt xs j : Nat)) := by
  unfold u8s
  unfold kAt
  rw [List.getElem?_map, List.getElem?_eq_getElem h, List.getD_eq_getElem?_getD, List.getElem?_eq_getElem h]
  rfl
theorem getD_le {xs : List Nat} (h : ∀ k ∈ xs, k ≤ 255) (j : Nat) : kAt xs j ≤ 255 := by
  unfold kAt
  rw [List.getD_eq_getElem?_getD]
  cases hx : xs[j]? with
  | none => show 0 ≤ 255; omega
  | some k => exact h k (List.mem_of_getElem? hx)
theorem textAtZ (B : Nat) (A : Option Addr) (c i : Nat) (z : Int) (xs : List ByteArray) (w : World) (hz : z = (i : Int)) (hx : TxtRd w B A xs) (hB : B ≤ w.heap.size) (hn : xs.length ≤ 10000000) (hi : i ≤ 10000000) :
    Calls Tryd.prog 64 #[.slice A xs.length c, .int .i64 z] w fun e w' => e = .returned (.string (txt xs i)) ∧ w' = w := by
  subst hz
  exact (textAt63 B A c i xs w hx hB hn hi).mono fun _ _ ⟨h1, h2⟩ => ⟨h1, h2.symm⟩
theorem size_zero {s : ByteArray} (h : s.size = 0) : s = ⟨#[]⟩ := by
  obtain ⟨d⟩ := s
  have : d.size = 0 := h
  rw [Array.eq_empty_of_size_eq_zero this]
def chainQ (ks os : List Nat) (ts ps : List ByteArray) : Qu := if ks.length = 0 then .nothing else chain ks os ts ps (ks.length - 1)
theorem chainQ_pos (ks os : List Nat) (ts ps : List ByteArray) (n : Nat) (h : ks.length = n + 1) : chainQ ks os ts ps = chain ks os ts ps n := by
  unfold chainQ
  rw [if_neg (by omega), h]
  rfl
def Built63 (ks os : List Nat) (ts ps : List ByteArray) (w : World) (e : Ending) (w' : World) : Prop :=
  ∃ q v, e = .returned (.tuple #[.pointer (some ⟨q, 0, none⟩), v]) ∧ ZS w q (chainQ ks os ts ps) v (outQ (chainQ ks os ts ps) []) w'
theorem infoU8 : (Tryd.prog.info? 5).map (fun i => (i.zero, i.size, i.bytes)) = some (some (.int .u8 0), 1, 1) := by kernel_rfl
theorem build63_nil (A0 A1 A2 A3 : Option Addr) (c0 c1 c2 c3 : Nat) (os : List Nat) (ts ps : List ByteArray) (w : World) :
    Calls Tryd.prog 41 #[.slice A0 0 c0, .slice A1 os.length c1, .slice A2 ts.length c2, .slice A3 ps.length c3] w (Built63 [] os ts ps w) := by
  go_enter Tryd.func41, Tryd.ntmps41
  go_wp2_with fail
  go_ret2
  exact ⟨w.heap.size, .slice none 0 0, rfl, ⟨by simp, Blk.new w _ _⟩, World.ownsRowF_nil _ _ _ _, (Below.refl _ _).alloc (Nat.le_refl _) _⟩
def RelB (ks os : List Nat) (ts ps : List ByteArray) (n : Nat) (w : World) (q v i : Value) (wr : World) : Prop :=
  ∃ (j qb : Nat), q = .pointer (some ⟨qb, 0, none⟩) ∧ i = .int .i64 (j + 1) ∧ j ≤ n ∧ Hid (ZS w qb (chain ks os ts ps j) v (flat ks os ts ps j) wr)
theorem relB_next {ks os : List Nat} {ts ps : List ByteArray} {n : Nat} {w wr : World} {v : Value} {j qb : Nat} {l : List UInt8} {T : Qu} (hj : j + 1 ≤ n) (h : ZS w qb T v l wr) (hc : chain ks os ts ps (j + 1) = T) (hl : flat ks os ts ps (j + 1) = l) :
    RelB ks os ts ps n w (.pointer (some ⟨qb, 0, none⟩)) v (.int .i64 (j + 1 + 1)) wr := by
  subst hl hc
  exact ⟨j + 1, qb, rfl, by go_num, hj, h⟩
theorem news1 (w : World) (v : Value) (t : TypeId) (g : Nat) (hg : g = w.heap.size) : ∀ j u, [v][j]? = some u → (w.alloc (.cells #[v] t)).cell? ((⟨g, 0, none⟩ : Addr).add j) = some u := by
  subst hg
  intro j u hj
  match j, hj with
  | 0, hj => simp at hj; subst hj; simp [Addr.add]
theorem opAt_in {os : List Nat} {j : Nat} (h : j < os.length) : opAt os j = kAt os j % 24 + 1 := by
  unfold opAt kAt
  rw [dif_pos h, List.getD_eq_getElem?_getD, List.getElem?_eq_getElem h]
  rfl
theorem opAt_out {os : List Nat} {j : Nat} (h : ¬ j < os.length) : opAt os j = 1 := by
  unfold opAt
  rw [dif_neg h]
theorem op_tmod {o op : Nat} (h : o % 24 + 1 = op) : Int.tmod (o : Int) 24 = (op : Int) - 1 := by
  rw [show Int.tmod (o : Int) 24 = ((o % 24 : Nat) : Int) from rfl]; omega
theorem pat_some {os : List Nat} {ps : List ByteArray} {j : Nat} (h1 : opAt os j = 1) (h2 : (txt ps j).size ≠ 0) : patAt os ps j = some (txt ps j) := by
  unfold patAt
  rw [if_pos h1, if_neg h2]
theorem pat_none {os : List Nat} {ps : List ByteArray} {j : Nat} (h : opAt os j ≠ 1 ∨ (txt ps j).size = 0) : patAt os ps j = none := by
  unfold patAt
  rcases h with h | h
  · rw [if_neg h]
  · by_cases h1 : opAt os j = 1
    · rw [if_pos h1, if_pos h]
    · rw [if_neg h1]
theorem chain_succ {ks os : List Nat} {ts ps : List ByteArray} {j op : Nat} {pat : Option ByteArray} (h1 : opAt os j = op) (h2 : patAt os ps j = pat) : chain ks os ts ps (j + 1) = .bin (chain ks os ts ps j) op pat (zzL (kAt ks (j + 1)) (txt ts (j + 1))) := by
  subst h1 h2
  rfl
set_option maxHeartbeats 8000000 in
theorem build63 (A0 A1 A2 A3 : Option Addr) (c0 c1 c2 c3 : Nat) (ks os : List Nat) (ts ps : List ByteArray) (w : World) (hK : RdAt w w.heap.size A0 (u8s ks)) (hO : RdAt w w.heap.size A1 (u8s os)) (hT : TxtRd w w.heap.size A2 ts) (hP : TxtRd w w.heap.size A3 ps)
    (hk8 : ∀ k ∈ ks, k ≤ 255) (ho8 : ∀ k ∈ os, k ≤ 255) (hts : ∀ s ∈ ts, s.size ≤ 1048576) (hps : ∀ s ∈ ps, s.size ≤ 1048576) (n : Nat) (hn1 : ks.length = n + 1) (hn : n + 1 ≤ 65536) (htn : ts.length ≤ 65536) (hpn : ps.length ≤ 65536) (hon : os.length ≤ 65536) :
    Calls Tryd.prog 41 #[.slice A0 ((n + 1 : Nat) : Nat) c0, .slice A1 os.length c1, .slice A2 ts.length c2, .slice A3 ps.length c3] w (Built63 ks os ts ps w) := by
  obtain ⟨i0, hi, hz0, hz1, hz2⟩ := info_parts infoU8
  have HK := Lib.hid hK
  have HO := Lib.hid hO
  have HT := Lib.hid hT
  have HP := Lib.hid hP
  have HK8 := Lib.hid hk8
  have HO8 := Lib.hid ho8
  have HTS := Lib.hid hts
  have HPS := Lib.hid hps
  have HN := Lib.hid hn1
  have HI := Lib.hid hi
  have HZ0 := Lib.hid hz0
  have HZ1 := Lib.hid hz1
  have HZ2 := Lib.hid hz2
  obtain ⟨g, o, rfl, hg, ck0⟩ := hK 0 _ (u8s_at (by omega))
  rw [Nat.add_zero] at ck0
  have hTX := Lib.hid (textAtZ w.heap.size A2 c2 0 0 ts w.drew rfl (hT.below (Below.refl _ _).drew) (Nat.le_refl _) (by omega) (by omega))
  have hLF := Lib.hid (leaf63 (kAt ks 0) (txt ts 0) w.drew (getD_le hk8 0) (by have := txt_le hts 0; omega))
  have hzs0 := Lib.hid (zzS_le (kAt ks 0) _ (txt_le hts 0))
  clear hK hO hT hP hk8 ho8 hts hps hn1 hi hz0 hz1 hz2
  have hne : ((n + 1 : Int) == 0) = false := by rw [beq_eq_false_iff_ne]; omega
  go_enter Tryd.func41, Tryd.ntmps41
  go_wp2_with fail
  go_region_held3 (fun W => W.cell? ⟨g, o, none⟩ = some (.int .u8 (kAt ks 0 : Nat)))
    (first | exact ck0 | exact kA.out)
    (first
      | (go_at_call 64; ((with_reducible refine (hTX.out).mono ?_); rintro eA wA ⟨rfl, rfl⟩))
      | (go_at_call 63; ((with_reducible refine (hLF.out).mono ?_); rintro e1 w1 ⟨qb, rfl, hqb, hQb, hb1⟩; have kA := Lib.hid ((hb1.cell (p := ⟨g, o, none⟩) (show g < w.drew.heap.size from hg)).trans ck0))))
  have hZ0' : ZS w qb (chain ks os ts ps 0) (.slice none 0 0) [] w1 := ⟨hQb, World.ownsRowF_nil _ _ _ _, (Below.refl _ _).drew.trans hb1⟩
  have HS0 := Lib.hid hZ0'
  clear hQb hb1 hZ0' ck0 kA hTX hLF
  go_wp2_with (at_builtin; refine Lib.wpList_append_own_stringF _ rfl _ _ 56 9 rfl w.heap.size 5 i0 Tryd.underlying56 Tryd.underlying9 HI.out HZ0.out HZ1.out HZ2.out _ _ _ rfl HS0.out.2.1 (zzS (kAt ks 0) (txt ts 0)) rfl (by unfold maxLen; (have := hzs0.out; (try show 0 + _ ≤ _); omega)) (by (have := hzs0.out; (try show 0 + _ ≤ _); omega)) HS0.out.2.2.size ?_; intro v2 w2 hown hgr _)
  have HZ1' : ZS w qb (chain ks os ts ps 0) v2 (flat ks os ts ps 0) w2 := by
    rw [flat_zero]
    exact ZS.grown HS0.out (Txw.nextS (l := []) hown) hgr
  have HZS := Lib.hid HZ1'
  clear hown hgr HZ1' HS0 hzs0
  go_wp2_with fail
  go_loopw [10, 12, 13] (fun q v i wr => RelB ks os ts ps n w q v i wr) (fun _ _ i _ => n + 2 - (intOf i).toNat)
  case atStart => exact ⟨0, qb, rfl, by go_num, by omega, HZS⟩
  case round =>
    obtain ⟨j, qb, rfl, rfl, hj, HZ⟩ := hrel
    clear HZS hqb hne
    by_cases hlt : j < n
    · obtain ⟨g', o', hA, hgr0, ck⟩ := (RdAt.mono HZ.out.2.2.size (RdAt.below HZ.out.2.2 HK.out)) (j + 1) _ (u8s_at (by rw [HN.out]; omega))
      injection hA with hA
      injection hA with hA1 hA2 _
      subst hA1 hA2
      have hTX := Lib.hid (textAtZ w.heap.size A2 c2 (j + 1) (j + 1) ts wr.drew (by push_cast; rfl) (HT.out.below HZ.out.2.2.drew) HZ.out.2.2.size (by omega) (by omega))
      have hLF := Lib.hid (leaf63 (kAt ks (j + 1)) (txt ts (j + 1)) wr.drew (getD_le HK8.out (j + 1)) (by have := txt_le HTS.out (j + 1); omega))
      have hzz := Lib.hid (zzS_le (kAt ks (j + 1)) _ (txt_le HTS.out (j + 1)))
      have hfl := Lib.hid (flat_len ks os ts ps HTS.out HPS.out j (by omega))
      have hpps := Lib.hid (txt_le HPS.out j)
      have hPX := Lib.hid fun W (hb : Below w.heap.size w W) => (textAtZ w.heap.size A3 c3 j (j : Int) ps W rfl (HP.out.below hb) hb.size (by omega) (by omega))
      have j0 : (0 : Int) ≤ (j : Int) + 1 := by omega
      have j1 : (j : Int) + 1 < (n : Int) + 1 := by omega
      have hob := opAt_bd os j
      by_cases hop : j < os.length
      · obtain ⟨go, oo, hAo, hgo, co⟩ := (RdAt.mono HZ.out.2.2.size (RdAt.below HZ.out.2.2 HO.out)) j _ (u8s_at hop)
        subst hAo
        have hoi := opAt_in hop
        obtain ⟨op, hopv⟩ : ∃ op, Hid (opAt os j = op) := ⟨_, Lib.hid rfl⟩
        rw [hopv.out] at hob hoi
        have hoc := getD_le HO8.out j
        have ht := op_tmod hoi.symm
        obtain ⟨ho1, ho2⟩ := hob
        generalize kAt os j = ok at *
        have p0 : (0 : Int) ≤ (j : Int) := by omega
        have p1 : (j : Int) < (os.length : Int) := by omega
        clear hoi hop
        by_cases h1 : op = 1
        · subst h1
          have ht0 : Int.tmod (ok : Int) 24 = 0 := by rw [ht]; rfl
          clear ht
          by_cases hpe : (txt ps j).size = 0
          · have HC := Lib.hid (chain_succ (ks := ks) (ts := ts) hopv.out (pat_none (Or.inr hpe)))
            have HF := Lib.hid (flat_op ks os ts ps j (by rw [hopv.out]; omega) (pat_none (Or.inr hpe)))
            rw [hopv.out] at HF
            have hpx : txt ps j = ⟨#[]⟩ := size_zero hpe
            rw [hpx] at hPX
            have hSP := Lib.hid fun W => (show Calls Tryd.prog 65 #[.int .i64 1] W fun e w' => e = .returned (.string (opS 1)) ∧ W = w' from spell63 1 (by omega) (by omega) W)
            clear hpx hpe
            go_wp2_with fail
            go_region_held3 (fun W => W.cell? ⟨g, o + (j + 1), none⟩ = some (.int .u8 (kAt ks (j + 1) : Nat)))
              (first | exact ck | exact kA.out)
              (first
                | (go_at_call 64; ((with_reducible refine (hTX.out).mono ?_); rintro eA wA ⟨rfl, rfl⟩))
                | (go_at_call 63; ((with_reducible refine (hLF.out).mono ?_); rintro e1 w1 ⟨q2, rfl, hq2, hQ2, hb1⟩; have kA := Lib.hid ((hb1.cell (p := ⟨g, o + (j + 1), none⟩) (show g < wr.drew.heap.size from hgr0)).trans ck))))
            have hs2 := Lib.hid (zs_bare (op := 1) HZ.out.drew hb1 hQ2 ⟨by omega, by omega⟩)
            have hbw1 := HZ.out.drew.2.2.trans (hb1.mono HZ.out.drew.2.2.size)
            clear hQ2
            go_wp2_with fail
            with_reducible refine (hPX.out _ (hbw1.alloc hbw1.size _)).mono ?_
            rintro e2 w2 ⟨rfl, rfl⟩
            go_wp2_with (first
              | (at_builtin; refine wpList_append_ownF _ rfl _ _ 56 rfl w.heap.size 5 i0 (.int .u8 0) 1 1 Tryd.underlying56 HI.out HZ0.out HZ1.out HZ2.out rfl (by decide) _ _ _ rfl (hs2.out.alloc _).2.1 _ 1 1 [.int .u8 32] rfl rfl (news1 _ _ _ _ (by simp)) (by intro u hu; simp at hu; subst hu; rfl) (by unfold maxLen; (have := hfl.out; have := hzz.out; have := opS_len 1; (try simp only [List.length_append, List.length_cons, List.length_nil, size_list] at *); (try simp only [List.length_append, List.length_cons, List.length_nil, size_list]); omega)) (by (have := hfl.out; have := hzz.out; have := opS_len 1; (try simp only [List.length_append, List.length_cons, List.length_nil, size_list] at *); (try simp only [List.length_append, List.length_cons, List.length_nil, size_list]); omega)) (hs2.out.alloc _).2.2.size ?_; intro v3 w3 hown hgr _; have hs2n := Lib.hid (ZS.grown (hs2.out.alloc _) (Txw.next (m := [32]) rfl rfl hown) hgr); clear hown hgr hs2)
              | (go_at_call 65; ((with_reducible refine (hSP.out _).mono ?_); rintro e5 w5 ⟨rfl, rfl⟩))
              | (at_builtin; refine Lib.wpList_append_own_stringF _ rfl _ _ 56 9 rfl w.heap.size 5 i0 Tryd.underlying56 Tryd.underlying9 HI.out HZ0.out HZ1.out HZ2.out _ _ _ rfl hs2n.out.2.1 (opS 1) rfl (by unfold maxLen; (have := hfl.out; have := hzz.out; have := opS_len 1; (try simp only [List.length_append, List.length_cons, List.length_nil, size_list] at *); (try simp only [List.length_append, List.length_cons, List.length_nil, size_list]); omega)) (by (have := hfl.out; have := hzz.out; have := opS_len 1; (try simp only [List.length_append, List.length_cons, List.length_nil, size_list] at *); (try simp only [List.length_append, List.length_cons, List.length_nil, size_list]); omega)) hs2n.out.2.2.size ?_; intro v4 w4 hown hgr _; have hs2nn := Lib.hid (ZS.grown hs2n.out (Txw.nextS hown) hgr); clear hown hgr hs2n)
              | (at_builtin; refine wpList_append_ownF _ rfl _ _ 56 rfl w.heap.size 5 i0 (.int .u8 0) 1 1 Tryd.underlying56 HI.out HZ0.out HZ1.out HZ2.out rfl (by decide) _ _ _ rfl (hs2nn.out.alloc _).2.1 _ 1 1 [.int .u8 32] rfl rfl (news1 _ _ _ _ (by simp)) (by intro u hu; simp at hu; subst hu; rfl) (by unfold maxLen; (have := hfl.out; have := hzz.out; have := opS_len 1; (try simp only [List.length_append, List.length_cons, List.length_nil, size_list] at *); (try simp only [List.length_append, List.length_cons, List.length_nil, size_list]); omega)) (by (have := hfl.out; have := hzz.out; have := opS_len 1; (try simp only [List.length_append, List.length_cons, List.length_nil, size_list] at *); (try simp only [List.length_append, List.length_cons, List.length_nil, size_list]); omega)) (hs2nn.out.alloc _).2.2.size ?_; intro v5 w5 hown hgr _; have hs2nnn := Lib.hid (ZS.grown (hs2nn.out.alloc _) (Txw.next (m := [32]) rfl rfl hown) hgr); clear hown hgr hs2nn)
              | (at_builtin; refine Lib.wpList_append_own_stringF _ rfl _ _ 56 9 rfl w.heap.size 5 i0 Tryd.underlying56 Tryd.underlying9 HI.out HZ0.out HZ1.out HZ2.out _ _ _ rfl hs2nnn.out.2.1 (zzS (kAt ks (j + 1)) (txt ts (j + 1))) rfl (by unfold maxLen; (have := hfl.out; have := hzz.out; have := opS_len 1; (try simp only [List.length_append, List.length_cons, List.length_nil, size_list] at *); (try simp only [List.length_append, List.length_cons, List.length_nil, size_list]); omega)) (by (have := hfl.out; have := hzz.out; have := opS_len 1; (try simp only [List.length_append, List.length_cons, List.length_nil, size_list] at *); (try simp only [List.length_append, List.length_cons, List.length_nil, size_list]); omega)) hs2nnn.out.2.2.size ?_; intro v6 w6 hown hgr _; have hs2nnnn := Lib.hid (ZS.grown hs2nnn.out (Txw.nextS hown) hgr); clear hown hgr hs2nnn))
            go_roundw
            case rel => exact relB_next (by omega) hs2nnnn.out HC.out HF.out
            case measure => simp [intOf]; omega
          · have HPn := Lib.hid hpe
            have HC := Lib.hid (chain_succ (ks := ks) (ts := ts) hopv.out (pat_some hopv.out hpe))
            have HF := Lib.hid (flat_pat ks os ts ps j hopv.out hpe)
            obtain ⟨k1, k2⟩ := size_ne hpe
            generalize txt ps j = pp at *
            clear hpe
            go_wp2_with fail
            go_region_held3 (fun W => W.cell? ⟨g, o + (j + 1), none⟩ = some (.int .u8 (kAt ks (j + 1) : Nat)))
              (first | exact ck | exact kA.out)
              (first
                | (go_at_call 64; ((with_reducible refine (hTX.out).mono ?_); rintro eA wA ⟨rfl, rfl⟩))
                | (go_at_call 63; ((with_reducible refine (hLF.out).mono ?_); rintro e1 w1 ⟨q2, rfl, hq2, hQ2, hb1⟩; have kA := Lib.hid ((hb1.cell (p := ⟨g, o + (j + 1), none⟩) (show g < wr.drew.heap.size from hgr0)).trans ck))))
            have hs2 := Lib.hid (zs_pat (op := 1) HPn.out HZ.out.drew hb1 hQ2 ⟨by omega, by omega⟩)
            have hbw1 := HZ.out.drew.2.2.trans (hb1.mono HZ.out.drew.2.2.size)
            clear hQ2
            go_wp2_with fail
            with_reducible refine (hPX.out _ (hbw1.alloc hbw1.size _)).mono ?_
            rintro e2 w2 ⟨rfl, rfl⟩
            go_wp2_with (first
              | (at_builtin; refine Lib.wpList_append_own_stringF _ rfl _ _ 56 9 rfl w.heap.size 5 i0 Tryd.underlying56 Tryd.underlying9 HI.out HZ0.out HZ1.out HZ2.out _ _ _ rfl hs2.out.2.1 ⟨#[32, 97, 115, 32]⟩ rfl (by unfold maxLen; (have := hfl.out; have := hzz.out; have := hpps.out; (try simp only [List.length_append, List.length_cons, List.length_nil, size_list] at *); (try simp only [List.length_append, List.length_cons, List.length_nil, size_list]); show _ + 4 ≤ _; omega)) (by (have := hfl.out; have := hzz.out; have := hpps.out; (try simp only [List.length_append, List.length_cons, List.length_nil, size_list] at *); (try simp only [List.length_append, List.length_cons, List.length_nil, size_list]); show _ + 4 ≤ _; omega)) hs2.out.2.2.size ?_; intro v3 w3 hown hgr _; have hs2n := Lib.hid (ZS.grown hs2.out (Txw.nextS hown) hgr); clear hown hgr hs2)
              | (at_builtin; refine Lib.wpList_append_own_stringF _ rfl _ _ 56 9 rfl w.heap.size 5 i0 Tryd.underlying56 Tryd.underlying9 HI.out HZ0.out HZ1.out HZ2.out _ _ _ rfl hs2n.out.2.1 pp rfl (by unfold maxLen; (have := hfl.out; have := hzz.out; have := hpps.out; (try simp only [List.length_append, List.length_cons, List.length_nil, size_list] at *); (try simp only [List.length_append, List.length_cons, List.length_nil, size_list]); omega)) (by (have := hfl.out; have := hzz.out; have := hpps.out; (try simp only [List.length_append, List.length_cons, List.length_nil, size_list] at *); (try simp only [List.length_append, List.length_cons, List.length_nil, size_list]); omega)) hs2n.out.2.2.size ?_; intro v4 w4 hown hgr _; have hs2nn := Lib.hid (ZS.grown hs2n.out (Txw.nextS hown) hgr); clear hown hgr hs2n)
              | (at_builtin; refine Lib.wpList_append_own_stringF _ rfl _ _ 56 9 rfl w.heap.size 5 i0 Tryd.underlying56 Tryd.underlying9 HI.out HZ0.out HZ1.out HZ2.out _ _ _ rfl hs2nn.out.2.1 ⟨#[32, 124, 32]⟩ rfl (by unfold maxLen; (have := hfl.out; have := hzz.out; have := hpps.out; (try simp only [List.length_append, List.length_cons, List.length_nil, size_list] at *); (try simp only [List.length_append, List.length_cons, List.length_nil, size_list]); show _ + 3 ≤ _; omega)) (by (have := hfl.out; have := hzz.out; have := hpps.out; (try simp only [List.length_append, List.length_cons, List.length_nil, size_list] at *); (try simp only [List.length_append, List.length_cons, List.length_nil, size_list]); show _ + 3 ≤ _; omega)) hs2nn.out.2.2.size ?_; intro v5 w5 hown hgr _; have hs2nnn := Lib.hid (ZS.grown hs2nn.out (Txw.nextS hown) hgr); clear hown hgr hs2nn)
              | (at_builtin; refine Lib.wpList_append_own_stringF _ rfl _ _ 56 9 rfl w.heap.size 5 i0 Tryd.underlying56 Tryd.underlying9 HI.out HZ0.out HZ1.out HZ2.out _ _ _ rfl hs2nnn.out.2.1 (zzS (kAt ks (j + 1)) (txt ts (j + 1))) rfl (by unfold maxLen; (have := hfl.out; have := hzz.out; have := hpps.out; (try simp only [List.length_append, List.length_cons, List.length_nil, size_list] at *); (try simp only [List.length_append, List.length_cons, List.length_nil, size_list]); omega)) (by (have := hfl.out; have := hzz.out; have := hpps.out; (try simp only [List.length_append, List.length_cons, List.length_nil, size_list] at *); (try simp only [List.length_append, List.length_cons, List.length_nil, size_list]); omega)) hs2nnn.out.2.2.size ?_; intro v6 w6 hown hgr _; have hs2nnnn := Lib.hid (ZS.grown hs2nnn.out (Txw.nextS hown) hgr); clear hown hgr hs2nnn))
            go_roundw
            case rel => exact relB_next (by omega) hs2nnnn.out HC.out HF.out
            case measure => simp [intOf]; omega
        · have hp0 := pat_none (ps := ps) (os := os) (j := j) (Or.inl (by rw [hopv.out]; exact h1))
          have HC := Lib.hid (chain_succ (ks := ks) (ts := ts) hopv.out hp0)
          by_cases h2 : op = 2
          · have HF := Lib.hid (flat_comma ks os ts ps j (by rw [hopv.out]; exact h2))
            subst h2
            have ht0 : Int.tmod (ok : Int) 24 = 1 := by rw [ht]; rfl
            clear ht hp0 h1
            go_wp2_with fail
            go_region_held3 (fun W => W.cell? ⟨g, o + (j + 1), none⟩ = some (.int .u8 (kAt ks (j + 1) : Nat)))
              (first | exact ck | exact kA.out)
              (first
                | (go_at_call 64; ((with_reducible refine (hTX.out).mono ?_); rintro eA wA ⟨rfl, rfl⟩))
                | (go_at_call 63; ((with_reducible refine (hLF.out).mono ?_); rintro e1 w1 ⟨q2, rfl, hq2, hQ2, hb1⟩; have kA := Lib.hid ((hb1.cell (p := ⟨g, o + (j + 1), none⟩) (show g < wr.drew.heap.size from hgr0)).trans ck))))
            have hs2 := Lib.hid (zs_bare (op := 2) HZ.out.drew hb1 hQ2 ⟨by omega, by omega⟩)
            have hbw1 := HZ.out.drew.2.2.trans (hb1.mono HZ.out.drew.2.2.size)
            clear hQ2
            go_wp2_with (first
              | (at_builtin; refine Lib.wpList_append_own_stringF _ rfl _ _ 56 9 rfl w.heap.size 5 i0 Tryd.underlying56 Tryd.underlying9 HI.out HZ0.out HZ1.out HZ2.out _ _ _ rfl hs2.out.2.1 ⟨#[44, 32]⟩ rfl (by unfold maxLen; (have := hfl.out; have := hzz.out; (try simp only [List.length_append, List.length_cons, List.length_nil, size_list] at *); (try simp only [List.length_append, List.length_cons, List.length_nil, size_list]); show _ + 2 ≤ _; omega)) (by (have := hfl.out; have := hzz.out; (try simp only [List.length_append, List.length_cons, List.length_nil, size_list] at *); (try simp only [List.length_append, List.length_cons, List.length_nil, size_list]); show _ + 2 ≤ _; omega)) hs2.out.2.2.size ?_; intro v3 w3 hown hgr _; have hs2n := Lib.hid (ZS.grown hs2.out (Txw.nextS hown) hgr); clear hown hgr hs2)
              | (at_builtin; refine Lib.wpList_append_own_stringF _ rfl _ _ 56 9 rfl w.heap.size 5 i0 Tryd.underlying56 Tryd.underlying9 HI.out HZ0.out HZ1.out HZ2.out _ _ _ rfl hs2n.out.2.1 (zzS (kAt ks (j + 1)) (txt ts (j + 1))) rfl (by unfold maxLen; (have := hfl.out; have := hzz.out; (try simp only [List.length_append, List.length_cons, List.length_nil, size_list] at *); (try simp only [List.length_append, List.length_cons, List.length_nil, size_list]); omega)) (by (have := hfl.out; have := hzz.out; (try simp only [List.length_append, List.length_cons, List.length_nil, size_list] at *); (try simp only [List.length_append, List.length_cons, List.length_nil, size_list]); omega)) hs2n.out.2.2.size ?_; intro v4 w4 hown hgr _; have hs2nn := Lib.hid (ZS.grown hs2n.out (Txw.nextS hown) hgr); clear hown hgr hs2n))
            go_roundw
            case rel => exact relB_next (by omega) hs2nn.out HC.out HF.out
            case measure => simp [intOf]; omega
          · have HF := Lib.hid (flat_op ks os ts ps j (by rw [hopv.out]; exact h2) hp0)
            rw [hopv.out] at HF
            have c1 : ((op : Int) == 1) = false := by rw [beq_eq_false_iff_ne]; omega
            have c2' : ((op : Int) == 2) = false := by rw [beq_eq_false_iff_ne]; omega
            have hSP := Lib.hid fun W => spell63 op ho1 ho2 W
            clear hp0 h1 h2
            go_wp2_with fail
            go_region_held3 (fun W => W.cell? ⟨g, o + (j + 1), none⟩ = some (.int .u8 (kAt ks (j + 1) : Nat)))
              (first | exact ck | exact kA.out)
              (first
                | (go_at_call 64; ((with_reducible refine (hTX.out).mono ?_); rintro eA wA ⟨rfl, rfl⟩))
                | (go_at_call 63; ((with_reducible refine (hLF.out).mono ?_); rintro e1 w1 ⟨q2, rfl, hq2, hQ2, hb1⟩; have kA := Lib.hid ((hb1.cell (p := ⟨g, o + (j + 1), none⟩) (show g < wr.drew.heap.size from hgr0)).trans ck))))
            have hs2 := Lib.hid (zs_bare (op := op) HZ.out.drew hb1 hQ2 ⟨by omega, by omega⟩)
            have hbw1 := HZ.out.drew.2.2.trans (hb1.mono HZ.out.drew.2.2.size)
            clear hQ2
            go_wp2_with (first
              | (at_builtin; refine wpList_append_ownF _ rfl _ _ 56 rfl w.heap.size 5 i0 (.int .u8 0) 1 1 Tryd.underlying56 HI.out HZ0.out HZ1.out HZ2.out rfl (by decide) _ _ _ rfl (hs2.out.alloc _).2.1 _ 1 1 [.int .u8 32] rfl rfl (news1 _ _ _ _ (by simp)) (by intro u hu; simp at hu; subst hu; rfl) (by unfold maxLen; (have := hfl.out; have := hzz.out; have := opS_len op; (try simp only [List.length_append, List.length_cons, List.length_nil, size_list] at *); (try simp only [List.length_append, List.length_cons, List.length_nil, size_list]); omega)) (by (have := hfl.out; have := hzz.out; have := opS_len op; (try simp only [List.length_append, List.length_cons, List.length_nil, size_list] at *); (try simp only [List.length_append, List.length_cons, List.length_nil, size_list]); omega)) (hs2.out.alloc _).2.2.size ?_; intro v3 w3 hown hgr _; have hs2n := Lib.hid (ZS.grown (hs2.out.alloc _) (Txw.next (m := [32]) rfl rfl hown) hgr); clear hown hgr hs2)
              | (go_at_call 65; ((with_reducible refine (hSP.out _).mono ?_); rintro e5 w5 ⟨rfl, rfl⟩))
              | (at_builtin; refine Lib.wpList_append_own_stringF _ rfl _ _ 56 9 rfl w.heap.size 5 i0 Tryd.underlying56 Tryd.underlying9 HI.out HZ0.out HZ1.out HZ2.out _ _ _ rfl hs2n.out.2.1 (opS op) rfl (by unfold maxLen; (have := hfl.out; have := hzz.out; have := opS_len op; (try simp only [List.length_append, List.length_cons, List.length_nil, size_list] at *); (try simp only [List.length_append, List.length_cons, List.length_nil, size_list]); omega)) (by (have := hfl.out; have := hzz.out; have := opS_len op; (try simp only [List.length_append, List.length_cons, List.length_nil, size_list] at *); (try simp only [List.length_append, List.length_cons, List.length_nil, size_list]); omega)) hs2n.out.2.2.size ?_; intro v4 w4 hown hgr _; have hs2nn := Lib.hid (ZS.grown hs2n.out (Txw.nextS hown) hgr); clear hown hgr hs2n)
              | (at_builtin; refine wpList_append_ownF _ rfl _ _ 56 rfl w.heap.size 5 i0 (.int .u8 0) 1 1 Tryd.underlying56 HI.out HZ0.out HZ1.out HZ2.out rfl (by decide) _ _ _ rfl (hs2nn.out.alloc _).2.1 _ 1 1 [.int .u8 32] rfl rfl (news1 _ _ _ _ (by simp)) (by intro u hu; simp at hu; subst hu; rfl) (by unfold maxLen; (have := hfl.out; have := hzz.out; have := opS_len op; (try simp only [List.length_append, List.length_cons, List.length_nil, size_list] at *); (try simp only [List.length_append, List.length_cons, List.length_nil, size_list]); omega)) (by (have := hfl.out; have := hzz.out; have := opS_len op; (try simp only [List.length_append, List.length_cons, List.length_nil, size_list] at *); (try simp only [List.length_append, List.length_cons, List.length_nil, size_list]); omega)) (hs2nn.out.alloc _).2.2.size ?_; intro v5 w5 hown hgr _; have hs2nnn := Lib.hid (ZS.grown (hs2nn.out.alloc _) (Txw.next (m := [32]) rfl rfl hown) hgr); clear hown hgr hs2nn)
              | (at_builtin; refine Lib.wpList_append_own_stringF _ rfl _ _ 56 9 rfl w.heap.size 5 i0 Tryd.underlying56 Tryd.underlying9 HI.out HZ0.out HZ1.out HZ2.out _ _ _ rfl hs2nnn.out.2.1 (zzS (kAt ks (j + 1)) (txt ts (j + 1))) rfl (by unfold maxLen; (have := hfl.out; have := hzz.out; have := opS_len op; (try simp only [List.length_append, List.length_cons, List.length_nil, size_list] at *); (try simp only [List.length_append, List.length_cons, List.length_nil, size_list]); omega)) (by (have := hfl.out; have := hzz.out; have := opS_len op; (try simp only [List.length_append, List.length_cons, List.length_nil, size_list] at *); (try simp only [List.length_append, List.length_cons, List.length_nil, size_list]); omega)) hs2nnn.out.2.2.size ?_; intro v6 w6 hown hgr _; have hs2nnnn := Lib.hid (ZS.grown hs2nnn.out (Txw.nextS hown) hgr); clear hown hgr hs2nnn))
            go_roundw
            case rel => exact relB_next (by omega) hs2nnnn.out HC.out HF.out
            case measure => simp [intOf]; omega
      · have hopv := Lib.hid (opAt_out hop)
        clear hob
        have p1 : ¬ (j : Int) < (os.length : Int) := by omega
        by_cases hpe : (txt ps j).size = 0
        · have HC := Lib.hid (chain_succ (ks := ks) (ts := ts) hopv.out (pat_none (Or.inr hpe)))
          have HF := Lib.hid (flat_op ks os ts ps j (by rw [hopv.out]; omega) (pat_none (Or.inr hpe)))
          rw [hopv.out] at HF
          have hpx : txt ps j = ⟨#[]⟩ := size_zero hpe
          rw [hpx] at hPX
          have hSP := Lib.hid fun W => (show Calls Tryd.prog 65 #[.int .i64 1] W fun e w' => e = .returned (.string (opS 1)) ∧ W = w' from spell63 1 (by omega) (by omega) W)
          clear hpx hpe
          go_wp2_with fail
          go_region_held3 (fun W => W.cell? ⟨g, o + (j + 1), none⟩ = some (.int .u8 (kAt ks (j + 1) : Nat)))
            (first | exact ck | exact kA.out)
            (first
              | (go_at_call 64; ((with_reducible refine (hTX.out).mono ?_); rintro eA wA ⟨rfl, rfl⟩))
              | (go_at_call 63; ((with_reducible refine (hLF.out).mono ?_); rintro e1 w1 ⟨q2, rfl, hq2, hQ2, hb1⟩; have kA := Lib.hid ((hb1.cell (p := ⟨g, o + (j + 1), none⟩) (show g < wr.drew.heap.size from hgr0)).trans ck))))
          have hs2 := Lib.hid (zs_bare (op := 1) HZ.out.drew hb1 hQ2 ⟨by omega, by omega⟩)
          have hbw1 := HZ.out.drew.2.2.trans (hb1.mono HZ.out.drew.2.2.size)
          clear hQ2
          go_wp2_with fail
          with_reducible refine (hPX.out _ (hbw1.alloc hbw1.size _)).mono ?_
          rintro e2 w2 ⟨rfl, rfl⟩
          go_wp2_with (first
            | (at_builtin; refine wpList_append_ownF _ rfl _ _ 56 rfl w.heap.size 5 i0 (.int .u8 0) 1 1 Tryd.underlying56 HI.out HZ0.out HZ1.out HZ2.out rfl (by decide) _ _ _ rfl (hs2.out.alloc _).2.1 _ 1 1 [.int .u8 32] rfl rfl (news1 _ _ _ _ (by simp)) (by intro u hu; simp at hu; subst hu; rfl) (by unfold maxLen; (have := hfl.out; have := hzz.out; have := opS_len 1; (try simp only [List.length_append, List.length_cons, List.length_nil, size_list] at *); (try simp only [List.length_append, List.length_cons, List.length_nil, size_list]); omega)) (by (have := hfl.out; have := hzz.out; have := opS_len 1; (try simp only [List.length_append, List.length_cons, List.length_nil, size_list] at *); (try simp only [List.length_append, List.length_cons, List.length_nil, size_list]); omega)) (hs2.out.alloc _).2.2.size ?_; intro v3 w3 hown hgr _; have hs2n := Lib.hid (ZS.grown (hs2.out.alloc _) (Txw.next (m := [32]) rfl rfl hown) hgr); clear hown hgr hs2)
            | (go_at_call 65; ((with_reducible refine (hSP.out _).mono ?_); rintro e5 w5 ⟨rfl, rfl⟩))
            | (at_builtin; refine Lib.wpList_append_own_stringF _ rfl _ _ 56 9 rfl w.heap.size 5 i0 Tryd.underlying56 Tryd.underlying9 HI.out HZ0.out HZ1.out HZ2.out _ _ _ rfl hs2n.out.2.1 (opS 1) rfl (by unfold maxLen; (have := hfl.out; have := hzz.out; have := opS_len 1; (try simp only [List.length_append, List.length_cons, List.length_nil, size_list] at *); (try simp only [List.length_append, List.length_cons, List.length_nil, size_list]); omega)) (by (have := hfl.out; have := hzz.out; have := opS_len 1; (try simp only [List.length_append, List.length_cons, List.length_nil, size_list] at *); (try simp only [List.length_append, List.length_cons, List.length_nil, size_list]); omega)) hs2n.out.2.2.size ?_; intro v4 w4 hown hgr _; have hs2nn := Lib.hid (ZS.grown hs2n.out (Txw.nextS hown) hgr); clear hown hgr hs2n)
            | (at_builtin; refine wpList_append_ownF _ rfl _ _ 56 rfl w.heap.size 5 i0 (.int .u8 0) 1 1 Tryd.underlying56 HI.out HZ0.out HZ1.out HZ2.out rfl (by decide) _ _ _ rfl (hs2nn.out.alloc _).2.1 _ 1 1 [.int .u8 32] rfl rfl (news1 _ _ _ _ (by simp)) (by intro u hu; simp at hu; subst hu; rfl) (by unfold maxLen; (have := hfl.out; have := hzz.out; have := opS_len 1; (try simp only [List.length_append, List.length_cons, List.length_nil, size_list] at *); (try simp only [List.length_append, List.length_cons, List.length_nil, size_list]); omega)) (by (have := hfl.out; have := hzz.out; have := opS_len 1; (try simp only [List.length_append, List.length_cons, List.length_nil, size_list] at *); (try simp only [List.length_append, List.length_cons, List.length_nil, size_list]); omega)) (hs2nn.out.alloc _).2.2.size ?_; intro v5 w5 hown hgr _; have hs2nnn := Lib.hid (ZS.grown (hs2nn.out.alloc _) (Txw.next (m := [32]) rfl rfl hown) hgr); clear hown hgr hs2nn)
            | (at_builtin; refine Lib.wpList_append_own_stringF _ rfl _ _ 56 9 rfl w.heap.size 5 i0 Tryd.underlying56 Tryd.underlying9 HI.out HZ0.out HZ1.out HZ2.out _ _ _ rfl hs2nnn.out.2.1 (zzS (kAt ks (j + 1)) (txt ts (j + 1))) rfl (by unfold maxLen; (have := hfl.out; have := hzz.out; have := opS_len 1; (try simp only [List.length_append, List.length_cons, List.length_nil, size_list] at *); (try simp only [List.length_append, List.length_cons, List.length_nil, size_list]); omega)) (by (have := hfl.out; have := hzz.out; have := opS_len 1; (try simp only [List.length_append, List.length_cons, List.length_nil, size_list] at *); (try simp only [List.length_append, List.length_cons, List.length_nil, size_list]); omega)) hs2nnn.out.2.2.size ?_; intro v6 w6 hown hgr _; have hs2nnnn := Lib.hid (ZS.grown hs2nnn.out (Txw.nextS hown) hgr); clear hown hgr hs2nnn))
          go_roundw
          case rel => exact relB_next (by omega) hs2nnnn.out HC.out HF.out
          case measure => simp [intOf]; omega
        · have HPn := Lib.hid hpe
          have HC := Lib.hid (chain_succ (ks := ks) (ts := ts) hopv.out (pat_some hopv.out hpe))
          have HF := Lib.hid (flat_pat ks os ts ps j hopv.out hpe)
          obtain ⟨k1, k2⟩ := size_ne hpe
          generalize txt ps j = pp at *
          clear hpe
          go_wp2_with fail
          go_region_held3 (fun W => W.cell? ⟨g, o + (j + 1), none⟩ = some (.int .u8 (kAt ks (j + 1) : Nat)))
            (first | exact ck | exact kA.out)
            (first
              | (go_at_call 64; ((with_reducible refine (hTX.out).mono ?_); rintro eA wA ⟨rfl, rfl⟩))
              | (go_at_call 63; ((with_reducible refine (hLF.out).mono ?_); rintro e1 w1 ⟨q2, rfl, hq2, hQ2, hb1⟩; have kA := Lib.hid ((hb1.cell (p := ⟨g, o + (j + 1), none⟩) (show g < wr.drew.heap.size from hgr0)).trans ck))))
          have hs2 := Lib.hid (zs_pat (op := 1) HPn.out HZ.out.drew hb1 hQ2 ⟨by omega, by omega⟩)
          have hbw1 := HZ.out.drew.2.2.trans (hb1.mono HZ.out.drew.2.2.size)
          clear hQ2
          go_wp2_with fail
          with_reducible refine (hPX.out _ (hbw1.alloc hbw1.size _)).mono ?_
          rintro e2 w2 ⟨rfl, rfl⟩
          go_wp2_with (first
            | (at_builtin; refine Lib.wpList_append_own_stringF _ rfl _ _ 56 9 rfl w.heap.size 5 i0 Tryd.underlying56 Tryd.underlying9 HI.out HZ0.out HZ1.out HZ2.out _ _ _ rfl hs2.out.2.1 ⟨#[32, 97, 115, 32]⟩ rfl (by unfold maxLen; (have := hfl.out; have := hzz.out; have := hpps.out; (try simp only [List.length_append, List.length_cons, List.length_nil, size_list] at *); (try simp only [List.length_append, List.length_cons, List.length_nil, size_list]); show _ + 4 ≤ _; omega)) (by (have := hfl.out; have := hzz.out; have := hpps.out; (try simp only [List.length_append, List.length_cons, List.length_nil, size_list] at *); (try simp only [List.length_append, List.length_cons, List.length_nil, size_list]); show _ + 4 ≤ _; omega)) hs2.out.2.2.size ?_; intro v3 w3 hown hgr _; have hs2n := Lib.hid (ZS.grown hs2.out (Txw.nextS hown) hgr); clear hown hgr hs2)
            | (at_builtin; refine Lib.wpList_append_own_stringF _ rfl _ _ 56 9 rfl w.heap.size 5 i0 Tryd.underlying56 Tryd.underlying9 HI.out HZ0.out HZ1.out HZ2.out _ _ _ rfl hs2n.out.2.1 pp rfl (by unfold maxLen; (have := hfl.out; have := hzz.out; have := hpps.out; (try simp only [List.length_append, List.length_cons, List.length_nil, size_list] at *); (try simp only [List.length_append, List.length_cons, List.length_nil, size_list]); omega)) (by (have := hfl.out; have := hzz.out; have := hpps.out; (try simp only [List.length_append, List.length_cons, List.length_nil, size_list] at *); (try simp only [List.length_append, List.length_cons, List.length_nil, size_list]); omega)) hs2n.out.2.2.size ?_; intro v4 w4 hown hgr _; have hs2nn := Lib.hid (ZS.grown hs2n.out (Txw.nextS hown) hgr); clear hown hgr hs2n)
            | (at_builtin; refine Lib.wpList_append_own_stringF _ rfl _ _ 56 9 rfl w.heap.size 5 i0 Tryd.underlying56 Tryd.underlying9 HI.out HZ0.out HZ1.out HZ2.out _ _ _ rfl hs2nn.out.2.1 ⟨#[32, 124, 32]⟩ rfl (by unfold maxLen; (have := hfl.out; have := hzz.out; have := hpps.out; (try simp only [List.length_append, List.length_cons, List.length_nil, size_list] at *); (try simp only [List.length_append, List.length_cons, List.length_nil, size_list]); show _ + 3 ≤ _; omega)) (by (have := hfl.out; have := hzz.out; have := hpps.out; (try simp only [List.length_append, List.length_cons, List.length_nil, size_list] at *); (try simp only [List.length_append, List.length_cons, List.length_nil, size_list]); show _ + 3 ≤ _; omega)) hs2nn.out.2.2.size ?_; intro v5 w5 hown hgr _; have hs2nnn := Lib.hid (ZS.grown hs2nn.out (Txw.nextS hown) hgr); clear hown hgr hs2nn)
            | (at_builtin; refine Lib.wpList_append_own_stringF _ rfl _ _ 56 9 rfl w.heap.size 5 i0 Tryd.underlying56 Tryd.underlying9 HI.out HZ0.out HZ1.out HZ2.out _ _ _ rfl hs2nnn.out.2.1 (zzS (kAt ks (j + 1)) (txt ts (j + 1))) rfl (by unfold maxLen; (have := hfl.out; have := hzz.out; have := hpps.out; (try simp only [List.length_append, List.length_cons, List.length_nil, size_list] at *); (try simp only [List.length_append, List.length_cons, List.length_nil, size_list]); omega)) (by (have := hfl.out; have := hzz.out; have := hpps.out; (try simp only [List.length_append, List.length_cons, List.length_nil, size_list] at *); (try simp only [List.length_append, List.length_cons, List.length_nil, size_list]); omega)) hs2nnn.out.2.2.size ?_; intro v6 w6 hown hgr _; have hs2nnnn := Lib.hid (ZS.grown hs2nnn.out (Txw.nextS hown) hgr); clear hown hgr hs2nnn))
          go_roundw
          case rel => exact relB_next (by omega) hs2nnnn.out HC.out HF.out
          case measure => simp [intOf]; omega
    · obtain rfl : j = n := by omega
      have HZc := Lib.hid (chainQ_pos ks os ts ps j HN.out)
      go_wp2_with fail
      go_ret2
      refine ⟨qb, _, rfl, ?_⟩
      rw [HZc.out]
      exact HZ.out
end Go.Proofs.YtooalmhelfaodaaDoor
