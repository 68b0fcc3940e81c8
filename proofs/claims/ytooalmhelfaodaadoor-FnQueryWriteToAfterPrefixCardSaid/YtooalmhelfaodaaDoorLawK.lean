/- The walk of FnQueryWriteToFlatModel: true at every chain. -/
import Derived.Test.YtooalmhelfaodaaDoorZzf
import Derived.Test.YtooalmhelfaodaaDoorZzd
import Derived.Test.YtooalmhelfaodaaDoorOpenD
import Derived.Lib.BufferRead
import Derived.Laws.IdiomStrings
namespace Go.Proofs.YtooalmhelfaodaaDoor
open Go.RowKit
set_option maxRecDepth 100000
set_option linter.unusedVariables false
theorem txtRd_of {w : World} {B : Nat} {A : Option Addr} {ts : List ByteArray} (h : RdAt w B A (ts.map Value.string)) : TxtRd w B A ts := fun i s hs => h i _ (by rw [List.getElem?_map, hs]; rfl)
theorem RdAt.up {w w' : World} {A : Option Addr} {xs : List Value} (h : RdAt w w.heap.size A xs) (hb : Below w.heap.size w w') : RdAt w' w'.heap.size A xs := (RdAt.below hb h).mono hb.size
theorem u8s_len (ks : List Nat) : (u8s ks).length = ks.length := by simp [u8s]
theorem cloneU8s_any (A : Option Addr) (c : Nat) (ks : List Nat) (w : World) (hA : A = none → c = 0 ∧ ks = []) (hx : RdAt w w.heap.size A (u8s ks)) (hn : ks.length ≤ 65536) :
    Calls Tryd.prog 39 #[.slice A ks.length c] w fun e w' => ∃ A' c', e = .returned (.slice A' ks.length c') ∧ RdAt w' w'.heap.size A' (u8s ks) ∧ Below w.heap.size w w' := by
  cases A with
  | none =>
    obtain ⟨rfl, rfl⟩ := hA rfl
    exact (cloneU8s_nil w).mono fun e w' ⟨A', c', h1, h2, h3⟩ => ⟨A', c', h1, h2, h3⟩
  | some a =>
    have h := cloneU8s_some a c (u8s ks) w hx (fun x hx => by unfold u8s at hx; obtain ⟨k, _, rfl⟩ := List.mem_map.1 hx; exact ⟨_, rfl⟩) (by rw [u8s_len]; omega)
    rw [u8s_len] at h
    exact h.mono fun e w' ⟨A', c', h1, h2, h3⟩ => ⟨A', c', by rw [h1, u8s_len], h2, h3⟩
theorem cloneStrs_any (A : Option Addr) (c : Nat) (ts : List ByteArray) (w : World) (hA : A = none → c = 0 ∧ ts = []) (hx : RdAt w w.heap.size A (ts.map Value.string)) (hn : ts.length ≤ 65536) :
    Calls Tryd.prog 40 #[.slice A ts.length c] w fun e w' => ∃ A' c', e = .returned (.slice A' ts.length c') ∧ RdAt w' w'.heap.size A' (ts.map Value.string) ∧ Below w.heap.size w w' := by
  cases A with
  | none =>
    obtain ⟨rfl, rfl⟩ := hA rfl
    exact (cloneStrs_nil w).mono fun e w' ⟨A', c', h1, h2, h3⟩ => ⟨A', c', h1, h2, h3⟩
  | some a =>
    have h := cloneStrs_some a c (ts.map Value.string) w hx (fun x hx => by obtain ⟨k, _, rfl⟩ := List.mem_map.1 hx; exact ⟨_, rfl⟩) (by rw [List.length_map]; omega)
    rw [List.length_map] at h
    exact h.mono fun e w' ⟨A', c', h1, h2, h3⟩ => ⟨A', c', by rw [h1, List.length_map], h2, h3⟩
theorem build63_any (A0 A1 A2 A3 : Option Addr) (c0 c1 c2 c3 : Nat) (ks os : List Nat) (ts ps : List ByteArray) (w : World) (hK : RdAt w w.heap.size A0 (u8s ks)) (hO : RdAt w w.heap.size A1 (u8s os)) (hT : RdAt w w.heap.size A2 (ts.map Value.string)) (hP : RdAt w w.heap.size A3 (ps.map Value.string))
    (hk8 : ∀ k ∈ ks, k ≤ 255) (ho8 : ∀ k ∈ os, k ≤ 255) (hts : ∀ s ∈ ts, s.size ≤ 1048576) (hps : ∀ s ∈ ps, s.size ≤ 1048576) (hn : ks.length ≤ 65536) (htn : ts.length ≤ 65536) (hpn : ps.length ≤ 65536) (hon : os.length ≤ 65536) :
    Calls Tryd.prog 41 #[.slice A0 ks.length c0, .slice A1 os.length c1, .slice A2 ts.length c2, .slice A3 ps.length c3] w (Built63 ks os ts ps w) := by
  cases h : ks.length with
  | zero =>
    obtain rfl : ks = [] := List.eq_nil_of_length_eq_zero h
    exact build63_nil A0 A1 A2 A3 c0 c1 c2 c3 os ts ps w
  | succ n => exact build63 A0 A1 A2 A3 c0 c1 c2 c3 ks os ts ps w hK hO (txtRd_of hT) (txtRd_of hP) hk8 ho8 hts hps n h (by omega) htn hpn hon
theorem chainQ_wt (ks os : List Nat) (ts ps : List ByteArray) (hts : ∀ s ∈ ts, s.size ≤ 1048576) (hps : ∀ s ∈ ps, s.size ≤ 1048576) (hn : ks.length ≤ 65536) : (chainQ ks os ts ps).wt ≤ 137451000000 := by
  unfold chainQ
  split
  · show 0 ≤ _; omega
  · have := chain_wt ks os ts ps hts hps (ks.length - 1)
    omega
theorem Txw.str {B : Nat} {v : Value} {l : List UInt8} {w : World} (h : Txw B v l w) : (convert 56 9 v).run Tryd.prog w = .ok (.string ⟨l.toArray⟩) w := by
  have h' := h
  rcases h.2 with ⟨hv, hn⟩ | ⟨g, cap, cur, fz, hv, hB, hg, rest⟩
  · have hl : l = [] := List.eq_nil_of_length_eq_zero hn
    subst hv hl
    exact Lib.run_convert_nil_bytes w _ _ _ _ Tryd.underlying56 Tryd.underlying5 Tryd.underlying9
  · subst hv
    refine run_convert_bytes_back w _ _ _ ⟨g, 0, none⟩ cap l Tryd.underlying56 Tryd.underlying5 Tryd.underlying9 fun j hj => ?_
    exact World.ownsRowF.cells h' (g := g) rfl j _ (by unfold Lib.byteCells; rw [List.getElem?_map, List.getElem?_eq_getElem hj]; rfl)
theorem RdIn.nilU {w : World} {A : Option Addr} {c : Nat} {ks : List Nat} (h : RdIn w A c (u8s ks)) : A = none → c = 0 ∧ ks = [] := fun hA => ⟨(h.1 hA).1, by have := (h.1 hA).2; unfold u8s at this; simpa using this⟩
theorem RdIn.nilS {w : World} {A : Option Addr} {c : Nat} {ts : List ByteArray} (h : RdIn w A c (ts.map Value.string)) : A = none → c = 0 ∧ ts = [] := fun hA => ⟨(h.1 hA).1, by simpa using (h.1 hA).2⟩
set_option maxHeartbeats 8000000 in
theorem law_flat (A0 A1 A2 A3 : Option Addr) (c0 c1 c2 c3 : Nat) (ks os : List Nat) (ts ps : List ByteArray) (w : World) (h0 : RdIn w A0 c0 (u8s ks)) (h1 : RdIn w A1 c1 (u8s os)) (h2 : RdIn w A2 c2 (ts.map Value.string)) (h3 : RdIn w A3 c3 (ps.map Value.string))
    (hk8 : ∀ k ∈ ks, k ≤ 255) (ho8 : ∀ k ∈ os, k ≤ 255) :
    Calls Tryd.prog 9 #[.slice A0 ks.length c0, .slice A1 os.length c1, .slice A2 ts.length c2, .slice A3 ps.length c3] w fun e w' => e = .returned (.bool true) ∧ Below w.heap.size w w' := by
  have hz := Lib.hid (zzb63 w.heap.size A0 A1 A2 A3 ks.length os.length c0 c1 c2 c3 ts ps w (txtRd_of h2.2.1) (txtRd_of h3.2.1) (Nat.le_refl _))
  have H0 := Lib.hid h0
  have H1 := Lib.hid h1
  have H2 := Lib.hid h2
  have H3 := Lib.hid h3
  have HK8 := Lib.hid hk8
  have HO8 := Lib.hid ho8
  clear h0 h1 h2 h3 hk8 ho8
  go_enter Tryd.func9, Tryd.ntmps9
  go_wp2_with fail
  with_reducible refine (hz.out).mono ?_
  rintro e1 w1 ⟨b, rfl, rfl, hsz⟩
  cases b with
  | false =>
    go_wp2_with fail
    go_ret
    exact ⟨rfl, Below.refl _ _⟩
  | true =>
    obtain ⟨hts, hps⟩ := hsz rfl
    have HTS := Lib.hid hts
    have HPS := Lib.hid hps
    clear hts hps hsz hz
    by_cases n0 : ks.length ≤ 65536
    · by_cases n1 : os.length ≤ 65536
      · by_cases n2 : ts.length ≤ 65536
        · by_cases n3 : ps.length ≤ 65536
          · have s2 := Lib.hid (strsBytes63 w.heap.size A2 c2 ts w (txtRd_of H2.out.2.1) (Nat.le_refl _) n2 (fun s hs => by have := HTS.out s hs; omega))
            have s3 := Lib.hid (strsBytes63 w.heap.size A3 c3 ps w (txtRd_of H3.out.2.1) (Nat.le_refl _) n3 (fun s hs => by have := HPS.out s hs; omega))
            go_wp2_with fail
            with_reducible refine (s2.out).mono ?_
            rintro e2 w2 ⟨m2, rfl, rfl, _, b2⟩
            go_wp2_with fail
            with_reducible refine (s3.out).mono ?_
            rintro e3 w3 ⟨m3, rfl, rfl, _, b3⟩
            by_cases hsum : ks.length + os.length + m2 + m3 ≤ 1048576
            · have hd : ¬ (1048576 : Int) < (ks.length : Int) + (os.length : Int) + (m2 : Int) + (m3 : Int) := by omega
              have k0 := Lib.hid (cloneU8s_any A0 c0 ks w H0.out.nilU H0.out.2.1 n0)
              clear s2 s3
              go_wp2_with fail
              with_reducible refine (k0.out).mono ?_
              rintro e4 w4 ⟨B0, d0, rfl, r0, bb4⟩
              have k1 := Lib.hid (cloneU8s_any A1 c1 os w4 H1.out.nilU (H1.out.2.1.up bb4) n1)
              have R0 := Lib.hid r0
              clear r0 k0
              go_wp2_with fail
              with_reducible refine (k1.out).mono ?_
              rintro e5 w5 ⟨B1, d1, rfl, r1, bb5'⟩
              have bb5 := bb4.trans (bb5'.mono bb4.size)
              have k2 := Lib.hid (cloneStrs_any A2 c2 ts w5 H2.out.nilS (H2.out.2.1.up bb5) n2)
              have R0' := Lib.hid (R0.out.up bb5')
              have R1 := Lib.hid r1
              clear r1 k1 R0
              go_wp2_with fail
              with_reducible refine (k2.out).mono ?_
              rintro e6 w6 ⟨B2, d2, rfl, r2, bb6'⟩
              have bb6 := bb5.trans (bb6'.mono bb5.size)
              have k3 := Lib.hid (cloneStrs_any A3 c3 ps w6 H3.out.nilS (H3.out.2.1.up bb6) n3)
              have R0 := Lib.hid (R0'.out.up bb6')
              have R1' := Lib.hid (R1.out.up bb6')
              have R2 := Lib.hid r2
              clear r2 k2 R1 R0'
              go_wp2_with fail
              with_reducible refine (k3.out).mono ?_
              rintro e7 w7 ⟨B3, d3, rfl, r3, bb7'⟩
              have bb7 := bb6.trans (bb7'.mono bb6.size)
              have kb := Lib.hid (build63_any B0 B1 B2 B3 d0 d1 d2 d3 ks os ts ps w7 (R0.out.up bb7') (R1'.out.up bb7') (R2.out.up bb7') r3 HK8.out HO8.out HTS.out HPS.out n0 n2 n3 n1)
              have hwt := chainQ_wt ks os ts ps HTS.out HPS.out n0
              clear r3 k3 R0 R1' R2
              go_wp2_with fail
              with_reducible refine (kb.out).mono ?_
              rintro e8 w8 ⟨q, v, rfl, hQ, hX, bb8'⟩
              have bb8 := bb7.trans (bb8'.mono bb7.size)
              generalize chainQ ks os ts ps = T at *
              obtain ⟨S, hS, ha⟩ : ∃ S : ByteArray, Hid (S = ⟨(outQ T []).toArray⟩) ∧ Hid (Calls Tryd.prog 42 #[.string ⟨#[]⟩, .pointer (some ⟨q, 0, none⟩)] w8 fun r w' => r = .returned (.string S) ∧ Below w8.heap.size w8 w') :=
                ⟨_, Lib.hid rfl, Lib.hid (afterQ q T ⟨#[]⟩ w8 hQ (by show 0 + _ + 12 ≤ _; omega))⟩
              have HX := Lib.hid hX
              clear hX hQ kb
              go_wp2_with fail
              with_reducible refine (ha.out).mono ?_
              rintro e9 w9 ⟨rfl, bb9'⟩
              have bb9 := bb8.trans (bb9'.mono bb8.size)
              have hcv := (HX.out.below bb9').str
              rw [← hS.out] at hcv
              clear ha HX
              go_wp2_with fail
              go_ret
              exact ⟨by simp, bb9⟩
            · have hd : (1048576 : Int) < (ks.length : Int) + (os.length : Int) + (m2 : Int) + (m3 : Int) := by omega
              go_wp2_with fail
              go_ret
              exact ⟨rfl, Below.refl _ _⟩
          · go_wp2_with fail
            go_ret
            exact ⟨rfl, Below.refl _ _⟩
        · go_wp2_with fail
          go_ret
          exact ⟨rfl, Below.refl _ _⟩
      · go_wp2_with fail
        go_ret
        exact ⟨rfl, Below.refl _ _⟩
    · go_wp2_with fail
      go_ret
      exact ⟨rfl, Below.refl _ _⟩
end Go.Proofs.YtooalmhelfaodaaDoor
