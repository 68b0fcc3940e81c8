/- The walk of FnNewScopeDepthForgetsInnerNames: true at every list of operations. -/
import Derived.Test.YtbkakiipaehleaaFc
namespace Go.Proofs.Ytbkakiipaehleaa
open Go.RowKit
set_option maxRecDepth 100000
set_option linter.unusedVariables false
def u8s (ks : List Nat) : List Value := ks.map fun k : Nat => Value.int .u8 (k : Int)
theorem u8s_len (ks : List Nat) : (u8s ks).length = ks.length := by simp [u8s]
theorem u8s_at (ks : List Nat) (j : Nat) (h : j < ks.length) : (u8s ks)[j]? = some (.int .u8 (ks[j] : Int)) := by simp [u8s, h]
def Vz : Vr := ⟨nmZ, 1, 0, 0⟩
/-- the names of the first j operations are there, behind the outer one -/
def Inn (ks : List Nat) (j : Nat) (vs : List Vr) : Prop := (∃ t, vs = Vz :: t) ∧ ∀ i, i < j → ∀ (h : i < ks.length), ∃ v ∈ vs, v.name = nmB (ks[i] % 16)
theorem Inn.next {ks : List Nat} {j : Nat} {vs vs' : List Vr} {n n' d : Int} {a b : Int} (h : Inn ks j vs) (hj : j < ks.length) (hc : (n' = n ∧ vs' = vs ∧ ∃ v ∈ vs, v.name = nmB (ks[j] % 16)) ∨ (n' = n + 1 ∧ vs' = vs ++ [⟨nmB (ks[j] % 16), 1, n, d⟩] ∧ a = 1 ∧ b = n)) :
    Inn ks (j + 1) vs' ∧ vs'.length ≤ vs.length + 1 ∧ n ≤ n' ∧ n' ≤ n + 1 := by
  obtain ⟨⟨t, rfl⟩, h2⟩ := h
  rcases hc with ⟨rfl, rfl, v, hv, hx⟩ | ⟨rfl, rfl, _, _⟩
  · refine ⟨⟨⟨t, rfl⟩, fun i hi hl => ?_⟩, by omega, by omega, by omega⟩
    by_cases hij : i = j
    · subst hij; exact ⟨v, hv, hx⟩
    · exact h2 i (by omega) hl
  · refine ⟨⟨⟨t ++ [⟨nmB (ks[j] % 16), 1, n, d⟩], rfl⟩, fun i hi hl => ?_⟩, by simp, by omega, by omega⟩
    by_cases hij : i = j
    · subst hij; exact ⟨_, List.mem_append_right _ (List.mem_singleton.2 rfl), rfl⟩
    · obtain ⟨v, hv, hx⟩ := h2 i (by omega) hl
      exact ⟨v, List.mem_append_left _ hv, hx⟩
theorem Held.kept {w w' : World} {C m p q r : Nat} (h : Held w C m p q r) {cs : Array Value} (hS : Blk w (C + 2) 127 cs) (hk : Lib.OthersKept 153 (some (C + 2)) w w') : Held w' C m p q r :=
  ⟨h.p.kept hk (fun e => h.p.ne_ hS (by decide) (by injection e)) (by decide), h.q.kept hk (fun e => h.q.ne_ hS (by decide) (by injection e)) (by decide), h.r.kept hk (fun e => h.r.ne_ hS (by decide) (by injection e)) (by decide)⟩
theorem Held.below {w w' : World} {C m p q r : Nat} (h : Held w C m p q r) (hb : Below w.heap.size w w') : Held w' C m p q r :=
  ⟨h.p.below hb h.p.lt, h.q.below hb h.q.lt, h.r.below hb h.r.lt⟩
/-- the state inside the inner scope -/
structure Ins (ks : List Nat) (j : Nat) (w : World) (C p q r : Nat) (cc : Array Value) (n : Int) (vs : List Vr) : Prop where
  g : PG w C cc 1 n vs
  h : Held w C 1 p q r
  i : Inn ks j vs
  l : vs.length ≤ j + 1
  n0 : 0 ≤ n
  n1 : n ≤ j + 1
theorem Ins.below {ks : List Nat} {j : Nat} {w w' : World} {C p q r : Nat} {cc : Array Value} {n : Int} {vs : List Vr} (h : Ins ks j w C p q r cc n vs) (hb : Below w.heap.size w w') : Ins ks j w' C p q r cc n vs :=
  ⟨h.g.below hb, h.h.below hb, h.i, h.l, h.n0, h.n1⟩
theorem ins_push {ks : List Nat} {j : Nat} {w : World} {C p q r : Nat} {cc : Array Value} {n : Int} {vs : List Vr} (h : Ins ks j w C p q r cc n vs) (h8 : cc[8]? = some (.slice (some ⟨C + 3, 0, none⟩) 1 1)) (hj : j < ks.length) (hl : ks.length ≤ 4096) :
    Calls Try.prog 51 #[.pointer (some ⟨C, 0, none⟩), .string (nmB (ks[j] % 16))] w fun e w' => ∃ a b n' vs', e = .returned (.agg #[.int .i64 a, .int .i64 b]) ∧ Ins ks (j + 1) w' C p q r cc n' vs' ∧ Below C w w' := by
  have h1 := h.l
  have h2 := h.n0
  have h3 := h.n1
  refine (zz_push58 C cc 1 n vs (nmB (ks[j] % 16)) w h8 h.g (by omega) (by omega) (by omega)).mono ?_
  rintro e w' ⟨a, b, n', vs', rfl, hg, hb, hk, hc⟩
  obtain ⟨i1, i2, i3, i4⟩ := h.i.next hj hc
  have hS : ∃ cs, Blk w (C + 2) 127 cs := by obtain ⟨V, ps, hst, _⟩ := h.g; exact ⟨_, hst.s⟩
  obtain ⟨cs, hS⟩ := hS
  exact ⟨a, b, n', vs', rfl, ⟨hg, h.h.kept hS hk, i1, by omega, by omega, by push_cast; omega⟩, hb⟩
theorem ins_look {ks : List Nat} {j i : Nat} {w : World} {C p q r : Nat} {cc : Array Value} {n : Int} {vs : List Vr} (h : Ins ks j w C p q r cc n vs) (h8 : cc[8]? = some (.slice (some ⟨C + 3, 0, none⟩) 1 1)) (hl : j ≤ 4096) (hi : i < j) (hk : i < ks.length) :
    Calls Try.prog 54 #[.pointer (some ⟨C, 0, none⟩), .string (nmB (ks[i] % 16))] w fun e w' => ∃ a b, e = .returned (.tuple #[.agg #[.int .i64 a, .int .i64 b], .bool true]) ∧ Below w.heap.size w w' := by
  have h1 := h.l
  rcases look58 h.g h8 (by omega) (nmB (ks[i] % 16)) with ⟨v, hv, hx, hc⟩ | ⟨hx, hc⟩
  · refine hc.mono ?_
    rintro e w' ⟨rfl, hb⟩
    exact ⟨_, _, rfl, hb⟩
  · obtain ⟨v, hv, hvx⟩ := h.i.2 i hi hk
    exact absurd hvx (hx v hv)
/-- outside again -/
def Outs (w : World) (C : Nat) (cc : Array Value) (n : Int) : Prop := PG w C cc 0 n [Vz]
theorem out_miss {w : World} {C : Nat} {cc : Array Value} {n : Int} (h : Outs w C cc n) (h8 : cc[8]? = some (.slice (some ⟨C + 3, 0, none⟩) 1 1)) (k : Nat) (hk : k < 16) :
    Calls Try.prog 54 #[.pointer (some ⟨C, 0, none⟩), .string (nmB k)] w (Missed58 w) := by
  rcases look58 h h8 (by simp) (nmB k) with ⟨v, hv, hx, hc⟩ | ⟨hx, hc⟩
  · obtain rfl := List.mem_singleton.1 hv
    exact absurd hx.symm (nm_ne k hk)
  · exact hc
theorem out_hit {w : World} {C : Nat} {cc : Array Value} {n : Int} (h : Outs w C cc n) (h8 : cc[8]? = some (.slice (some ⟨C + 3, 0, none⟩) 1 1)) :
    Calls Try.prog 54 #[.pointer (some ⟨C, 0, none⟩), .string nmZ] w fun e w' => e = .returned (.tuple #[.agg #[.int .i64 1, .int .i64 0], .bool true]) ∧ Below w.heap.size w w' := by
  rcases look58 h h8 (by simp) nmZ with ⟨v, hv, hx, hc⟩ | ⟨hx, hc⟩
  · obtain rfl := List.mem_singleton.1 hv
    exact hc
  · exact absurd rfl (hx Vz (List.mem_singleton.2 rfl))
theorem out_push {w : World} {C : Nat} {cc : Array Value} {n : Int} (h : Outs w C cc n) (h8 : cc[8]? = some (.slice (some ⟨C + 3, 0, none⟩) 1 1)) (hn0 : 0 ≤ n) (hn1 : n ≤ 10000000) (k : Nat) (hk : k < 16) :
    Calls Try.prog 51 #[.pointer (some ⟨C, 0, none⟩), .string (nmB k)] w fun e w' => e = .returned (.agg #[.int .i64 1, .int .i64 n]) ∧ Below C w w' := by
  refine (zz_push58 C cc 0 n [Vz] (nmB k) w h8 h (by simp) hn0 hn1).mono ?_
  rintro e w' ⟨a, b, n', vs', rfl, hg, hb, hk2, ⟨_, _, v, hv, hx⟩ | ⟨_, _, rfl, rfl⟩⟩
  · obtain rfl := List.mem_singleton.1 hv
    exact absurd hx.symm (nm_ne k hk)
  · exact ⟨rfl, hb⟩
theorem pushZ {w : World} {C : Nat} {cc : Array Value} (h : PG w C cc 0 0 []) (h8 : cc[8]? = some (.slice (some ⟨C + 3, 0, none⟩) 1 1)) :
    Calls Try.prog 51 #[.pointer (some ⟨C, 0, none⟩), .string nmZ] w fun e w' => ∃ a b, e = .returned (.agg #[.int .i64 a, .int .i64 b]) ∧ PG w' C cc 0 1 [Vz] ∧ Below C w w' := by
  refine (zz_push58 C cc 0 0 [] nmZ w h8 h (by simp) (by omega) (by omega)).mono ?_
  rintro e w' ⟨a, b, n', vs', rfl, hg, hb, hk2, ⟨_, _, v, hv, hx⟩ | ⟨rfl, rfl, _, _⟩⟩
  · cases hv
  · exact ⟨a, b, rfl, hg, hb⟩
theorem ins_restore {ks : List Nat} {w : World} {C p q r : Nat} {cc : Array Value} {n : Int} {vs : List Vr} (h : Ins ks ks.length w C p q r cc n vs) (hl : ks.length ≤ 4096) :
    Calls Try.prog 91 #[.pointer (some ⟨p, 0, none⟩), .pointer (some ⟨q, 0, none⟩), .pointer (some ⟨r, 0, none⟩)] w fun e w' => e = .returned (.tuple #[]) ∧ Outs w' C cc n ∧ Below C w w' := by
  have h1 := h.l
  obtain ⟨t, rfl⟩ := h.i.1
  refine (restore_any C 1 p q r cc n (Vz :: t) w h.g h.h (by simp) (by simp) (by omega)).mono ?_
  rintro e w' ⟨rfl, h2, h3⟩
  exact ⟨rfl, h2, h3⟩
theorem zzb58 (A : Option Addr) (c n : Nat) (w : World) (hn : n ≤ 4096) : Calls Try.prog 47 #[.slice A n c] w fun e w' => e = .returned (.bool true) ∧ w = w' := by
  go_enter Try.func47, Try.ntmps47
  go_wp2_with fail
  go_ret
  exact ⟨rfl, rfl⟩
theorem zzb58_big (A : Option Addr) (c n : Nat) (w : World) (hn : n ≤ 9223372036854775807) : Calls Try.prog 47 #[.slice A n c] w (SomeBool w) := by
  by_cases h0 : n ≤ 1048576
  all_goals
    go_enter Try.func47, Try.ntmps47
    go_wp2_with fail
    go_ret
    exact ⟨_, rfl, rfl⟩
set_option maxHeartbeats 16000000 in
theorem law_forgets (A : Option Addr) (c : Nat) (ks : List Nat) (w : World) (hA : A = none → c = 0 ∧ ks = []) (hx : RdAt w w.heap.size A (u8s ks)) (hk : ∀ k ∈ ks, k ≤ 255) (hn : ks.length ≤ 9223372036854775807) :
    Calls Try.prog 9 #[.slice A ks.length c] w fun e w' => e = .returned (.bool true) ∧ Below w.heap.size w w' := by
  by_cases hs : ks.length ≤ 4096
  · have hzz := Lib.hid (zzb58 A c ks.length w hs)
    have hcl : Hid (Calls Try.prog 48 #[.slice A ks.length c] w (Copied (u8s ks) w)) := by
      show Calls _ _ _ _ _
      cases A with
      | none => obtain ⟨rfl, rfl⟩ := hA rfl; exact cloneU8_nil w
      | some a =>
        have h := cloneU8_some a c (u8s ks) w hx (fun x hx => by unfold u8s at hx; obtain ⟨k, _, rfl⟩ := List.mem_map.1 hx; exact ⟨_, rfl⟩) (by rw [u8s_len]; omega)
        rw [u8s_len] at h
        exact h
    have HK := Lib.hid hk
    clear hA hx hk
    go_enter Try.func9, Try.ntmps9
    go_wp2_with fail
    with_reducible refine (hzz.out).mono ?_
    rintro e0 w0 ⟨rfl, rfl⟩
    go_wp2_with fail
    with_reducible refine (hcl.out).mono ?_
    rintro e1 w1 ⟨Ax, cx, rfl, hR, hb1⟩
    rw [u8s_len]
    have HR := Lib.hid hR
    have hnc := Lib.hid (newC58 w1)
    clear hR hcl hzz
    go_wp2_with fail
    with_reducible refine (hnc.out).mono ?_
    rintro e2 w2 ⟨cc0, rfl, hC0, _, _, h80, hl0, hs0, hb2, hsz2⟩
    have PG0 : PG w2 w1.heap.size cc0 0 0 [] := ⟨_, [], ⟨hC0, hl0, hs0, World.ownsRow_nil _ _ _ _⟩, rfl, fun i v hv => by simp at hv⟩
    have H80 := Lib.hid h80
    have hTop : ∀ {W : World} {d n : Int} {vs : List Vr}, PG W w1.heap.size cc0 d n vs → Top W w1.heap.size (w1.heap.size + 3) (w1.heap.size + 2) := fun h => by obtain ⟨V, ps, hst, _⟩ := h; exact hst.top h80
    have ht := Lib.hid (top58 w1.heap.size (w1.heap.size + 3) (w1.heap.size + 2) w2 (hTop PG0))
    have P0 := Lib.hid PG0
    clear hC0 hl0 hs0 h80 hTop PG0 hnc
    go_wp2_with fail
    with_reducible refine (ht.out).mono ?_
    rintro e3 w3 ⟨rfl, n3, rfl⟩
    have P3 := P0.out.drewN n3
    have B3 := below_drewN hb2 n3
    have hpz := Lib.hid (pushZ P3 H80.out)
    unfold nmZ at hpz
    clear P3 ht
    go_wp2_with fail
    with_reducible refine (hpz.out).mono ?_
    rintro e4 w4 ⟨a4, b4, rfl, P4, hb4⟩
    have B4 := B3.trans hb4
    have hdp := Lib.hid (zz_deeper w1.heap.size cc0 1 [Vz] w4 H80.out P4)
    clear P4 hpz hb4
    go_wp2_with fail
    with_reducible refine (hdp.out).mono ?_
    rintro e5 w5 ⟨p, q, r, rfl, hh5, P5, hb5⟩
    have B5 := B4.trans hb5
    have I5 : Hid (Ins ks 0 w5 w1.heap.size p q r cc0 1 [Vz]) := ⟨P5, hh5, ⟨⟨[], rfl⟩, fun i hi => absurd hi (by omega)⟩, by simp, by omega, by omega⟩
    clear P5 hh5 hdp hb5 B3 B4
    go_wp2_with fail
    go_loopw [6] (fun i wr => ∃ (j : Nat) (n : Int) (vs : List Vr), i = .int .i64 j ∧ j ≤ ks.length ∧ Hid (Ins ks j wr w1.heap.size p q r cc0 n vs) ∧ Below w1.heap.size w1 wr) (fun i _ => ks.length - (intOf i).toNat)
    case atStart => exact ⟨0, 1, _, rfl, by omega, I5, B5⟩
    case round =>
      obtain ⟨j, n, vs, rfl, hj, hI, hbw⟩ := hrel
      by_cases hlt : j < ks.length
      · obtain ⟨g, o, rfl, hg, c1⟩ := HR.out j _ (u8s_at ks j hlt)
        have c0 := ((bcell hbw).1 g (o + j) hg).trans c1
        have hkj := HK.out _ (List.getElem_mem hlt)
        obtain ⟨x, hxx⟩ : ∃ x, Hid (ks[j] = x) := ⟨_, Lib.hid rfl⟩
        have hpu := Lib.hid fun (W : World) (hW : Below wr.heap.size wr W) => ins_push (hI.out.below hW) H80.out hlt hs
        rw [hxx.out] at c0 hkj hpu
        obtain ⟨m, hm⟩ : ∃ m, Hid (x % 16 = m) := ⟨_, Lib.hid rfl⟩
        have hm16 : m < 16 := by rw [← hm.out]; omega
        have em : ((x : Int) % 16) = (m : Int) := by rw [← hm.out]; omega
        rw [hm.out] at hpu
        have hnm := Lib.hid (name58 m wr hm16)
        have x0 : (0 : Int) ≤ x := by omega
        have j0 : (0 : Int) ≤ j := by omega
        have j1 : (j : Int) < ks.length := by omega
        clear c1 hxx
        go_wp2_with fail
        with_reducible refine (hnm.out).mono ?_
        rintro e6 w6 ⟨rfl, hb6⟩
        have hp6 := Lib.hid (hpu.out w6 hb6)
        clear hpu
        go_wp2_with fail
        with_reducible refine (hp6.out).mono ?_
        rintro e7 w7 ⟨a7, b7, n7, vs7, rfl, I7, hb7⟩
        have HI7 := Lib.hid I7
        have B7 := (hbw.trans (hb6.mono hbw.size)).trans hb7
        clear I7 hp6 hnm
        go_wp2_with fail
        go_roundw
        case rel => exact ⟨j + 1, n7, vs7, by go_num, by omega, HI7, B7⟩
        case measure => simp [intOf]; omega
      · obtain rfl : j = ks.length := by omega
        clear I5 hlt
        go_wp2_with fail
        go_loopw [7] (fun i wi => ∃ (jj : Nat), i = .int .i64 jj ∧ jj ≤ ks.length ∧ Hid (Ins ks ks.length wi w1.heap.size p q r cc0 n vs) ∧ Below w1.heap.size w1 wi) (fun i _ => ks.length - (intOf i).toNat)
        case atStart => exact ⟨0, rfl, by omega, hI, hbw⟩
        case round =>
          obtain ⟨j, rfl, hjj, hJ, hbi⟩ := hrel
          by_cases hlt : j < ks.length
          · obtain ⟨g, o, rfl, hg, c1⟩ := HR.out j _ (u8s_at ks j hlt)
            have c0 := ((bcell hbi).1 g (o + j) hg).trans c1
            have hkj := HK.out _ (List.getElem_mem hlt)
            obtain ⟨x, hxx⟩ : ∃ x, Hid (ks[j] = x) := ⟨_, Lib.hid rfl⟩
            have hpu := Lib.hid fun (W : World) (hW : Below wr.heap.size wr W) => ins_look (i := j) (hJ.out.below hW) H80.out hs hlt hlt
            rw [hxx.out] at c0 hkj hpu
            obtain ⟨m, hm⟩ : ∃ m, Hid (x % 16 = m) := ⟨_, Lib.hid rfl⟩
            have hm16 : m < 16 := by rw [← hm.out]; omega
            have em : ((x : Int) % 16) = (m : Int) := by rw [← hm.out]; omega
            rw [hm.out] at hpu
            have hnm := Lib.hid (name58 m wr hm16)
            have x0 : (0 : Int) ≤ x := by omega
            have j0 : (0 : Int) ≤ j := by omega
            have j1 : (j : Int) < ks.length := by omega
            clear c1 hxx
            go_wp2_with fail
            with_reducible refine (hnm.out).mono ?_
            rintro e6 w6 ⟨rfl, hb6⟩
            have hp6 := Lib.hid (hpu.out w6 hb6)
            clear hpu
            go_wp2_with fail
            with_reducible refine (hp6.out).mono ?_
            rintro e7 w7 ⟨a7, b7, rfl, hb7⟩
            have hb67 := hb6.trans (hb7.mono hb6.size)
            have B7 := hbi.trans (hb67.mono hbi.size)
            clear hp6 hnm
            go_wp2_with fail
            go_roundw
            case rel => exact ⟨j + 1, by go_num, by omega, hJ.out.below (hb67.alloc hb67.size _), B7.alloc B7.size _⟩
            case measure => simp [intOf]; omega
          · clear hI hbw
            have hre := Lib.hid (ins_restore hJ.out hs)
            have hn0 := hJ.out.n0
            have hn1 := hJ.out.n1
            go_wp2_with fail
            with_reducible refine (hre.out).mono ?_
            rintro e6 w6 ⟨rfl, O6, hb6⟩
            have B6 := hbi.trans hb6
            obtain ⟨V, ps, hst, _⟩ := id O6
            have hct := Lib.hid (cnt58 (w1.heap.size + 2) n w6 (hst.s.cell 4))
            have HO6 := Lib.hid O6
            clear O6 hst hre
            go_wp2_with fail
            with_reducible refine (hct.out).mono ?_
            rintro e7 w7 ⟨rfl, rfl⟩
            go_wp2_with fail
            go_loopw [11] (fun i wi => ∃ (k : Nat), i = .int .i64 k ∧ k ≤ 16 ∧ Hid (Outs wi w1.heap.size cc0 n) ∧ Below w1.heap.size w1 wi) (fun i _ => 16 - (intOf i).toNat)
            case atStart => exact ⟨0, rfl, by omega, HO6, B6⟩
            case round =>
              obtain ⟨k, rfl, hk16, hO, hbo⟩ := hrel
              by_cases hlk : k < 16
              · have hnm := Lib.hid (name58 k wr hlk)
                have hmi := Lib.hid fun (W : World) (hW : Below wr.heap.size wr W) => out_miss (hO.out.below hW) H80.out k hlk
                have k0 : (0 : Int) ≤ k := by omega
                go_wp2_with fail
                with_reducible refine (hnm.out).mono ?_
                rintro e8 w8 ⟨rfl, hb8⟩
                have hm8 := Lib.hid (hmi.out w8 hb8)
                clear hmi
                go_wp2_with fail
                with_reducible refine (hm8.out).mono ?_
                rintro e9 w9 ⟨rfl, hb9⟩
                have hb89 := hb8.trans (hb9.mono hb8.size)
                have B9 := hbo.trans (hb89.mono hbo.size)
                clear hm8 hnm
                go_wp2_with fail
                go_roundw
                case rel => exact ⟨k + 1, by go_num, by omega, hO.out.below (hb89.alloc hb89.size _), B9.alloc B9.size _⟩
                case measure => simp [intOf]; omega
              · obtain rfl : k = 16 := by omega
                have hhi := Lib.hid (out_hit hO.out H80.out)
                unfold nmZ at hhi
                clear HO6 hct
                go_wp2_with fail
                with_reducible refine (hhi.out).mono ?_
                rintro e8 w8 ⟨rfl, hb8⟩
                have hb8a := hb8.alloc hb8.size (.cells #[.int .i64 1, .int .i64 0] 45)
                have B8 := hbo.trans (hb8a.mono hbo.size)
                have hneq := neq_pair 1 0
                have hneq2 := neq_pair 1 n
                by_cases h0 : 0 < ks.length
                · obtain ⟨g, o, rfl, hg, c1⟩ := HR.out 0 _ (u8s_at ks 0 h0)
                  have c0 := ((bcell B8).1 g (o + 0) hg).trans c1
                  rw [Nat.add_zero] at c0
                  have hkj := HK.out _ (List.getElem_mem h0)
                  obtain ⟨x, hxx⟩ : ∃ x, Hid (ks[0] = x) := ⟨_, Lib.hid rfl⟩
                  rw [hxx.out] at c0 hkj
                  obtain ⟨m, hm⟩ : ∃ m, Hid (x % 16 = m) := ⟨_, Lib.hid rfl⟩
                  have hm16 : m < 16 := by rw [← hm.out]; omega
                  have em : ((x : Int) % 16) = (m : Int) := by rw [← hm.out]; omega
                  have hpu := Lib.hid fun (W : World) (hW : Below wr.heap.size wr W) => out_push (hO.out.below hW) H80.out hn0 (by omega) m hm16
                  have hnm := Lib.hid fun W => name58 m W hm16
                  have x0 : (0 : Int) ≤ x := by omega
                  clear c1 hxx hhi
                  go_wp2_with fail
                  with_reducible refine (hnm.out _).mono ?_
                  rintro e9 w9 ⟨rfl, hb9⟩
                  have hb9a := hb8a.trans (hb9.mono hb8a.size)
                  have hp9 := Lib.hid (hpu.out w9 hb9a)
                  clear hpu
                  go_wp2_with fail
                  with_reducible refine (hp9.out).mono ?_
                  rintro e10 w10 ⟨rfl, hb10⟩
                  have B10 := (hbo.trans (hb9a.mono hbo.size)).trans hb10
                  clear hp9
                  go_wp2_with fail
                  go_ret
                  exact ⟨rfl, hb1.trans (B10.mono hb1.size)⟩
                · have e0 : ks.length = 0 := by omega
                  have i0 : ¬ ((0 : Int) < ks.length) := by omega
                  clear hhi
                  go_wp2_with fail
                  go_ret
                  exact ⟨rfl, hb1.trans (B8.mono hb1.size)⟩
  · have hzz := Lib.hid (zzb58_big A c ks.length w hn)
    clear hx hA
    go_enter Try.func9, Try.ntmps9
    go_wp2_with fail
    with_reducible refine (hzz.out).mono ?_
    rintro e0 w0 ⟨b, rfl, rfl⟩
    cases b
    all_goals
      go_wp2_with fail
      go_ret
      exact ⟨rfl, Below.refl _ _⟩
end Go.Proofs.Ytbkakiipaehleaa
