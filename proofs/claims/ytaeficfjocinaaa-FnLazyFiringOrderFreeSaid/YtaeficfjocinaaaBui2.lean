/- A new code; the append of a batch. -/
import Derived.Test.YtaeficfjocinaaaBui
namespace Go.Proofs.Ytaeficfjocinaaa
open Go.RowKit
set_option maxRecDepth 100000
set_option linter.unusedVariables false
theorem newCode_any (op v : Int) (w : World) : Calls Try.prog 33 #[.int .i64 op, .int .i64 v] w fun e w' => e = .returned (.pointer (some ⟨w.heap.size, 0, none⟩)) ∧ w' = w.alloc (.cells #[.iface 3 (.int .i64 v), .int .i64 op] 90) := by
  go_enter Try.func33, Try.ntmps33
  go_wp2_with fail
  go_ret
  exact ⟨rfl, rfl⟩
def Appds (base C G : Nat) (arr : Array Value) (cs : List (Option Cd)) (w : World) (e : Ending) (w' : World) : Prop := e = .returned (.tuple #[]) ∧ CSx w' base C cs ∧ Blk w' G 35 arr ∧ Below base w w'
set_option maxHeartbeats 2000000 in
theorem comp_appends (base C G m c : Nat) (cc : Array Value) (V : Value) (arr : Array Value) (cs xs : List (Option Cd)) (w : World) (h : CS w base C cc V cs) (hG : Blk w G 35 arr) (hVG : V.ownBlock ≠ some G) (hm : xs.length = m)
    (harr : ∀ (i : Nat) (x : Option Cd), xs[i]? = some x → arr[i]? = some (pv x)) (hx : ∀ c, some c ∈ xs → Blk w c.b 90 #[c.v, .int .i64 c.op] ∧ base ≤ c.b) (hn : cs.length ≤ 1000000) (hn' : m ≤ 1000000) :
    Calls Try.prog 48 #[.pointer (some ⟨C, 0, none⟩), .slice (some ⟨G, 0, none⟩) m c] w (Appds base C G arr (cs ++ xs) w) := by
  obtain ⟨i0, hi, hz0, hz1, hz2⟩ := info_parts infoCode
  have hCl := h.c.lt
  have hle := h.le
  have c5 : w.cell? ⟨C, 5, none⟩ = some V := (h.c.cell 5).trans h.h5
  have hne := own_blk_ne h.o h.c (by decide)
  have hGC : G ≠ C := hG.ne_ h.c (by decide)
  have hnews : ∀ j u, (xs.map pv)[j]? = some u → w.cell? ((⟨G, 0, none⟩ : Addr).add j) = some u := by
    intro j u hu
    rw [List.getElem?_map] at hu
    cases hxj : xs[j]? with
    | none => rw [hxj] at hu; cases hu
    | some x =>
      rw [hxj] at hu
      injection hu with hu
      subst hu
      rw [Go.WideShapes.add_plain, Nat.zero_add]
      exact (hG.cell j).trans (harr j x hxj)
  have HNW := Lib.hid hnews
  have H := Lib.hid h
  have HX := Lib.hid hx
  have HG := Lib.hid hG
  have HM := Lib.hid hm
  clear h hx hG harr hnews hm
  go_enter Try.func48, Try.ntmps48
  go_wp2_with (at_builtin; refine wpList_append_own_at _ rfl (.tmp 8) (.tmp 9) 43 rfl base 35 i0 (.pointer none) 1 8 Try.underlying43 hi hz0 hz1 hz2 rfl (by decide) V cs.length (cs.map pv) rfl H.out.o ⟨G, 0, none⟩ m c (xs.map pv) rfl (by rw [List.length_map, HM.out, Nat.mul_one]) HNW.out (by intro u hu; obtain ⟨x, _, rfl⟩ := List.mem_map.1 hu; cases x <;> rfl) (by unfold maxLen; omega) (by omega) (by omega) ?_)
  intro v1 w1 hown1 hgrow _ hat
  obtain ⟨A1, cap1, rfl, _⟩ := own_open2 hown1
  have hC1 := H.out.c.grown hgrow (fun e => hne e.symm)
  have keep : ∀ (b : Nat) (q : Array Value), Blk w b 90 q → Blk w1 b 90 q := fun b q hq => hq.grown hgrow (fun e => own_blk_ne H.out.o hq (by decide) e.symm)
  have hG1 := HG.out.grown hgrow (fun e => hVG e.symm)
  have d5 : w1.cell? ⟨C, 5, none⟩ = some V := by
    rw [hC1.cell 5]
    exact H.out.h5
  have f5 := hC1.frozen 5
  have hb1 : Below base w w1 := (Below.refl _ w).grown hgrow (by omega) (fun k hk => (H.out.o.lt k hk).1)
  have hne1 := own_blk_ne hown1 hC1 (by decide)
  have H1 := Lib.hid hC1
  have HO := Lib.hid hown1
  have HN := Lib.hid hne1
  have HK := Lib.hid keep
  have HG1 := Lib.hid hG1
  clear hC1 hown1 hne1 hne c5 hgrow hat keep hG1
  go_wp2_with fail
  go_end0
  have hsz : 5 < cc.size := (Array.getElem?_eq_some_iff.1 H.out.h5).1
  refine ⟨rfl, ⟨_, .slice A1 (cs.length + m) cap1, H1.out.set_ 5 _, by rw [Array.getElem?_setIfInBounds_self_of_lt hsz], ?_, fun c hc => ?_, fun c hc => ?_, hle⟩, HG1.out.far (p := ⟨C, 5, none⟩) hGC _, hb1.setCell (p := ⟨C, 5, none⟩) hle _⟩
  · rw [List.length_append, List.map_append, HM.out]
    exact owns_far HO.out (p := ⟨C, 5, none⟩) HN.out _
  · rcases List.mem_append.1 hc with hc | hc
    · exact (HK.out _ _ (H.out.at_ c hc)).far (p := ⟨C, 5, none⟩) (Blk.ne_ (HK.out _ _ (H.out.at_ c hc)) H1.out (by decide)) _
    · exact (HK.out _ _ (HX.out c hc).1).far (p := ⟨C, 5, none⟩) (Blk.ne_ (HK.out _ _ (HX.out c hc).1) H1.out (by decide)) _
  · rcases List.mem_append.1 hc with hc | hc
    · exact H.out.lo c hc
    · exact (HX.out c hc).2
theorem zz_appends (base C G m c : Nat) (cc : Array Value) (V : Value) (arr : Array Value) (cs xs : List (Option Cd)) (w : World) (h : CS w base C cc V cs) (hG : Blk w G 35 arr) (hVG : V.ownBlock ≠ some G) (hm : xs.length = m)
    (harr : ∀ (i : Nat) (x : Option Cd), xs[i]? = some x → arr[i]? = some (pv x)) (hx : ∀ c, some c ∈ xs → Blk w c.b 90 #[c.v, .int .i64 c.op] ∧ base ≤ c.b) (hn : cs.length ≤ 1000000) (hn' : m ≤ 1000000) :
    Calls Try.prog 34 #[.pointer (some ⟨C, 0, none⟩), .slice (some ⟨G, 0, none⟩) m c] w (Appds base C G arr (cs ++ xs) w) := by
  have hc := Lib.hid (comp_appends base C G m c cc V arr cs xs w h hG hVG hm harr hx hn hn')
  clear h hG hVG hm harr hx
  go_enter Try.func34, Try.ntmps34
  go_wp2_with fail
  with_reducible refine (hc.out).mono ?_
  rintro e w1 ⟨rfl, h1, h2, h3⟩
  go_wp2_with fail
  go_end0
  exact ⟨rfl, h1, h2, h3⟩
end Go.Proofs.Ytaeficfjocinaaa
