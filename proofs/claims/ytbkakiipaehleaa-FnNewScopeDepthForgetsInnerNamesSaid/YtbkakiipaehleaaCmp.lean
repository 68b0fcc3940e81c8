/- The compiler's state in memory: a new compiler; (*compiler).append; what its codes read as. -/
import Derived.Test.YtbkakiipaehleaaClo
import Derived.BigQuiet
import Derived.Deep.QuietTactic
namespace Go.Proofs.Ytbkakiipaehleaa
open Go.RowKit
set_option maxRecDepth 100000
set_option linter.unusedVariables false
/-- a compiler in the state in which Compile starts -/
def NewC (w : World) (e : Ending) (w' : World) : Prop := ∃ cc : Array Value, e = .returned (.pointer (some ⟨w.heap.size, 0, none⟩)) ∧ Blk w' w.heap.size 121 cc ∧ cc.size = 17 ∧ cc[5]? = some (.slice none 0 0) ∧ cc[8]? = some (.slice (some ⟨w.heap.size + 3, 0, none⟩) 1 1) ∧
  Blk w' (w.heap.size + 3) 54 #[.pointer (some ⟨w.heap.size + 2, 0, none⟩)] ∧ Blk w' (w.heap.size + 2) 127 #[.slice none 0 0, .slice none 0 0, .int .i64 1, .int .i64 0, .int .i64 0] ∧ Below w.heap.size w w' ∧ w'.heap.size = w.heap.size + 4
set_option maxHeartbeats 1000000 in
theorem newC73 (w : World) : Calls Try.prog 30 #[] w (NewC w) := by
  go_enter Try.func30, Try.ntmps30
  go_wp2
  go_ret
  exact ⟨_, rfl, (((Blk.new w _ _).alloc _).alloc _).alloc _, rfl, rfl, rfl, Blk.at_ _ _ (by simp), (Blk.at_ _ _ (by simp)).alloc _, ((((Below.refl _ _).alloc (Nat.le_refl _) _).alloc (by simp) _).alloc (by simp; omega) _).alloc (by simp; omega) _, by simp⟩
set_option maxHeartbeats 1000000 in
theorem newC77 (w : World) : Calls Try.prog 24 #[] w (NewC w) := by
  go_enter Try.func24, Try.ntmps24
  go_wp2
  go_ret
  exact ⟨_, rfl, (((Blk.new w _ _).alloc _).alloc _).alloc _, rfl, rfl, rfl, Blk.at_ _ _ (by simp), (Blk.at_ _ _ (by simp)).alloc _, ((((Below.refl _ _).alloc (Nat.le_refl _) _).alloc (by simp) _).alloc (by simp; omega) _).alloc (by simp; omega) _, by simp⟩
theorem infoCode : (Try.prog.info? 129).map (fun i => (i.zero, i.size, i.bytes)) = some (some (.pointer none), 1, 8) := by kernel_rfl
/-- behind an append of one code: the compiler's cell 5 holds the longer list -/
def Appd (base C n : Nat) (cc : Array Value) (xs : List Value) (w : World) (e : Ending) (w' : World) : Prop := ∃ g cap, e = .returned (.tuple #[]) ∧ Blk w' C 121 (cc.setIfInBounds 5 (.slice (some ⟨g, 0, none⟩) n cap)) ∧ w'.ownsRow base 129 1 (.slice (some ⟨g, 0, none⟩) n cap) n xs ∧ Below base w w' ∧ Lib.OthersKept 129 (some C) w w'
set_option maxHeartbeats 2000000 in
theorem comp_append (base C n : Nat) (cc : Array Value) (v : Value) (p : Option Addr) (xs : List Value) (w : World) (hC : Blk w C 121 cc) (h5 : cc[5]? = some v) (hown : w.ownsRow base 129 1 v n xs) (hb : base ≤ C) (hn : n ≤ 10000000) :
    Calls Try.prog 83 #[.pointer (some ⟨C, 0, none⟩), .pointer p] w (Appd base C (n + 1) cc (xs ++ [.pointer p]) w) := by
  obtain ⟨i0, hi, hz0, hz1, hz2⟩ := info_parts infoCode
  have hCl := hC.lt
  have c5 : w.cell? ⟨C, 5, none⟩ = some v := (hC.cell 5).trans h5
  have hne := own_blk_ne hown hC (by decide)
  have HC := Lib.hid hC
  clear hC h5
  go_enter Try.func83, Try.ntmps83
  go_wp2_with (at_builtin; refine wpList_append_lies _ rfl (.tmp 8) (.tmp 10) 81 rfl base 129 i0 (.pointer none) 1 8 Try.underlying81 hi hz0 hz1 hz2 rfl (by decide) _ _ _ rfl (hown.alloc _) ⟨w.heap.size, 0, none⟩ 1 1 [.pointer p] rfl rfl ?c1 ?c2 (by omega) ?c3 ?c4 ?c5 _ rfl ?_)
  case c1 =>
    intro j u hj
    match j, hj with
    | 0, hj => simp at hj; subst hj; simp [Addr.add]
  case c2 => intro u hu; simp at hu; subst hu; rfl
  case c3 => unfold maxLen; omega
  case c4 => omega
  case c5 => simp; omega
  intro g cap w1 hown1 hgrow hat hlt
  have hC1 := (HC.out.alloc (.cells #[.pointer p] 129)).grown hgrow (fun e => hne e.symm)
  have d5 : w1.cell? ⟨C, 5, none⟩ = some v := by
    rw [hC1.cell 5]
    exact (HC.out.cell 5).symm.trans c5
  have f5 := hC1.frozen 5
  have hb1 : Below base w w1 := ((Below.refl _ w).alloc (by omega) _).grown hgrow (by simp; omega) (fun k hk => (hown.lt k hk).1)
  have hk1 : Lib.OthersKept 129 (some C) w w1 := ((Lib.OthersKept.refl _ _ w).alloc _).grown hgrow (own_kind (hown.alloc _))
  have hne1 := own_blk_ne hown1 hC1 (by decide)
  have H1 := Lib.hid hC1
  have HO := Lib.hid hown1
  have HN := Lib.hid hne1
  clear hC1 hown1 hown hne1 hne c5 hgrow hat
  go_wp2_with fail
  go_end0
  exact ⟨g, cap, rfl, H1.out.set_ 5 _, owns_far HO.out (p := ⟨C, 5, none⟩) HN.out _, hb1.setCell hb _, hk1.setCell ⟨C, 5, none⟩ rfl _⟩
end Go.Proofs.Ytbkakiipaehleaa
