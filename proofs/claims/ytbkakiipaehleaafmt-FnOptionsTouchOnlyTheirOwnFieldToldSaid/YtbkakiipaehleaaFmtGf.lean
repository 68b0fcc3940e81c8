/- The other options of n001_70: loaders and variables; strings copied and compared. -/
import Derived.Test.YtbkakiipaehleaaFmtGe
namespace Go.Proofs.YtbkakiipaehleaaFmt
open Go.RowKit Go.MapKept Go.ChangeMaps
set_option maxRecDepth 100000
set_option linter.unusedVariables false
set_option linter.unusedSimpArgs false
def SomeBool (w : World) (e : Ending) (w' : World) : Prop := ∃ b : Bool, e = .returned (.bool b) ∧ w = w'
def SomeInt (w : World) (e : Ending) (w' : World) : Prop := ∃ m : Int, e = .returned (.int .i64 m) ∧ w = w'
def vStrs (xs : List ByteArray) : List Value := xs.map Value.string
theorem vStrs_len (xs : List ByteArray) : (vStrs xs).length = xs.length := List.length_map _
theorem vStrs_at (xs : List ByteArray) (j : Nat) (h : j < xs.length) : (vStrs xs)[j]? = some (.string xs[j]) := by simp [vStrs, h]
theorem info_cloneStrs : (Tryf.prog.info? 9).map (fun i => (i.zero, i.size, i.bytes)) = some (some (.string ⟨#[]⟩), 1, 16) := by kernel_rfl
theorem cloneStrs_nil (w : World) : Calls Tryf.prog 17 #[.slice none 0 0] w (Copied [] w) := by
  have hnil : ∀ W : World, (binOp .eql 35 (.slice none 0 0) (.slice none 0 0)).run Tryf.prog W = .ok (.bool true) W := fun W => Lib.run_eql_slice_nil W _ 9 none 0 0 0 0 Tryf.underlying35
  go_enter Tryf.func17, Tryf.ntmps17
  go_wp2_with fail
  go_ret
  exact ⟨none, 0, rfl, fun i x hx => by simp at hx, Below.refl _ _⟩
set_option maxHeartbeats 4000000 in
theorem cloneStrs_some (a : Addr) (c : Nat) (xs : List Value) (w : World) (hx : RdAt w w.heap.size (some a) xs) (h1 : ∀ x ∈ xs, ∃ y, x = .string y) (hn : xs.length ≤ 1048576) :
    Calls Tryf.prog 17 #[.slice (some a) xs.length c] w (Copied xs w) := by
  have HX := Lib.hid hx
  have H1 := Lib.hid h1
  clear hx h1
  obtain ⟨i0, hi, hz0, hz1, hz2⟩ := info_parts info_cloneStrs
  have hmk : ∀ W : World, (Instr.makeSlice 35 (.int .i64 (xs.length : Int)) (.int .i64 (xs.length : Int))).run Tryf.prog W = .ok (.slice (some ⟨W.heap.size, 0, none⟩) xs.length xs.length) (W.alloc (.cells (madeCells #[.string ⟨#[]⟩] (xs.length * 1)) 9)) := by
    intro W
    have h := run_make_rowN (P := Tryf.prog) 35 9 i0 _ Tryf.underlying35 hi hz0 .i64 .i64 xs.length xs.length (Nat.le_refl _) (by rw [hz2]; omega) (by omega) W
    rw [hz1] at h
    exact h
  clear hi hz0 hz1 hz2 i0
  have hnil : ∀ W : World, (binOp .eql 35 (.slice (some a) xs.length c) (.slice none 0 0)).run Tryf.prog W = .ok (.bool false) W := fun W => Lib.run_eql_slice_nil W _ 9 (some a) xs.length c 0 0 Tryf.underlying35
  go_enter Tryf.func17, Tryf.ntmps17
  go_wp2_with fail
  clear hmk hnil
  go_loopw [4] (fun i wr => ∃ (j : Nat) (arr : Array Value), i = .int .i64 j ∧ j ≤ xs.length ∧ Blk wr w.heap.size 9 arr ∧ Hid (arr.size = xs.length) ∧ Fill1 arr xs j ∧ Below w.heap.size w wr) (fun i _ => xs.length - (intOf i).toNat)
  case atStart => exact ⟨0, _, rfl, by omega, Blk.new _ _ _, by show _ = _; rw [size_madeCells], fun i x hi => absurd hi (by omega), (Below.refl _ _).alloc (Nat.le_refl _) _⟩
  case round =>
    obtain ⟨j, arr, rfl, hj, hB, hsz, hfl, hbw⟩ := hrel
    by_cases hlt : j < xs.length
    · obtain ⟨g, o, hA, hg, c0⟩ := (RdAt.below hbw HX.out) j _ (List.getElem?_eq_getElem hlt)
      injection hA with hA
      subst hA
      have HG := Lib.hid (List.getElem?_eq_getElem hlt)
      obtain ⟨x, hxx⟩ : ∃ x, Hid (xs[j] = x) := ⟨_, Lib.hid rfl⟩
      have hv := H1.out _ (List.getElem_mem hlt)
      rw [hxx.out] at c0 HG hv
      obtain ⟨y, rfl⟩ := hv
      have hz : j < arr.size := by rw [hsz.out]; omega
      obtain ⟨o0, q0⟩ : ∃ u, wr.cell? ⟨w.heap.size, j, none⟩ = some u := ⟨_, (hB.cell _).trans (Array.getElem?_eq_getElem (by omega))⟩
      have f0 := hB.frozen j
      have HF := Lib.hid hfl
      have HBk := Lib.hid hB
      clear hfl hB hxx
      go_wp2_with fail
      go_roundw
      case rel => exact ⟨j + 1, _, by go_num, by omega, HBk.out.set_ j _, by show _ = _; rw [Array.size_setIfInBounds]; exact hsz.out, HF.out.next HG.out hz, hbw.setCell (Nat.le_refl _) _⟩
      case measure => simp [intOf]; omega
    · go_wp2_with fail
      go_ret
      have hj2 : j = xs.length := by omega
      subst hj2
      exact ⟨_, _, rfl, hfl.at_ hB _ hB.lt, hbw⟩
theorem mk18 (w : World) : Calls Tryf.prog 18 #[.nilFunc] w fun e w' => ∃ p, e = .returned (.func (.func 26) #[] #[.pointer (some ⟨p, 0, none⟩)]) ∧ Blk w' p 46 #[.nilFunc] ∧ Below w.heap.size w w' := by
  go_enter Tryf.func18, Tryf.ntmps18
  go_wp2_with fail
  go_ret
  exact ⟨_, rfl, Blk.new w _ _, (Below.refl _ _).alloc (Nat.le_refl _) _⟩
theorem mk19 (w : World) : Calls Tryf.prog 19 #[.nilIface] w fun e w' => ∃ p, e = .returned (.func (.func 27) #[] #[.pointer (some ⟨p, 0, none⟩)]) ∧ Blk w' p 45 #[.nilIface] ∧ Below w.heap.size w w' := by
  go_enter Tryf.func19, Tryf.ntmps19
  go_wp2_with fail
  go_ret
  exact ⟨_, rfl, Blk.new w _ _, (Below.refl _ _).alloc (Nat.le_refl _) _⟩
theorem mk20 (A : Option Addr) (n c : Nat) (w : World) : Calls Tryf.prog 20 #[.slice A n c] w fun e w' => ∃ p, e = .returned (.func (.func 28) #[] #[.pointer (some ⟨p, 0, none⟩)]) ∧ Blk w' p 35 #[.slice A n c] ∧ Below w.heap.size w w' := by
  go_enter Tryf.func20, Tryf.ntmps20
  go_wp2_with fail
  go_ret
  exact ⟨_, rfl, Blk.new w _ _, (Below.refl _ _).alloc (Nat.le_refl _) _⟩
theorem ap26 (C p : Nat) (cc : Array Value) (w : World) (hC : Blk w C 76 cc) (hl : 1 < cc.size) (hp : Blk w p 46 #[.nilFunc]) : Calls Tryf.prog 26 #[.pointer (some ⟨C, 0, none⟩), .pointer (some ⟨p, 0, none⟩)] w fun e w' => e = .returned (.tuple #[]) ∧ w' = w.setCell ⟨C, 1, none⟩ (.nilFunc) := by
  obtain ⟨u, hu⟩ : ∃ u, w.cell? ⟨C, 1, none⟩ = some u := ⟨_, (hC.cell 1).trans (Array.getElem?_eq_getElem hl)⟩
  have f1 := hC.frozen 1
  have p0 : w.cell? ⟨p, 0, none⟩ = some (.nilFunc) := hp.cell 0
  have s1 := st_nil
  clear hC hp
  go_enter Tryf.func26, Tryf.ntmps26
  go_wp2_with fail
  go_end0
  exact ⟨rfl, rfl⟩
theorem ap27 (C p : Nat) (cc : Array Value) (w : World) (hC : Blk w C 76 cc) (hl : 0 < cc.size) (hp : Blk w p 45 #[.nilIface]) : Calls Tryf.prog 27 #[.pointer (some ⟨C, 0, none⟩), .pointer (some ⟨p, 0, none⟩)] w fun e w' => e = .returned (.tuple #[]) ∧ w' = w.setCell ⟨C, 0, none⟩ (.nilIface) := by
  obtain ⟨u, hu⟩ : ∃ u, w.cell? ⟨C, 0, none⟩ = some u := ⟨_, (hC.cell 0).trans (Array.getElem?_eq_getElem hl)⟩
  have f1 := hC.frozen 0
  have p0 : w.cell? ⟨p, 0, none⟩ = some (.nilIface) := hp.cell 0
  have s1 := st_nil
  clear hC hp
  go_enter Tryf.func27, Tryf.ntmps27
  go_wp2_with fail
  go_end0
  exact ⟨rfl, rfl⟩
theorem ap28 (C p : Nat) (cc : Array Value) (A : Option Addr) (n c : Nat) (w : World) (hC : Blk w C 76 cc) (hl : 2 < cc.size) (hp : Blk w p 35 #[.slice A n c]) : Calls Tryf.prog 28 #[.pointer (some ⟨C, 0, none⟩), .pointer (some ⟨p, 0, none⟩)] w fun e w' => e = .returned (.tuple #[]) ∧ w' = w.setCell ⟨C, 2, none⟩ (.slice A n c) := by
  obtain ⟨u, hu⟩ : ∃ u, w.cell? ⟨C, 2, none⟩ = some u := ⟨_, (hC.cell 2).trans (Array.getElem?_eq_getElem hl)⟩
  have f1 := hC.frozen 2
  have p0 : w.cell? ⟨p, 0, none⟩ = some (.slice A n c) := hp.cell 0
  have s1 := st_nil
  clear hC hp
  go_enter Tryf.func28, Tryf.ntmps28
  go_wp2_with fail
  go_end0
  exact ⟨rfl, rfl⟩
theorem vars22 (C : Nat) (V : Value) (w : World) (c2 : w.cell? ⟨C, 2, none⟩ = some V) : Calls Tryf.prog 22 #[.pointer (some ⟨C, 0, none⟩)] w fun e w' => e = .returned V ∧ w = w' := by
  go_enter Tryf.func22, Tryf.ntmps22
  go_wp2_with fail
  go_ret
  exact ⟨rfl, rfl⟩
theorem env23 (C : Nat) (w : World) (c1 : w.cell? ⟨C, 1, none⟩ = some .nilFunc) : Calls Tryf.prog 23 #[.pointer (some ⟨C, 0, none⟩)] w fun e w' => e = .returned (.bool true) ∧ w = w' := by
  have he : ∀ W : World, (binOp .eql 46 .nilFunc .nilFunc).run Tryf.prog W = .ok (.bool true) W := fun W => by kernel_rfl
  go_enter Tryf.func23, Tryf.ntmps23
  go_wp2_with fail
  go_ret
  exact ⟨rfl, rfl⟩
theorem mod24 (C : Nat) (w : World) (c0 : w.cell? ⟨C, 0, none⟩ = some .nilIface) : Calls Tryf.prog 24 #[.pointer (some ⟨C, 0, none⟩)] w fun e w' => e = .returned (.bool true) ∧ w = w' := by
  have he : ∀ W : World, (binOp .eql 45 .nilIface .nilIface).run Tryf.prog W = .ok (.bool true) W := fun W => by kernel_rfl
  go_enter Tryf.func24, Tryf.ntmps24
  go_wp2_with fail
  go_ret
  exact ⟨rfl, rfl⟩
set_option maxHeartbeats 2000000 in
theorem same21 (A : Option Addr) (c B : Nat) (xs : List ByteArray) (w : World) (hx : RdAt w B A (vStrs xs)) (hn : xs.length ≤ 1048576) :
    Calls Tryf.prog 21 #[.slice A xs.length c, .slice A xs.length c] w fun e w' => e = .returned (.bool true) ∧ ∃ n, w' = w.drewN n := by
  have HX := Lib.hid hx
  have hnil : ∀ W : World, (binOp .eql 35 (.slice A xs.length c) (.slice none 0 0)).run Tryf.prog W = .ok (.bool A.isNone) W := fun W => Lib.run_eql_slice_nil W _ 9 A xs.length c 0 0 Tryf.underlying35
  obtain ⟨nb, hnb⟩ : ∃ nb, A.isNone = nb := ⟨_, rfl⟩
  rw [hnb] at hnil
  clear hx hnb
  cases nb
  all_goals
    go_enter Tryf.func21, Tryf.ntmps21
    go_wp2_with fail
    clear hnil
    go_loopw [5] (fun x wr => ∃ j m : Nat, x = .int .i64 j ∧ j ≤ xs.length ∧ wr = w.drewN m) (fun x _ => xs.length - (intOf x).toNat)
    case atStart => exact ⟨0, 0, rfl, by omega, rfl⟩
    case round =>
      obtain ⟨j, m, rfl, hj, rfl⟩ := hrel
      by_cases hlt : j < xs.length
      · obtain ⟨g, o, rfl, hg, c0⟩ := HX.out j _ (vStrs_at xs j hlt)
        obtain ⟨x, hxx⟩ : ∃ x, Hid (xs[j] = x) := ⟨_, Lib.hid rfl⟩
        rw [hxx.out] at c0
        have j0 : (0 : Int) ≤ j := by omega
        have j1 : (j : Int) < xs.length := by omega
        have hself : (x.toList == x.toList) = true := by simp
        clear hxx
        go_wp2_with fail
        go_quiet (fail)
        go_wp2_with fail
        go_roundw
        case rel => exact ⟨j + 1, _, by go_num, by omega, rfl⟩
        case measure => simp [intOf]; omega
      · go_wp2_with fail
        go_ret
        exact ⟨rfl, _, rfl⟩
set_option maxHeartbeats 2000000 in
theorem bytes16 (A : Option Addr) (c B : Nat) (xs : List ByteArray) (w : World) (hx : RdAt w B A (vStrs xs)) (hn : xs.length ≤ 1048576) :
    Calls Tryf.prog 16 #[.slice A xs.length c] w (SomeInt w) := by
  have HX := Lib.hid hx
  clear hx
  go_enter Tryf.func16, Tryf.ntmps16
  go_wp2_with fail
  go_loop [3, 4] (fun s i => ∃ (m : Int) (j : Nat), i = .int .i64 j ∧ j ≤ xs.length ∧ s = .int .i64 m) (fun _ i => xs.length - (intOf i).toNat)
  case atStart => exact ⟨_, 0, rfl, by omega, rfl⟩
  case round =>
    obtain ⟨m, j, rfl, hj, rfl⟩ := hrel
    by_cases hlt : j < xs.length
    · obtain ⟨g, o, rfl, hg, c0⟩ := HX.out j _ (vStrs_at xs j hlt)
      go_wp2_with fail
      go_round
      case rel => exact ⟨_, j + 1, by go_num, by omega, rfl⟩
      case measure => simp [intOf]; omega
    · go_wp2_with fail
      go_ret
      exact ⟨_, rfl, rfl⟩
set_option maxHeartbeats 4000000 in
theorem zz15 (A : Option Addr) (c B : Nat) (xs : List ByteArray) (s : ByteArray) (a b : Int) (l : Bool) (w : World) (hx : RdAt w B A (vStrs xs)) (hn : xs.length ≤ 9223372036854775807) :
    Calls Tryf.prog 15 #[.slice A xs.length c, .string s, .int .i64 a, .int .i64 b, .bool l] w (SomeBool w) := by
  have HX := Lib.hid hx
  clear hx
  by_cases h0 : xs.length ≤ 1048576
  · go_enter Tryf.func15, Tryf.ntmps15
    go_wp2_with fail
    go_loop [11, 12] (fun s i => ∃ (m : Int) (j : Nat), i = .int .i64 j ∧ j ≤ xs.length ∧ s = .int .i64 m) (fun _ i => xs.length - (intOf i).toNat)
    case atStart => exact ⟨_, 0, rfl, by omega, rfl⟩
    case round =>
      obtain ⟨m, j, rfl, hj, rfl⟩ := hrel
      by_cases hlt : j < xs.length
      · obtain ⟨g, o, rfl, hg, c0⟩ := HX.out j _ (vStrs_at xs j hlt)
        go_wp2_with fail
        all_goals first
          | (go_round
             case rel => exact ⟨_, j + 1, by go_num, by omega, rfl⟩
             case measure => simp [intOf]; omega)
          | (go_ret
             exact ⟨_, rfl, rfl⟩)
      · go_wp2_with fail
        all_goals
          go_ret
          exact ⟨_, rfl, rfl⟩
  · go_enter Tryf.func15, Tryf.ntmps15
    go_wp2_with fail
    go_ret
    exact ⟨_, rfl, rfl⟩
end Go.Proofs.YtbkakiipaehleaaFmt
