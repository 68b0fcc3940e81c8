/- Lists of pair descriptions in memory: their bytes, their copy. -/
import Derived.Test.YtooalmhelfaodaaDoorObj2
import Derived.Laws.MakeOwn
namespace Go.Proofs.YtooalmhelfaodaaDoor
open Go.RowKit
set_option maxRecDepth 100000
set_option linter.unusedVariables false
structure KVd where
  k : ByteArray
  km : Int
  n : ByteArray
  vm : Int
  v : ByteArray
def KVd.sz (x : KVd) : Nat := x.k.size + x.n.size + x.v.size
def KVd.it (x : KVd) : It := ⟨keyS x.km x.k, keyQ x.km x.n, valL x.vm x.v⟩
def tot (xs : List KVd) : Nat := (xs.map KVd.sz).sum
theorem tot_append (a b : List KVd) : tot (a ++ b) = tot a + tot b := by simp [tot]
theorem tot_take (xs : List KVd) (k : Nat) : tot (xs.take k) ≤ tot xs := by
  have := tot_append (xs.take k) (xs.drop k)
  rw [List.take_append_drop] at this; omega
theorem tot_succ (xs : List KVd) (k : Nat) (h : k < xs.length) : tot (xs.take (k + 1)) = tot (xs.take k) + xs[k].sz := by
  rw [List.take_succ_eq_append_getElem h, tot_append]; simp [tot]
/-- five cells at offset p of block g are the description x -/
def C5 (w : World) (g p : Nat) (x : KVd) : Prop := w.cell? ⟨g, p, none⟩ = some (.string x.k) ∧ w.cell? ⟨g, p + 1, none⟩ = some (.int .i64 x.km) ∧ w.cell? ⟨g, p + 2, none⟩ = some (.string x.n) ∧ w.cell? ⟨g, p + 3, none⟩ = some (.int .i64 x.vm) ∧ w.cell? ⟨g, p + 4, none⟩ = some (.string x.v)
/-- the slice's array lies below block B and reads as xs -/
def KvsAt (w : World) (B : Nat) (A : Option Addr) (xs : List KVd) : Prop := ∀ i x, xs[i]? = some x → ∃ g o, A = some ⟨g, o, none⟩ ∧ g < B ∧ C5 w g (o + i * 5) x
theorem C5.below {w w' : World} {B g p : Nat} {x : KVd} (hb : Below B w w') (hg : g < B) (h : C5 w g p x) : C5 w' g p x := by
  obtain ⟨h0, h1, h2, h3, h4⟩ := h
  exact ⟨(hb.cell (p := ⟨g, _, none⟩) hg).trans h0, (hb.cell (p := ⟨g, _, none⟩) hg).trans h1, (hb.cell (p := ⟨g, _, none⟩) hg).trans h2, (hb.cell (p := ⟨g, _, none⟩) hg).trans h3, (hb.cell (p := ⟨g, _, none⟩) hg).trans h4⟩
theorem KvsAt.below {w w' : World} {B : Nat} {A : Option Addr} {xs : List KVd} (hb : Below B w w') (h : KvsAt w B A xs) : KvsAt w' B A xs := fun i x hx => by
  obtain ⟨g, o, h1, h2, h3⟩ := h i x hx
  exact ⟨g, o, h1, h2, h3.below hb h2⟩
theorem KvsAt.mono {w : World} {B B' : Nat} {A : Option Addr} {xs : List KVd} (hB : B ≤ B') (h : KvsAt w B A xs) : KvsAt w B' A xs := fun i x hx => by
  obtain ⟨g, o, h1, h2, h3⟩ := h i x hx
  exact ⟨g, o, h1, Nat.lt_of_lt_of_le h2 hB, h3⟩
set_option maxHeartbeats 4000000 in
theorem zzs_model (A : Option Addr) (c B : Nat) (xs : List KVd) (w : World) (hx : KvsAt w B A xs) (hn : xs.length ≤ 9223372036854775807) :
    Calls Tryd.prog 23 #[.slice A xs.length c] w fun e w' => e = .returned (.bool (decide (xs.length + tot xs ≤ 1048576))) ∧ w = w' := by
  have HX := Lib.hid hx
  clear hx
  obtain ⟨P, hP⟩ : ∃ P : Bool, Hid (P = decide (xs.length + tot xs ≤ 1048576)) := ⟨_, Lib.hid rfl⟩
  rw [← hP.out]
  by_cases h0 : xs.length ≤ 1048576
  · go_enter Tryd.func23, Tryd.ntmps23
    go_wp2_with fail
    go_loop [3, 4] (fun s i => ∃ (m : Int) (j : Nat), i = .int .i64 j ∧ j ≤ xs.length ∧ s = .int .i64 m ∧ Hid (m = ((xs.length + tot (xs.take j) : Nat) : Int)) ∧ 0 ≤ m ∧ m ≤ 1048576) (fun _ i => xs.length - (intOf i).toNat)
    case atStart => exact ⟨xs.length, 0, rfl, by omega, rfl, by show _ = _; simp [tot], by omega, by omega⟩
    case round =>
      obtain ⟨m, j, rfl, hj, rfl, hm, hm0, hm1⟩ := hrel
      by_cases hlt : j < xs.length
      · obtain ⟨g, o, rfl, hg, c0, c1, c2, c3, c4⟩ := HX.out j _ (List.getElem?_eq_getElem hlt)
        have HS := Lib.hid (tot_succ xs j hlt)
        have HT := Lib.hid (tot_take xs (j + 1))
        obtain ⟨x, hxx⟩ : ∃ x, Hid (xs[j] = x) := ⟨_, Lib.hid rfl⟩
        have HS' : Hid (tot (xs.take (j + 1)) = tot (xs.take j) + (x.k.size + x.n.size + x.v.size)) := by have h := HS.out; rw [hxx.out] at h; exact h
        rw [hxx.out] at c0 c1 c2 c3 c4
        clear HS hxx
        go_wp2_with fail
        all_goals first
          | (go_round
             case rel => exact ⟨m + x.k.size + x.n.size + x.v.size, j + 1, by go_num, by omega, by go_num, (by show _ = _; have := HS'.out; have := hm.out; omega), by omega, by omega⟩
             case measure => simp [intOf]; omega)
          | (go_ret
             refine ⟨ret_bool ?_, rfl⟩
             rw [hP.out]; symm; apply decide_eq_false
             have := HS'.out; have := hm.out; have := HT.out; omega)
      · go_wp2_with fail
        go_ret
        refine ⟨ret_bool ?_, rfl⟩
        rw [hP.out]; symm; apply decide_eq_true
        have h1 := hm.out
        rw [List.take_of_length_le (by omega)] at h1
        omega
  · go_enter Tryd.func23, Tryd.ntmps23
    go_wp2_with fail
    go_ret
    refine ⟨ret_bool ?_, rfl⟩
    rw [hP.out]; symm; apply decide_eq_false; omega
end Go.Proofs.YtooalmhelfaodaaDoor
