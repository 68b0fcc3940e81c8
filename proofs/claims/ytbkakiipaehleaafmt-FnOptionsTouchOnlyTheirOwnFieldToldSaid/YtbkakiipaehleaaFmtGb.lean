/- The option functions of n001_70: contracts of the functions that the laws call. -/
import Derived.Test.YtbkakiipaehleaaFmtGa
import Derived.Laws.Shifts
namespace Go.Proofs.YtbkakiipaehleaaFmt
open Go.RowKit Go.MapKept Go.ChangeMaps
set_option maxRecDepth 100000
set_option linter.unusedVariables false
set_option linter.unusedSimpArgs false
/-- a compiler of its own block -/
def NewK (w : World) (e : Ending) (w' : World) : Prop := ∃ cc : Array Value, e = .returned (.pointer (some ⟨w.heap.size, 0, none⟩)) ∧ Blk w' w.heap.size 76 cc ∧ cc[0]? = some .nilIface ∧ cc[1]? = some .nilFunc ∧ cc[2]? = some (.slice none 0 0) ∧ cc[3]? = some (.map none) ∧ Below w.heap.size w w' ∧ w.heap.size < w'.heap.size
theorem newK (w : World) : Calls Tryf.prog 8 #[] w (NewK w) := by
  go_enter Tryf.func8, Tryf.ntmps8
  go_wp2_with fail
  go_ret
  exact ⟨_, rfl, Blk.new w _ _, rfl, rfl, rfl, rfl, (Below.refl _ _).alloc (Nat.le_refl _) _, by simp⟩
theorem valid_any (a b : Int) (w : World) : Calls Tryf.prog 7 #[.int .i64 a, .int .i64 b] w fun e w' => e = .returned (.bool (decide (0 ≤ a ∧ a ≤ b ∧ b ≤ 30))) ∧ w = w' := by
  by_cases h1 : 0 ≤ a
  · by_cases h2 : a ≤ b
    · by_cases h3 : b ≤ 30
      · go_enter Tryf.func7, Tryf.ntmps7
        go_wp2_with fail
        go_ret
        exact ⟨by simp [h1, h2, h3], rfl⟩
      · go_enter Tryf.func7, Tryf.ntmps7
        go_wp2_with fail
        go_ret
        exact ⟨by simp [h1, h2, h3], rfl⟩
    · go_enter Tryf.func7, Tryf.ntmps7
      go_wp2_with fail
      go_ret
      exact ⟨by simp [h1, h2]; omega, rfl⟩
  · go_enter Tryf.func7, Tryf.ntmps7
    go_wp2_with fail
    go_ret
    exact ⟨by simp [h1]; omega, rfl⟩
/-- what the option holds -/
structure Opt (w : World) (s : ByteArray) (a : Nat) (p q r t : Nat) : Prop where
  p : Blk w p 9 #[.string s]
  q : Blk w q 4 #[.bool false]
  r : Blk w r 3 #[.int .i64 a]
  t : Blk w t 77 #[.nilFunc]
def Made (s : ByteArray) (a : Nat) (w : World) (e : Ending) (w' : World) : Prop :=
  ∃ p q r t, e = .returned (.func (.func 30) #[] #[.pointer (some ⟨p, 0, none⟩), .pointer (some ⟨q, 0, none⟩), .pointer (some ⟨r, 0, none⟩), .pointer (some ⟨t, 0, none⟩)]) ∧ Opt w' s a p q r t ∧ Below w.heap.size w w'
theorem ar_wrap (lo hi : Nat) (h : lo ≤ hi) (h30 : hi ≤ 30) : wrap64 (wrap64 (2 ^ (hi + 1)) - wrap64 (2 ^ lo)) = ((ar lo hi : Nat) : Int) := by
  have h1 : 2 ^ (hi + 1) ≤ 2 ^ 31 := Nat.pow_le_pow_right (by decide) (by omega)
  have h2 : 2 ^ lo ≤ 2 ^ hi := Nat.pow_le_pow_right (by decide) h
  have h4 : 2 ^ (hi + 1) = 2 * 2 ^ hi := by rw [Nat.pow_succ]; omega
  have h3 : (2 : Nat) ^ 31 = 2147483648 := by decide
  have e1 : (2 : Int) ^ (hi + 1) = ((2 ^ (hi + 1) : Nat) : Int) := by simp
  have e2 : (2 : Int) ^ lo = ((2 ^ lo : Nat) : Int) := by simp
  rw [e1, e2]
  unfold ar
  generalize 2 ^ (hi + 1) = x at *
  generalize 2 ^ lo = y at *
  generalize 2 ^ hi = z at *
  have w1 : wrap64 (x : Int) = x := by unfold wrap64; omega
  have w2 : wrap64 (y : Int) = y := by unfold wrap64; omega
  rw [w1, w2]
  unfold wrap64
  omega
theorem made_of (w : World) (s : ByteArray) (lo hi : Nat) : Made s (ar lo hi) w (.returned (.func (.func 30) #[] #[.pointer (some ⟨w.heap.size, 0, none⟩), .pointer (some ⟨w.heap.size + 1, 0, none⟩), .pointer (some ⟨w.heap.size + 1 + 1 + 1, 0, none⟩), .pointer (some ⟨w.heap.size + 1 + 1, 0, none⟩)]))
    ((((w.alloc (.cells #[.string s] 9)).alloc (.cells #[.bool false] 4)).alloc (.cells #[.nilFunc] 77)).alloc (.cells #[.int .i64 ((ar lo hi : Nat) : Int)] 3)).drew :=
  ⟨_, _, _, _, rfl, ⟨(((Blk.new w _ _).alloc _).alloc _).alloc _, ((Blk.at_ _ _ (by simp)).alloc _).alloc _, Blk.at_ _ _ (by simp), (Blk.at_ _ _ (by simp)).alloc _⟩, (((((Below.refl _ _).alloc (Nat.le_refl _) _).alloc (by simp) _).alloc (by simp; omega) _).alloc (by simp; omega) _).drew⟩
set_option maxHeartbeats 4000000 in
theorem with25 (s : ByteArray) (lo hi : Nat) (w : World) (h : lo ≤ hi) (h30 : hi ≤ 30) :
    Calls Tryf.prog 25 #[.string s, .int .i64 lo, .int .i64 hi, .bool false, .nilFunc] w (Made s (ar lo hi) w) := by
  have i0 : (0 : Int) ≤ lo := by omega
  have i1 : (lo : Int) ≤ hi := by omega
  have i2 : (hi : Int) ≤ 30 := by omega
  go_enter Tryf.func25, Tryf.ntmps25
  go_wp2_with fail
  go_region
  all_goals
    go_wp2_with fail
    go_ret
    have hx := made_of w s lo hi
    rw [ar_wrap lo hi h h30]
    exact hx
theorem with10 (s : ByteArray) (lo hi : Nat) (w : World) (h : lo ≤ hi) (h30 : hi ≤ 30) :
    Calls Tryf.prog 10 #[.string s, .int .i64 lo, .int .i64 hi, .nilFunc] w (Made s (ar lo hi) w) := by
  have hc := Lib.hid (with25 s lo hi w h h30)
  go_enter Tryf.func10, Tryf.ntmps10
  go_wp2_with fail
  with_reducible refine (hc.out).mono ?_
  rintro e w1 ⟨p, q, r, t, rfl, h1, h2⟩
  go_wp2_with fail
  go_ret
  exact ⟨p, q, r, t, rfl, h1, h2⟩
theorem i64_and1 (n : Int) : bits .and .i64 n 1 = n % 2 := by
  have h1 : (BitVec.ofInt 64 1).toNat = 2 ^ 1 - 1 := by decide
  have key : (BitVec.ofInt 64 n &&& BitVec.ofInt 64 1).toNat = (n % ((2 ^ 64 : Nat) : Int)).toNat % 2 ^ 1 := by
    rw [BitVec.toNat_and, BitVec.toNat_ofInt, h1, Nat.and_two_pow_sub_one_eq_mod]
  show IntKind.i64.wrap ((BitVec.ofInt 64 n &&& BitVec.ofInt 64 1).toNat : Nat) = n % 2
  rw [key, IntKind.wrap_i64]
  omega
theorem bits_or_i64_nat (a b : Nat) (ha : a < 2147483648) (hb : b < 2147483648) : bits .or .i64 (a : Int) (b : Int) = ((a ||| b : Nat) : Int) := by
  have hx : a ||| b < 2 ^ 31 := Nat.or_lt_two_pow (by omega) (by omega)
  have h1 : (BitVec.ofInt 64 (a : Int)).toNat = a := by
    rw [BitVec.ofInt_natCast, BitVec.toNat_ofNat]; exact Nat.mod_eq_of_lt (by omega)
  have h2 : (BitVec.ofInt 64 (b : Int)).toNat = b := by
    rw [BitVec.ofInt_natCast, BitVec.toNat_ofNat]; exact Nat.mod_eq_of_lt (by omega)
  show IntKind.i64.wrap ((BitVec.ofInt 64 (a : Int) ||| BitVec.ofInt 64 (b : Int)).toNat : Int) = _
  rw [BitVec.toNat_or, h1, h2, IntKind.wrap_i64]
  omega
theorem bit_fact (m k : Nat) : (bits .and .i64 ((m : Int) / 2 ^ k) 1 == 1) = m.testBit k := by
  have e : ((m : Int) / 2 ^ k) = ((m / 2 ^ k : Nat) : Int) := by simp
  rw [i64_and1, e, Nat.testBit_eq_decide_div_mod_eq]
  have e2 : (((m / 2 ^ k : Nat) : Int) % 2) = ((m / 2 ^ k % 2 : Nat) : Int) := by omega
  rw [e2]
  by_cases h : m / 2 ^ k % 2 = 1
  · rw [h]; rfl
  · have h0 : m / 2 ^ k % 2 = 0 := by omega
    rw [h0]; rfl
set_option maxHeartbeats 8000000 in
theorem mask_any (m a b c d : Nat) (w : World) (hm : m < 2147483648) (hb : ∀ k, k ≤ 30 → m.testBit k = (decide (a ≤ k ∧ k ≤ b) || decide (c ≤ k ∧ k ≤ d))) :
    Calls Tryf.prog 13 #[.int .i64 m, .int .i64 a, .int .i64 b, .int .i64 c, .int .i64 d] w fun e w' => e = .returned (.bool true) ∧ w = w' := by
  have m0 : (0 : Int) ≤ m := by omega
  have m31 : (m : Int) / 2147483648 = 0 := by omega
  have HB := Lib.hid hb
  clear hb
  go_enter Tryf.func13, Tryf.ntmps13
  go_wp2_with fail
  go_loop [11] (fun x => ∃ k : Nat, x = .int .i64 k ∧ k ≤ 31) (fun x => 31 - (intOf x).toNat)
  case atStart => exact ⟨0, rfl, by omega⟩
  case round =>
    obtain ⟨k, rfl, hk⟩ := hrel
    by_cases hlt : k ≤ 30
    · have k0 : (0 : Int) ≤ k := by omega
      have k1 : (k : Int) ≤ 30 := by omega
      have eb := bit_fact m k
      rw [HB.out k hlt] at eb
      by_cases p1 : a ≤ k <;> by_cases p2 : k ≤ b <;> by_cases p3 : c ≤ k <;> by_cases p4 : k ≤ d <;> simp [p1, p2, p3, p4] at eb
      all_goals
        go_wp2_with fail
        go_round
        case rel => exact ⟨k + 1, by go_num, by omega⟩
        case measure => simp [intOf]; omega
    · go_wp2_with fail
      go_ret
      exact ⟨rfl, rfl⟩
end Go.Proofs.YtbkakiipaehleaaFmt
