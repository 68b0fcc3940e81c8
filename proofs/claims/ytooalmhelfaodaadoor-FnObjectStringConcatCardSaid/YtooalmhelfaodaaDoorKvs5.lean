/- appendStr; objModel: the model's text. -/
import Derived.Test.YtooalmhelfaodaaDoorKvs4
import Derived.Laws.IdiomStrings
import Derived.Deep.AppendLies
namespace Go.Proofs.YtooalmhelfaodaaDoor
open Go.RowKit
set_option maxRecDepth 100000
set_option linter.unusedVariables false
def Appd (base n : Nat) (l : List UInt8) (w : World) (e : Ending) (w' : World) : Prop := ∃ v, e = .returned v ∧ w'.ownsRow base 5 1 v n (Lib.byteCells l) ∧ Below base w w'
set_option maxHeartbeats 2000000 in
theorem appendStr_any (base : Nat) (v : Value) (l : List UInt8) (s : ByteArray) (w : World) (hown : w.ownsRow base 5 1 v l.length (Lib.byteCells l)) (hb : base ≤ w.heap.size) (hl : l.length + s.size ≤ 1099511627776) :
    Calls Tryd.prog 60 #[v, .string s] w (Appd base (l.length + s.size) (l ++ s.data.toList) w) := by
  obtain ⟨i0, hi, hz0, hz1, hz2⟩ := info_parts infoByte
  have hs : s.size ≤ 9223372036854775807 := by omega
  go_enter Tryd.func60, Tryd.ntmps60
  go_wp2_with fail
  go_loopw [0, 5] (fun x i wr => ∃ k : Nat, i = .int .i64 k ∧ k ≤ s.size ∧ wr.ownsRow base 5 1 x (l.length + k) (Lib.byteCells (l ++ s.data.toList.take k)) ∧ Below base w wr) (fun _ i _ => s.size - (intOf i).toNat)
  case atStart => exact ⟨0, rfl, by omega, by simpa using hown, Below.refl _ _⟩
  case round =>
    clear hown
    obtain ⟨k, rfl, hk, hown, hbw⟩ := hrel
    have hbs : base ≤ wr.heap.size := Nat.le_trans hb hbw.size
    by_cases hlt : k < s.size
    · have HT : Hid (s.data.toList.take (k + 1) = s.data.toList.take k ++ [s[k]]) := by
        show _ = _
        rw [List.take_succ_eq_append_getElem (by rw [size_list]; exact hlt)]; rfl
      go_wp2_with (at_builtin; refine wpList_append_own _ rfl _ _ 56 rfl base 5 i0 (.int .u8 0) 1 1 Tryd.underlying56 hi hz0 hz1 hz2 rfl (by decide) _ _ _ rfl (hown.alloc _) ⟨wr.heap.size, 0, none⟩ 1 1 [.int .u8 (s[k].toNat : Int)] rfl rfl ?c1 ?c2 ?c3 ?c4 ?c5 ?_)
      case c1 =>
        intro j u hj
        match j, hj with
        | 0, hj => simp at hj; subst hj; simp [Addr.add]
      case c2 => intro u hu; simp at hu; subst hu; rfl
      case c3 => unfold maxLen; omega
      case c4 => omega
      case c5 => simp; omega
      intro v' w2 hown' hgrow _
      have hb2 : Below base w w2 := (hbw.alloc hbs _).grown hgrow (by simp; omega) (fun g hg => (hown.lt g hg).1)
      have HO := Lib.hid hown'
      clear hown' hown
      go_wp2_with fail
      go_roundw
      case rel =>
        refine ⟨k + 1, by go_num, by omega, ?_, hb2⟩
        rw [HT.out, ← List.append_assoc, Lib.byteCells_append]
        exact HO.out
      case measure => simp [intOf]; omega
    · have hk2 : k = s.size := by omega
      have HK := Lib.hid hk2
      clear hk2
      go_wp2_with fail
      go_ret
      have hk2 := HK.out
      subst hk2
      rw [List.take_of_length_le (by rw [size_list]; exact Nat.le_refl _)] at hown
      exact ⟨_, rfl, hown, hbw⟩
end Go.Proofs.YtooalmhelfaodaaDoor
