/- The option functions of n001_70: bit masks; a map of string keys in memory, looked up and written. -/
import Derived.Test.YtbkakiipaehleaaFmtBlk
import Derived.MapKept
import Derived.Maps.OwnSet
import Derived.Laws.Shifts
import Derived.BigQuiet
import Derived.Deep.QuietTactic
import Derived.RegionTactic
import Derived.Deep.RegionLaw
namespace Go.Proofs.YtbkakiipaehleaaFmt
open Go.RowKit Go.MapKept Go.ChangeMaps
set_option maxRecDepth 100000
set_option linter.unusedVariables false
/-- the arities lo .. hi, a bit each -/
def ar (lo hi : Nat) : Nat := 2 ^ (hi + 1) - 2 ^ lo
theorem ar_bit (lo hi k : Nat) (h : lo ≤ hi) : (ar lo hi).testBit k = decide (lo ≤ k ∧ k ≤ hi) := by
  have e : ar lo hi = (2 ^ (hi + 1 - lo) - 1) * 2 ^ lo := by
    unfold ar
    rw [Nat.sub_mul, ← Nat.pow_add, Nat.one_mul]
    congr 2
    omega
  rw [e, Nat.testBit_mul_two_pow, Nat.testBit_two_pow_sub_one]
  by_cases h1 : lo ≤ k <;> by_cases h2 : k ≤ hi <;> simp [h1, h2] <;> omega
theorem ar_lt (lo hi : Nat) (h : hi ≤ 30) : ar lo hi < 2147483648 := by
  unfold ar
  have h1 : 2 ^ (hi + 1) ≤ 2 ^ 31 := Nat.pow_le_pow_right (by decide) (by omega)
  have h2 : 1 ≤ 2 ^ lo := Nat.one_le_two_pow
  have h3 : (2 : Nat) ^ 31 = 2147483648 := by decide
  omega
theorem zero80 (w : World) : (zeroValue 80).run Tryf.prog w = .ok (.agg #[.int .i64 0, .bool false, .nilFunc]) w := by kernel_rfl
section
variable {W : World} {B : Nat} {es : Array MapEntry} {clock : Nat}
theorem look_none (hb : W.heap[B]? = some (.map es clock)) (s : ByteArray) (hf : Instr.findNow .string (.string s) es.toList 0 = some none) :
    (Instr.lookup 47 (.map (some B)) (.string s) true).run Tryf.prog W = .ok (.tuple #[.agg #[.int .i64 0, .bool false, .nilFunc], .bool false]) W := by
  have hc : (Instr.checkKey es.isEmpty 10000 9 (.string s)).run Tryf.prog W = .ok () W := run_checkKey Tryf.underlying9 (by simp [IsKey]) _ 9999
  simp [Instr.lookup, run_underlying Tryf.underlying47, Go.MapKept.run_getObj_map hb, Result.andThen, hc, run_findKey Tryf.underlying9 hf]
theorem look_some (hb : W.heap[B]? = some (.map es clock)) (s : ByteArray) (i : Nat) (v : Value) (hf : Instr.findNow .string (.string s) es.toList 0 = some (some (i, v))) :
    (Instr.lookup 47 (.map (some B)) (.string s) true).run Tryf.prog W = .ok (.tuple #[v, .bool true]) W := by
  have hc : (Instr.checkKey es.isEmpty 10000 9 (.string s)).run Tryf.prog W = .ok () W := run_checkKey Tryf.underlying9 (by simp [IsKey]) _ 9999
  simp [Instr.lookup, run_underlying Tryf.underlying47, Go.MapKept.run_getObj_map hb, Result.andThen, hc, run_findKey Tryf.underlying9 hf]
theorem upd_none (hb : W.heap[B]? = some (.map es clock)) (s : ByteArray) (v : Value) (hf : Instr.findNow .string (.string s) es.toList 0 = some none) :
    (Instr.mapUpdate 47 (.map (some B)) (.string s) v).run Tryf.prog W = .ok () (setBlock W B (.map (es.push ⟨.string s, v, clock⟩) (clock + 1))) := by
  have hc : (Instr.checkKey false 10000 9 (.string s)).run Tryf.prog W = .ok () W := run_checkKey Tryf.underlying9 (by simp [IsKey]) _ 9999
  simp [Instr.mapUpdate, run_underlying Tryf.underlying47, Go.MapKept.run_getObj_map hb, Result.andThen, hc, run_findKey Tryf.underlying9 hf, Go.MapKept.run_setObj_map _ hb, setBlock]
theorem upd_some (hb : W.heap[B]? = some (.map es clock)) (s : ByteArray) (v v0 : Value) (i : Nat) (e : MapEntry) (hf : Instr.findNow .string (.string s) es.toList 0 = some (some (i, v0))) (he : es[i]? = some e) (hk : e.key = .string s) :
    (Instr.mapUpdate 47 (.map (some B)) (.string s) v).run Tryf.prog W = .ok () (setBlock W B (.map (es.modify i fun e => { e with key := .string s, val := v }) clock)) := by
  have hc : (Instr.checkKey false 10000 9 (.string s)).run Tryf.prog W = .ok () W := run_checkKey Tryf.underlying9 (by simp [IsKey]) _ 9999
  have hs : Instr.sameBits 10000 (.string s) (.string s) = true := by simp [Instr.sameBits, bytes_beq]
  simp [Instr.mapUpdate, run_underlying Tryf.underlying47, Go.MapKept.run_getObj_map hb, Result.andThen, hc, run_findKey Tryf.underlying9 hf, he, hk, Instr.keyThatStays, hs, Go.MapKept.run_setObj_map _ hb, setBlock]
end
theorem find_nil (s : ByteArray) : Instr.findNow .string (.string s) (#[] : Array MapEntry).toList 0 = some none := rfl
theorem same_yes (s : ByteArray) : Instr.sameNow .string (.string s) (.string s) = some true := by simp [Instr.sameNow, bytes_beq]
theorem same_no {s t : ByteArray} (h : s ≠ t) : Instr.sameNow .string (.string s) (.string t) = some false := by
  simp only [Instr.sameNow]
  cases hb : (s == t) with
  | false => rfl
  | true => exact absurd ((bytes_beq s t).1 hb) h
end Go.Proofs.YtbkakiipaehleaaFmt
