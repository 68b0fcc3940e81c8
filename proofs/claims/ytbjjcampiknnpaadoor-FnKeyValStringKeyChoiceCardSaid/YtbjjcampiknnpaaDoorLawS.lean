/- The walk of FnEncodeStringSpec: true at every string. -/
import Derived.Test.YtbjjcampiknnpaaDoorEncG
import Derived.Test.YtbjjcampiknnpaaDoorMs
namespace Go.Proofs.YtbjjcampiknnpaaDoor
open Go.RowKit
set_option maxRecDepth 100000
set_option linter.unusedVariables false
set_option linter.unusedSimpArgs false
def quoted (s : ByteArray) : ByteArray := ⟨([34] ++ enc s.data.toList ++ [34]).toArray⟩
theorem zero_enc (w : World) : (zeroValue 53).run Tryd.prog w = .ok (.agg #[.nilIface, .int .u8 0, .int .u8 0, .int .u8 0, .int .u8 0, .int .u8 0, .int .u8 0, .int .u8 0, .int .u8 0, .int .u8 0, .int .u8 0, .int .u8 0, .int .u8 0, .int .u8 0, .int .u8 0, .int .u8 0, .int .u8 0, .int .u8 0, .int .u8 0, .int .u8 0, .int .u8 0, .int .u8 0, .int .u8 0, .int .u8 0, .int .u8 0, .int .u8 0, .int .u8 0, .int .u8 0, .int .u8 0, .int .u8 0, .int .u8 0, .int .u8 0, .int .u8 0, .int .u8 0, .int .u8 0, .int .u8 0, .int .u8 0, .int .u8 0, .int .u8 0, .int .u8 0, .int .u8 0, .int .u8 0, .int .u8 0, .int .u8 0, .int .u8 0, .int .u8 0, .int .u8 0, .int .u8 0, .int .u8 0, .int .u8 0, .int .u8 0, .int .u8 0, .int .u8 0, .int .u8 0, .int .u8 0, .int .u8 0, .int .u8 0, .int .u8 0, .int .u8 0, .int .u8 0, .int .u8 0, .int .u8 0, .int .u8 0, .int .u8 0, .int .u8 0]) w := by kernel_rfl
set_option maxHeartbeats 2000000 in
theorem zzEnc (s : ByteArray) (w : World) (hs : s.size ≤ 1048576) (hT : Lib.Utf8Tabs 0 1 w) :
    Calls Tryd.prog 11 #[.string s] w fun r w' => r = .returned (.string (quoted s)) ∧ Below w.heap.size w w' := by
  have h2 : 2 ≤ w.heap.size := by
    have h := World.block_lt_of_cell? w _ (hT.2 0 (by omega)).1
    have h' : 1 < w.heap.size := h
    omega
  have hb0 : Below w.heap.size w (w.alloc (.cells #[.pointer none, .slice none 0 0] 48)) := (Below.refl _ _).alloc (Nat.le_refl _) _
  have hE := Lib.hid fun (cs : Array Value) (h0 : cs[0]? = some (.iface 45 (.pointer (some ⟨w.heap.size, 0, none⟩)))) => encG w.heap.size w.heap.size (w.heap.size + 1) cs [] s ((w.alloc (.cells #[.pointer none, .slice none 0 0] 48)).alloc (.cells cs 53)) ((Bd.fresh w).alloc _) (by have h := Blk.new (w.alloc (.cells #[.pointer none, .slice none 0 0] 48)) 53 cs; rw [show (w.alloc (.cells #[.pointer none, .slice none 0 0] 48)).heap.size = w.heap.size + 1 by simp] at h; exact h) h0 (by omega) h2 (tabs_below h2 (hb0.alloc (by simp) _) hT) (by simp only [List.length_nil]; omega)
  have HB0 := Lib.hid hb0
  have hzv := fun W => zero_enc W
  clear hb0 hT
  go_enter Tryd.func11, Tryd.ntmps11
  go_wp2_with fail
  with_reducible refine (hE.out _ ?h0).mono ?_
  case h0 => rfl
  rintro e1 w1 ⟨rfl, h1, hb1⟩
  have HX := Lib.hid (h1.of_eq (l' := [34] ++ enc s.data.toList ++ [34]) (by simp))
  clear h1 hE
  go_wp2_with fail
  with_reducible refine (bStr _ _ _ _ HX.out).mono ?_
  rintro e2 w2 ⟨rfl, h2', hb2⟩
  go_wp2_with fail
  go_ret
  exact ⟨rfl, ((HB0.out.alloc (by simp) _).trans hb1).trans hb2⟩
theorem zzb64 (s : ByteArray) (w : World) : Calls Tryd.prog 10 #[.string s] w fun e w' => ∃ b : Bool, e = .returned (.bool b) ∧ w = w' := by
  go_enter Tryd.func10, Tryd.ntmps10
  go_wp2_with fail
  all_goals
    go_ret
    exact ⟨_, rfl, rfl⟩
set_option maxHeartbeats 2000000 in
theorem law_spec (s : ByteArray) (w : World) (hT : Lib.Utf8Tabs 0 1 w) :
    Calls Tryd.prog 3 #[.string s] w fun e w' => e = .returned (.bool true) ∧ Below w.heap.size w w' := by
  have hz := Lib.hid (zzb64 s w)
  have HT := Lib.hid hT
  clear hT
  go_enter Tryd.func3, Tryd.ntmps3
  go_wp2_with fail
  with_reducible refine (hz.out).mono ?_
  rintro e1 w1 ⟨b, rfl, rfl⟩
  cases b with
  | false =>
    go_wp2_with fail
    go_ret
    exact ⟨rfl, Below.refl _ _⟩
  | true =>
    by_cases hs : s.size ≤ 1048576
    · have h1 := Lib.hid (zzEnc s w hs HT.out)
      go_wp2_with fail
      with_reducible refine (h1.out).mono ?_
      rintro e2 w2 ⟨rfl, hb2⟩
      have h2 := Lib.hid (show Calls Tryd.prog 12 #[.string s] w2 (fun e w' => e = .returned (.string (quoted s)) ∧ Below w2.heap.size w2 w') from model_any s w2 hs)
      go_wp2_with fail
      with_reducible refine (h2.out).mono ?_
      rintro e3 w3 ⟨rfl, hb3⟩
      go_wp2_with fail
      go_ret
      exact ⟨by simp, hb2.trans (hb3.mono hb2.size)⟩
    · go_wp2_with fail
      go_ret
      exact ⟨rfl, Below.refl _ _⟩
end Go.Proofs.YtbjjcampiknnpaaDoor
