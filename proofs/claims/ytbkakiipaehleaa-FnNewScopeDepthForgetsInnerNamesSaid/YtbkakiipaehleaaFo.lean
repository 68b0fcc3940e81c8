/- A slice of bytes that came in, opened to natural numbers. -/
import Derived.Test.YtbkakiipaehleaaFd
import Derived.Test.YtbkakiipaehleaaOpenR
namespace Go.Proofs.Ytbkakiipaehleaa
open Go.ChangeShapes Go.WideShapes Go.RowKit
theorem u8_of_wf {x : Int} (h : (Lit.int .u8 x).wf = true) : 0 ≤ x ∧ x ≤ 255 := by
  unfold Lit.wf at h
  rw [Bool.and_eq_true, decide_eq_true_eq, decide_eq_true_eq] at h
  have e1 : IntKind.u8.min = 0 := by decide
  have e2 : IntKind.u8.max = 255 := by decide
  rw [e1, e2] at h
  exact h
theorem u8s_of {xs : List Int} (h : ∀ x ∈ xs, (Lit.int .u8 x).wf = true) : xs.map (Value.int .u8) = u8s (xs.map Int.toNat) ∧ ∀ k ∈ xs.map Int.toNat, k ≤ 255 := by
  constructor
  · unfold u8s
    rw [List.map_map]
    apply List.map_congr_left
    intro x hx
    have := u8_of_wf (h x hx)
    show Value.int .u8 x = Value.int .u8 ((x.toNat : Nat) : Int)
    rw [Int.toNat_of_nonneg this.1]
  · intro k hk
    obtain ⟨x, hx, rfl⟩ := List.mem_map.1 hk
    have := u8_of_wf (h x hx)
    omega
set_option maxRecDepth 100000 in
theorem open_u8s {H : Type} {enc : TypeId × Value → H} {W : World} {v : Value} {d : DataW H} {p : List MemPlace} {r : Reach} {b0 : Nat} {sp : Nat → Bool} {held : Bool}
    (hv : Value.okWide Try.prog W r b0 22 v) (h : DataW.Trod enc Try.prog W 0 sp held 22 v d p) : ∃ A c, ∃ ks : List Nat, v = .slice A ks.length c ∧ RdIn W A c (u8s ks) ∧ (∀ k ∈ ks, k ≤ 255) := by
  obtain ⟨A, c, xs, rfl, hin, hwf⟩ := open_intsR Try.underlying22 Try.underlying5 (by kernel_rfl) hv h
  obtain ⟨h1, h2⟩ := u8s_of hwf
  rw [h1] at hin
  exact ⟨A, c, xs.map Int.toNat, by rw [List.length_map], hin, h2⟩
end Go.Proofs.Ytbkakiipaehleaa
