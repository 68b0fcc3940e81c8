/- Plain lemmas on byte strings: two texts with one head are equal exactly when their tails are; two texts that differ at one of the first bytes differ. -/
import Derived.WalkKit
import Derived.ProofKit
namespace Go.Proofs.Ytdcehjglogfikaa
theorem toL (s : ByteArray) : s.toList = s.data.toList := ByteArray.toList_eq s
theorem cat_inj (p a b : ByteArray) : (((p ++ a).toList == (p ++ b).toList) == (a.toList == b.toList)) = true := by
  simp only [toL, ByteArray.data_append, Array.toList_append]
  by_cases h : a.data.toList = b.data.toList
  · simp [h]
  · have h2 : (p.data.toList ++ a.data.toList == p.data.toList ++ b.data.toList) = false := by rw [beq_eq_false_iff_ne]; intro hc; exact h (List.append_cancel_left hc)
    have h3 : (a.data.toList == b.data.toList) = false := by rw [beq_eq_false_iff_ne]; exact h
    rw [h2, h3]; rfl
theorem ret_bool {a b : Bool} (h : a = b) : Ending.returned (.bool a) = .returned (.bool b) := by rw [h]
/-- two texts differ when their k-th letters differ -/
theorem cat_ne (p q a b : List UInt8) (k : Nat) (x y : UInt8) (hp : p[k]? = some x) (hq : q[k]? = some y) (hxy : x ≠ y) : p ++ a ≠ q ++ b := by
  intro h
  have h1 : (p ++ a)[k]? = some x := by rw [List.getElem?_append_left (by have := List.getElem?_eq_some_iff.1 hp; exact this.1)]; exact hp
  have h2 : (q ++ b)[k]? = some y := by rw [List.getElem?_append_left (by have := List.getElem?_eq_some_iff.1 hq; exact this.1)]; exact hq
  rw [h, h2] at h1
  exact hxy (Option.some.inj h1).symm
end Go.Proofs.Ytdcehjglogfikaa
