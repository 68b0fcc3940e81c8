/- What buildKV makes, case by case; what kvModel says. -/
import Derived.Test.YtooalmhelfaodaaDoorKvb
namespace Go.Proofs.YtooalmhelfaodaaDoor
open Go.RowKit
set_option maxRecDepth 100000
set_option linter.unusedVariables false
theorem QIs.num_ (W : World) (s : ByteArray) (a B : Nat) (h : W.heap.size = a) (hB : a + 2 ≤ B) : QIs ((W.alloc (.cells (tcells 10 (.pointer none) (.pointer none) s ⟨#[]⟩) 139)).alloc (.cells (qcells a) 119)) B (a + 1) (.num s) :=
  ⟨by omega, a, Blk.at_ _ _ (by simp [h]), by omega, (Blk.at_ _ _ h).alloc _⟩
theorem QIs.num4 (W : World) (s : ByteArray) (o p : Obj) (a B : Nat) (h : W.heap.size = a) (hB : a + 2 ≤ B) : QIs ((((W.alloc (.cells (tcells 10 (.pointer none) (.pointer none) s ⟨#[]⟩) 139)).alloc (.cells (qcells a) 119)).alloc o).alloc p) B (a + 1) (.num s) :=
  ⟨by omega, a, ((Blk.at_ _ _ (by simp [h])).alloc _).alloc _, by omega, (((Blk.at_ _ _ h).alloc _).alloc _).alloc _⟩
theorem QIs.null_ (W : World) (a B : Nat) (h : W.heap.size = a) (hB : a + 2 ≤ B) : QIs ((W.alloc (.cells (tcells 3 (.pointer none) (.pointer none) ⟨#[]⟩ ⟨#[]⟩) 139)).alloc (.cells (qcells a) 119)) B (a + 1) .null :=
  ⟨by omega, a, Blk.at_ _ _ (by simp [h]), by omega, (Blk.at_ _ _ h).alloc _⟩
theorem QIs.tru_ (W : World) (a B : Nat) (h : W.heap.size = a) (hB : a + 2 ≤ B) : QIs ((W.alloc (.cells (tcells 4 (.pointer none) (.pointer none) ⟨#[]⟩ ⟨#[]⟩) 139)).alloc (.cells (qcells a) 119)) B (a + 1) .tru :=
  ⟨by omega, a, Blk.at_ _ _ (by simp [h]), by omega, (Blk.at_ _ _ h).alloc _⟩
theorem QIs.fls_ (W : World) (a B : Nat) (h : W.heap.size = a) (hB : a + 2 ≤ B) : QIs ((W.alloc (.cells (tcells 5 (.pointer none) (.pointer none) ⟨#[]⟩ ⟨#[]⟩) 139)).alloc (.cells (qcells a) 119)) B (a + 1) .fls :=
  ⟨by omega, a, Blk.at_ _ _ (by simp [h]), by omega, (Blk.at_ _ _ h).alloc _⟩
theorem QIs.ident_ (W : World) (a B : Nat) (h : W.heap.size = a) (hB : a + 2 ≤ B) : QIs ((W.alloc (.cells (tcells 1 (.pointer none) (.pointer none) ⟨#[]⟩ ⟨#[]⟩) 139)).alloc (.cells (qcells a) 119)) B (a + 1) .ident :=
  ⟨by omega, a, Blk.at_ _ _ (by simp [h]), by omega, (Blk.at_ _ _ h).alloc _⟩
set_option maxHeartbeats 1000000 in
theorem buildKV_0_1 (k n v : ByteArray) (w : World) :
    Calls Tryd.prog 16 #[.agg #[.string k, .int .i64 0, .string n, .int .i64 1, .string v]] w (Made k n v 0 1 w) := by
  have eS : keyS 0 k = k := if_pos rfl
  have eQ : keyQ 0 n = none := if_neg (by decide)
  have eV : valL 1 v = some (.num v) := rfl
  unfold Made
  rw [eS, eQ, eV]
  clear eS eQ eV
  go_enter Tryd.func16, Tryd.ntmps16
  go_wp2_with (first | (go_at_call 52; ((with_reducible refine (numQ_any _ _).mono ?_); rintro e w' ⟨rfl, rfl⟩)) | (go_at_call 53; ((with_reducible refine (litQ_any _ _).mono ?_); rintro e w' ⟨rfl, rfl⟩)))
  go_ret
  exact ⟨w.heap.size + 1, rfl, by omega, ⟨by simp <;> omega, _, _, (((Blk.at_ _ _ (by simp)).alloc _).alloc _), rfl, ⟨rfl, _, rfl, QIs.num_ _ v _ _ (by simp) (by simp)⟩⟩, (((((Below.refl _ _).alloc (Nat.le_refl _) _).alloc (by simp <;> omega) _).alloc (by simp <;> omega) _).alloc (by simp <;> omega) _)⟩
set_option maxHeartbeats 1000000 in
theorem buildKV_0_2 (k n v : ByteArray) (w : World) :
    Calls Tryd.prog 16 #[.agg #[.string k, .int .i64 0, .string n, .int .i64 2, .string v]] w (Made k n v 0 2 w) := by
  have eS : keyS 0 k = k := if_pos rfl
  have eQ : keyQ 0 n = none := if_neg (by decide)
  have eV : valL 2 v = some .null := rfl
  unfold Made
  rw [eS, eQ, eV]
  clear eS eQ eV
  go_enter Tryd.func16, Tryd.ntmps16
  go_wp2_with (first | (go_at_call 52; ((with_reducible refine (numQ_any _ _).mono ?_); rintro e w' ⟨rfl, rfl⟩)) | (go_at_call 53; ((with_reducible refine (litQ_any _ _).mono ?_); rintro e w' ⟨rfl, rfl⟩)))
  go_ret
  exact ⟨w.heap.size + 1, rfl, by omega, ⟨by simp <;> omega, _, _, (((Blk.at_ _ _ (by simp)).alloc _).alloc _), rfl, ⟨rfl, _, rfl, QIs.null_ _ _ _ (by simp) (by simp)⟩⟩, (((((Below.refl _ _).alloc (Nat.le_refl _) _).alloc (by simp <;> omega) _).alloc (by simp <;> omega) _).alloc (by simp <;> omega) _)⟩
set_option maxHeartbeats 1000000 in
theorem buildKV_0_3 (k n v : ByteArray) (w : World) :
    Calls Tryd.prog 16 #[.agg #[.string k, .int .i64 0, .string n, .int .i64 3, .string v]] w (Made k n v 0 3 w) := by
  have eS : keyS 0 k = k := if_pos rfl
  have eQ : keyQ 0 n = none := if_neg (by decide)
  have eV : valL 3 v = some .tru := rfl
  unfold Made
  rw [eS, eQ, eV]
  clear eS eQ eV
  go_enter Tryd.func16, Tryd.ntmps16
  go_wp2_with (first | (go_at_call 52; ((with_reducible refine (numQ_any _ _).mono ?_); rintro e w' ⟨rfl, rfl⟩)) | (go_at_call 53; ((with_reducible refine (litQ_any _ _).mono ?_); rintro e w' ⟨rfl, rfl⟩)))
  go_ret
  exact ⟨w.heap.size + 1, rfl, by omega, ⟨by simp <;> omega, _, _, (((Blk.at_ _ _ (by simp)).alloc _).alloc _), rfl, ⟨rfl, _, rfl, QIs.tru_ _ _ _ (by simp) (by simp)⟩⟩, (((((Below.refl _ _).alloc (Nat.le_refl _) _).alloc (by simp <;> omega) _).alloc (by simp <;> omega) _).alloc (by simp <;> omega) _)⟩
set_option maxHeartbeats 1000000 in
theorem buildKV_0_4 (k n v : ByteArray) (w : World) :
    Calls Tryd.prog 16 #[.agg #[.string k, .int .i64 0, .string n, .int .i64 4, .string v]] w (Made k n v 0 4 w) := by
  have eS : keyS 0 k = k := if_pos rfl
  have eQ : keyQ 0 n = none := if_neg (by decide)
  have eV : valL 4 v = some .fls := rfl
  unfold Made
  rw [eS, eQ, eV]
  clear eS eQ eV
  go_enter Tryd.func16, Tryd.ntmps16
  go_wp2_with (first | (go_at_call 52; ((with_reducible refine (numQ_any _ _).mono ?_); rintro e w' ⟨rfl, rfl⟩)) | (go_at_call 53; ((with_reducible refine (litQ_any _ _).mono ?_); rintro e w' ⟨rfl, rfl⟩)))
  go_ret
  exact ⟨w.heap.size + 1, rfl, by omega, ⟨by simp <;> omega, _, _, (((Blk.at_ _ _ (by simp)).alloc _).alloc _), rfl, ⟨rfl, _, rfl, QIs.fls_ _ _ _ (by simp) (by simp)⟩⟩, (((((Below.refl _ _).alloc (Nat.le_refl _) _).alloc (by simp <;> omega) _).alloc (by simp <;> omega) _).alloc (by simp <;> omega) _)⟩
set_option maxHeartbeats 1000000 in
theorem buildKV_0_5 (k n v : ByteArray) (w : World) :
    Calls Tryd.prog 16 #[.agg #[.string k, .int .i64 0, .string n, .int .i64 5, .string v]] w (Made k n v 0 5 w) := by
  have eS : keyS 0 k = k := if_pos rfl
  have eQ : keyQ 0 n = none := if_neg (by decide)
  have eV : valL 5 v = some .ident := rfl
  unfold Made
  rw [eS, eQ, eV]
  clear eS eQ eV
  go_enter Tryd.func16, Tryd.ntmps16
  go_wp2_with (first | (go_at_call 52; ((with_reducible refine (numQ_any _ _).mono ?_); rintro e w' ⟨rfl, rfl⟩)) | (go_at_call 53; ((with_reducible refine (litQ_any _ _).mono ?_); rintro e w' ⟨rfl, rfl⟩)))
  go_ret
  exact ⟨w.heap.size + 1, rfl, by omega, ⟨by simp <;> omega, _, _, (((Blk.at_ _ _ (by simp)).alloc _).alloc _), rfl, ⟨rfl, _, rfl, QIs.ident_ _ _ _ (by simp) (by simp)⟩⟩, (((((Below.refl _ _).alloc (Nat.le_refl _) _).alloc (by simp <;> omega) _).alloc (by simp <;> omega) _).alloc (by simp <;> omega) _)⟩
set_option maxHeartbeats 1000000 in
theorem buildKV_0_vm (k n v : ByteArray) (w : World) (vm : Int) (v1 : vm ≠ 1) (v2 : vm ≠ 2) (v3 : vm ≠ 3) (v4 : vm ≠ 4) (v5 : vm ≠ 5) :
    Calls Tryd.prog 16 #[.agg #[.string k, .int .i64 0, .string n, .int .i64 vm, .string v]] w (Made k n v 0 vm w) := by
  have eS : keyS 0 k = k := if_pos rfl
  have eQ : keyQ 0 n = none := if_neg (by decide)
  have eV : valL vm v = none := by unfold valL; rw [if_neg v1, if_neg v2, if_neg v3, if_neg v4, if_neg v5]
  unfold Made
  rw [eS, eQ, eV]
  clear eS eQ eV
  go_enter Tryd.func16, Tryd.ntmps16
  go_wp2_with (first | (go_at_call 52; ((with_reducible refine (numQ_any _ _).mono ?_); rintro e w' ⟨rfl, rfl⟩)) | (go_at_call 53; ((with_reducible refine (litQ_any _ _).mono ?_); rintro e w' ⟨rfl, rfl⟩)))
  go_ret
  exact ⟨w.heap.size + 1, rfl, by omega, ⟨by simp <;> omega, _, _, (Blk.at_ _ _ (by simp)), rfl, rfl⟩, (((Below.refl _ _).alloc (Nat.le_refl _) _).alloc (by simp <;> omega) _)⟩
set_option maxHeartbeats 1000000 in
theorem buildKV_1_1 (k n v : ByteArray) (w : World) :
    Calls Tryd.prog 16 #[.agg #[.string k, .int .i64 1, .string n, .int .i64 1, .string v]] w (Made k n v 1 1 w) := by
  have eS : keyS 1 k = ⟨#[]⟩ := if_neg (by decide)
  have eQ : keyQ 1 n = some (.num n) := if_pos rfl
  have eV : valL 1 v = some (.num v) := rfl
  unfold Made
  rw [eS, eQ, eV]
  clear eS eQ eV
  go_enter Tryd.func16, Tryd.ntmps16
  go_wp2_with (first | (go_at_call 52; ((with_reducible refine (numQ_any _ _).mono ?_); rintro e w' ⟨rfl, rfl⟩)) | (go_at_call 53; ((with_reducible refine (litQ_any _ _).mono ?_); rintro e w' ⟨rfl, rfl⟩)))
  go_ret
  exact ⟨w.heap.size + 1, rfl, by omega, ⟨by simp <;> omega, _, _, (((((Blk.at_ _ _ (by simp)).alloc _).alloc _).alloc _).alloc _), ⟨rfl, _, rfl, QIs.num4 _ n _ _ _ _ (by simp) (by simp)⟩, ⟨rfl, _, rfl, QIs.num_ _ v _ _ (by simp) (by simp)⟩⟩, (((((((Below.refl _ _).alloc (Nat.le_refl _) _).alloc (by simp <;> omega) _).alloc (by simp <;> omega) _).alloc (by simp <;> omega) _).alloc (by simp <;> omega) _).alloc (by simp <;> omega) _)⟩
set_option maxHeartbeats 1000000 in
theorem buildKV_1_2 (k n v : ByteArray) (w : World) :
    Calls Tryd.prog 16 #[.agg #[.string k, .int .i64 1, .string n, .int .i64 2, .string v]] w (Made k n v 1 2 w) := by
  have eS : keyS 1 k = ⟨#[]⟩ := if_neg (by decide)
  have eQ : keyQ 1 n = some (.num n) := if_pos rfl
  have eV : valL 2 v = some .null := rfl
  unfold Made
  rw [eS, eQ, eV]
  clear eS eQ eV
  go_enter Tryd.func16, Tryd.ntmps16
  go_wp2_with (first | (go_at_call 52; ((with_reducible refine (numQ_any _ _).mono ?_); rintro e w' ⟨rfl, rfl⟩)) | (go_at_call 53; ((with_reducible refine (litQ_any _ _).mono ?_); rintro e w' ⟨rfl, rfl⟩)))
  go_ret
  exact ⟨w.heap.size + 1, rfl, by omega, ⟨by simp <;> omega, _, _, (((((Blk.at_ _ _ (by simp)).alloc _).alloc _).alloc _).alloc _), ⟨rfl, _, rfl, QIs.num4 _ n _ _ _ _ (by simp) (by simp)⟩, ⟨rfl, _, rfl, QIs.null_ _ _ _ (by simp) (by simp)⟩⟩, (((((((Below.refl _ _).alloc (Nat.le_refl _) _).alloc (by simp <;> omega) _).alloc (by simp <;> omega) _).alloc (by simp <;> omega) _).alloc (by simp <;> omega) _).alloc (by simp <;> omega) _)⟩
set_option maxHeartbeats 1000000 in
theorem buildKV_1_3 (k n v : ByteArray) (w : World) :
    Calls Tryd.prog 16 #[.agg #[.string k, .int .i64 1, .string n, .int .i64 3, .string v]] w (Made k n v 1 3 w) := by
  have eS : keyS 1 k = ⟨#[]⟩ := if_neg (by decide)
  have eQ : keyQ 1 n = some (.num n) := if_pos rfl
  have eV : valL 3 v = some .tru := rfl
  unfold Made
  rw [eS, eQ, eV]
  clear eS eQ eV
  go_enter Tryd.func16, Tryd.ntmps16
  go_wp2_with (first | (go_at_call 52; ((with_reducible refine (numQ_any _ _).mono ?_); rintro e w' ⟨rfl, rfl⟩)) | (go_at_call 53; ((with_reducible refine (litQ_any _ _).mono ?_); rintro e w' ⟨rfl, rfl⟩)))
  go_ret
  exact ⟨w.heap.size + 1, rfl, by omega, ⟨by simp <;> omega, _, _, (((((Blk.at_ _ _ (by simp)).alloc _).alloc _).alloc _).alloc _), ⟨rfl, _, rfl, QIs.num4 _ n _ _ _ _ (by simp) (by simp)⟩, ⟨rfl, _, rfl, QIs.tru_ _ _ _ (by simp) (by simp)⟩⟩, (((((((Below.refl _ _).alloc (Nat.le_refl _) _).alloc (by simp <;> omega) _).alloc (by simp <;> omega) _).alloc (by simp <;> omega) _).alloc (by simp <;> omega) _).alloc (by simp <;> omega) _)⟩
set_option maxHeartbeats 1000000 in
theorem buildKV_1_4 (k n v : ByteArray) (w : World) :
    Calls Tryd.prog 16 #[.agg #[.string k, .int .i64 1, .string n, .int .i64 4, .string v]] w (Made k n v 1 4 w) := by
  have eS : keyS 1 k = ⟨#[]⟩ := if_neg (by decide)
  have eQ : keyQ 1 n = some (.num n) := if_pos rfl
  have eV : valL 4 v = some .fls := rfl
  unfold Made
  rw [eS, eQ, eV]
  clear eS eQ eV
  go_enter Tryd.func16, Tryd.ntmps16
  go_wp2_with (first | (go_at_call 52; ((with_reducible refine (numQ_any _ _).mono ?_); rintro e w' ⟨rfl, rfl⟩)) | (go_at_call 53; ((with_reducible refine (litQ_any _ _).mono ?_); rintro e w' ⟨rfl, rfl⟩)))
  go_ret
  exact ⟨w.heap.size + 1, rfl, by omega, ⟨by simp <;> omega, _, _, (((((Blk.at_ _ _ (by simp)).alloc _).alloc _).alloc _).alloc _), ⟨rfl, _, rfl, QIs.num4 _ n _ _ _ _ (by simp) (by simp)⟩, ⟨rfl, _, rfl, QIs.fls_ _ _ _ (by simp) (by simp)⟩⟩, (((((((Below.refl _ _).alloc (Nat.le_refl _) _).alloc (by simp <;> omega) _).alloc (by simp <;> omega) _).alloc (by simp <;> omega) _).alloc (by simp <;> omega) _).alloc (by simp <;> omega) _)⟩
set_option maxHeartbeats 1000000 in
theorem buildKV_1_5 (k n v : ByteArray) (w : World) :
    Calls Tryd.prog 16 #[.agg #[.string k, .int .i64 1, .string n, .int .i64 5, .string v]] w (Made k n v 1 5 w) := by
  have eS : keyS 1 k = ⟨#[]⟩ := if_neg (by decide)
  have eQ : keyQ 1 n = some (.num n) := if_pos rfl
  have eV : valL 5 v = some .ident := rfl
  unfold Made
  rw [eS, eQ, eV]
  clear eS eQ eV
  go_enter Tryd.func16, Tryd.ntmps16
  go_wp2_with (first | (go_at_call 52; ((with_reducible refine (numQ_any _ _).mono ?_); rintro e w' ⟨rfl, rfl⟩)) | (go_at_call 53; ((with_reducible refine (litQ_any _ _).mono ?_); rintro e w' ⟨rfl, rfl⟩)))
  go_ret
  exact ⟨w.heap.size + 1, rfl, by omega, ⟨by simp <;> omega, _, _, (((((Blk.at_ _ _ (by simp)).alloc _).alloc _).alloc _).alloc _), ⟨rfl, _, rfl, QIs.num4 _ n _ _ _ _ (by simp) (by simp)⟩, ⟨rfl, _, rfl, QIs.ident_ _ _ _ (by simp) (by simp)⟩⟩, (((((((Below.refl _ _).alloc (Nat.le_refl _) _).alloc (by simp <;> omega) _).alloc (by simp <;> omega) _).alloc (by simp <;> omega) _).alloc (by simp <;> omega) _).alloc (by simp <;> omega) _)⟩
set_option maxHeartbeats 1000000 in
theorem buildKV_1_vm (k n v : ByteArray) (w : World) (vm : Int) (v1 : vm ≠ 1) (v2 : vm ≠ 2) (v3 : vm ≠ 3) (v4 : vm ≠ 4) (v5 : vm ≠ 5) :
    Calls Tryd.prog 16 #[.agg #[.string k, .int .i64 1, .string n, .int .i64 vm, .string v]] w (Made k n v 1 vm w) := by
  have eS : keyS 1 k = ⟨#[]⟩ := if_neg (by decide)
  have eQ : keyQ 1 n = some (.num n) := if_pos rfl
  have eV : valL vm v = none := by unfold valL; rw [if_neg v1, if_neg v2, if_neg v3, if_neg v4, if_neg v5]
  unfold Made
  rw [eS, eQ, eV]
  clear eS eQ eV
  go_enter Tryd.func16, Tryd.ntmps16
  go_wp2_with (first | (go_at_call 52; ((with_reducible refine (numQ_any _ _).mono ?_); rintro e w' ⟨rfl, rfl⟩)) | (go_at_call 53; ((with_reducible refine (litQ_any _ _).mono ?_); rintro e w' ⟨rfl, rfl⟩)))
  go_ret
  exact ⟨w.heap.size + 1, rfl, by omega, ⟨by simp <;> omega, _, _, (((Blk.at_ _ _ (by simp)).alloc _).alloc _), ⟨rfl, _, rfl, QIs.num_ _ n _ _ (by simp) (by simp)⟩, rfl⟩, (((((Below.refl _ _).alloc (Nat.le_refl _) _).alloc (by simp <;> omega) _).alloc (by simp <;> omega) _).alloc (by simp <;> omega) _)⟩
set_option maxHeartbeats 1000000 in
theorem buildKV_km_1 (k n v : ByteArray) (w : World) (km : Int) (k0 : km ≠ 0) (k1 : km ≠ 1) :
    Calls Tryd.prog 16 #[.agg #[.string k, .int .i64 km, .string n, .int .i64 1, .string v]] w (Made k n v km 1 w) := by
  have eS : keyS km k = ⟨#[]⟩ := if_neg k0
  have eQ : keyQ km n = none := if_neg k1
  have eV : valL 1 v = some (.num v) := rfl
  unfold Made
  rw [eS, eQ, eV]
  clear eS eQ eV
  go_enter Tryd.func16, Tryd.ntmps16
  go_wp2_with (first | (go_at_call 52; ((with_reducible refine (numQ_any _ _).mono ?_); rintro e w' ⟨rfl, rfl⟩)) | (go_at_call 53; ((with_reducible refine (litQ_any _ _).mono ?_); rintro e w' ⟨rfl, rfl⟩)))
  go_ret
  exact ⟨w.heap.size + 1, rfl, by omega, ⟨by simp <;> omega, _, _, (((Blk.at_ _ _ (by simp)).alloc _).alloc _), rfl, ⟨rfl, _, rfl, QIs.num_ _ v _ _ (by simp) (by simp)⟩⟩, (((((Below.refl _ _).alloc (Nat.le_refl _) _).alloc (by simp <;> omega) _).alloc (by simp <;> omega) _).alloc (by simp <;> omega) _)⟩
set_option maxHeartbeats 1000000 in
theorem buildKV_km_2 (k n v : ByteArray) (w : World) (km : Int) (k0 : km ≠ 0) (k1 : km ≠ 1) :
    Calls Tryd.prog 16 #[.agg #[.string k, .int .i64 km, .string n, .int .i64 2, .string v]] w (Made k n v km 2 w) := by
  have eS : keyS km k = ⟨#[]⟩ := if_neg k0
  have eQ : keyQ km n = none := if_neg k1
  have eV : valL 2 v = some .null := rfl
  unfold Made
  rw [eS, eQ, eV]
  clear eS eQ eV
  go_enter Tryd.func16, Tryd.ntmps16
  go_wp2_with (first | (go_at_call 52; ((with_reducible refine (numQ_any _ _).mono ?_); rintro e w' ⟨rfl, rfl⟩)) | (go_at_call 53; ((with_reducible refine (litQ_any _ _).mono ?_); rintro e w' ⟨rfl, rfl⟩)))
  go_ret
  exact ⟨w.heap.size + 1, rfl, by omega, ⟨by simp <;> omega, _, _, (((Blk.at_ _ _ (by simp)).alloc _).alloc _), rfl, ⟨rfl, _, rfl, QIs.null_ _ _ _ (by simp) (by simp)⟩⟩, (((((Below.refl _ _).alloc (Nat.le_refl _) _).alloc (by simp <;> omega) _).alloc (by simp <;> omega) _).alloc (by simp <;> omega) _)⟩
set_option maxHeartbeats 1000000 in
theorem buildKV_km_3 (k n v : ByteArray) (w : World) (km : Int) (k0 : km ≠ 0) (k1 : km ≠ 1) :
    Calls Tryd.prog 16 #[.agg #[.string k, .int .i64 km, .string n, .int .i64 3, .string v]] w (Made k n v km 3 w) := by
  have eS : keyS km k = ⟨#[]⟩ := if_neg k0
  have eQ : keyQ km n = none := if_neg k1
  have eV : valL 3 v = some .tru := rfl
  unfold Made
  rw [eS, eQ, eV]
  clear eS eQ eV
  go_enter Tryd.func16, Tryd.ntmps16
  go_wp2_with (first | (go_at_call 52; ((with_reducible refine (numQ_any _ _).mono ?_); rintro e w' ⟨rfl, rfl⟩)) | (go_at_call 53; ((with_reducible refine (litQ_any _ _).mono ?_); rintro e w' ⟨rfl, rfl⟩)))
  go_ret
  exact ⟨w.heap.size + 1, rfl, by omega, ⟨by simp <;> omega, _, _, (((Blk.at_ _ _ (by simp)).alloc _).alloc _), rfl, ⟨rfl, _, rfl, QIs.tru_ _ _ _ (by simp) (by simp)⟩⟩, (((((Below.refl _ _).alloc (Nat.le_refl _) _).alloc (by simp <;> omega) _).alloc (by simp <;> omega) _).alloc (by simp <;> omega) _)⟩
set_option maxHeartbeats 1000000 in
theorem buildKV_km_4 (k n v : ByteArray) (w : World) (km : Int) (k0 : km ≠ 0) (k1 : km ≠ 1) :
    Calls Tryd.prog 16 #[.agg #[.string k, .int .i64 km, .string n, .int .i64 4, .string v]] w (Made k n v km 4 w) := by
  have eS : keyS km k = ⟨#[]⟩ := if_neg k0
  have eQ : keyQ km n = none := if_neg k1
  have eV : valL 4 v = some .fls := rfl
  unfold Made
  rw [eS, eQ, eV]
  clear eS eQ eV
  go_enter Tryd.func16, Tryd.ntmps16
  go_wp2_with (first | (go_at_call 52; ((with_reducible refine (numQ_any _ _).mono ?_); rintro e w' ⟨rfl, rfl⟩)) | (go_at_call 53; ((with_reducible refine (litQ_any _ _).mono ?_); rintro e w' ⟨rfl, rfl⟩)))
  go_ret
  exact ⟨w.heap.size + 1, rfl, by omega, ⟨by simp <;> omega, _, _, (((Blk.at_ _ _ (by simp)).alloc _).alloc _), rfl, ⟨rfl, _, rfl, QIs.fls_ _ _ _ (by simp) (by simp)⟩⟩, (((((Below.refl _ _).alloc (Nat.le_refl _) _).alloc (by simp <;> omega) _).alloc (by simp <;> omega) _).alloc (by simp <;> omega) _)⟩
set_option maxHeartbeats 1000000 in
theorem buildKV_km_5 (k n v : ByteArray) (w : World) (km : Int) (k0 : km ≠ 0) (k1 : km ≠ 1) :
    Calls Tryd.prog 16 #[.agg #[.string k, .int .i64 km, .string n, .int .i64 5, .string v]] w (Made k n v km 5 w) := by
  have eS : keyS km k = ⟨#[]⟩ := if_neg k0
  have eQ : keyQ km n = none := if_neg k1
  have eV : valL 5 v = some .ident := rfl
  unfold Made
  rw [eS, eQ, eV]
  clear eS eQ eV
  go_enter Tryd.func16, Tryd.ntmps16
  go_wp2_with (first | (go_at_call 52; ((with_reducible refine (numQ_any _ _).mono ?_); rintro e w' ⟨rfl, rfl⟩)) | (go_at_call 53; ((with_reducible refine (litQ_any _ _).mono ?_); rintro e w' ⟨rfl, rfl⟩)))
  go_ret
  exact ⟨w.heap.size + 1, rfl, by omega, ⟨by simp <;> omega, _, _, (((Blk.at_ _ _ (by simp)).alloc _).alloc _), rfl, ⟨rfl, _, rfl, QIs.ident_ _ _ _ (by simp) (by simp)⟩⟩, (((((Below.refl _ _).alloc (Nat.le_refl _) _).alloc (by simp <;> omega) _).alloc (by simp <;> omega) _).alloc (by simp <;> omega) _)⟩
set_option maxHeartbeats 1000000 in
theorem buildKV_km_vm (k n v : ByteArray) (w : World) (km : Int) (k0 : km ≠ 0) (k1 : km ≠ 1) (vm : Int) (v1 : vm ≠ 1) (v2 : vm ≠ 2) (v3 : vm ≠ 3) (v4 : vm ≠ 4) (v5 : vm ≠ 5) :
    Calls Tryd.prog 16 #[.agg #[.string k, .int .i64 km, .string n, .int .i64 vm, .string v]] w (Made k n v km vm w) := by
  have eS : keyS km k = ⟨#[]⟩ := if_neg k0
  have eQ : keyQ km n = none := if_neg k1
  have eV : valL vm v = none := by unfold valL; rw [if_neg v1, if_neg v2, if_neg v3, if_neg v4, if_neg v5]
  unfold Made
  rw [eS, eQ, eV]
  clear eS eQ eV
  go_enter Tryd.func16, Tryd.ntmps16
  go_wp2_with (first | (go_at_call 52; ((with_reducible refine (numQ_any _ _).mono ?_); rintro e w' ⟨rfl, rfl⟩)) | (go_at_call 53; ((with_reducible refine (litQ_any _ _).mono ?_); rintro e w' ⟨rfl, rfl⟩)))
  go_ret
  exact ⟨w.heap.size + 1, rfl, by omega, ⟨by simp <;> omega, _, _, (Blk.at_ _ _ (by simp)), rfl, rfl⟩, (((Below.refl _ _).alloc (Nat.le_refl _) _).alloc (by simp <;> omega) _)⟩
theorem buildKV_any (k n v : ByteArray) (km vm : Int) (w : World) :
    Calls Tryd.prog 16 #[.agg #[.string k, .int .i64 km, .string n, .int .i64 vm, .string v]] w (Made k n v km vm w) := by
  rcases three km with rfl | rfl | ⟨k0, k1⟩
  · rcases six vm with rfl | rfl | rfl | rfl | rfl | ⟨v1, v2, v3, v4, v5⟩
    · exact buildKV_0_1 k n v w
    · exact buildKV_0_2 k n v w
    · exact buildKV_0_3 k n v w
    · exact buildKV_0_4 k n v w
    · exact buildKV_0_5 k n v w
    · exact buildKV_0_vm k n v w vm v1 v2 v3 v4 v5
  · rcases six vm with rfl | rfl | rfl | rfl | rfl | ⟨v1, v2, v3, v4, v5⟩
    · exact buildKV_1_1 k n v w
    · exact buildKV_1_2 k n v w
    · exact buildKV_1_3 k n v w
    · exact buildKV_1_4 k n v w
    · exact buildKV_1_5 k n v w
    · exact buildKV_1_vm k n v w vm v1 v2 v3 v4 v5
  · rcases six vm with rfl | rfl | rfl | rfl | rfl | ⟨v1, v2, v3, v4, v5⟩
    · exact buildKV_km_1 k n v w km k0 k1
    · exact buildKV_km_2 k n v w km k0 k1
    · exact buildKV_km_3 k n v w km k0 k1
    · exact buildKV_km_4 k n v w km k0 k1
    · exact buildKV_km_5 k n v w km k0 k1
    · exact buildKV_km_vm k n v w km k0 k1 vm v1 v2 v3 v4 v5
set_option maxHeartbeats 1000000 in
theorem keyText_0 (k n v : ByteArray) (vm : Int) (w : World) (hs : k.size + n.size + v.size ≤ 1048576) :
    Calls Tryd.prog 56 #[.agg #[.string k, .int .i64 0, .string n, .int .i64 vm, .string v]] w fun e w' => e = .returned (.string ⟨(outK (keyS 0 k) (keyQ 0 n) []).toArray⟩) ∧ Below w.heap.size w w' := by
  have e : (outK (keyS 0 k) (keyQ 0 n) []) = k.data.toList := by
    show outK k none [] = _
    by_cases hk : k.size = 0
    · obtain rfl := eq_empty hk; rfl
    · unfold outK; rw [if_pos hk]; rfl
  rw [e]
  clear e
  go_enter Tryd.func56, Tryd.ntmps56
  go_wp2
  go_ret
  exact ⟨ret_str (by rfl), (Below.refl _ _).alloc (Nat.le_refl _) _⟩
set_option maxHeartbeats 1000000 in
theorem keyText_1 (k n v : ByteArray) (vm : Int) (w : World) (hs : k.size + n.size + v.size ≤ 1048576) :
    Calls Tryd.prog 56 #[.agg #[.string k, .int .i64 1, .string n, .int .i64 vm, .string v]] w fun e w' => e = .returned (.string ⟨(outK (keyS 1 k) (keyQ 1 n) []).toArray⟩) ∧ Below w.heap.size w w' := by
  have e : (outK (keyS 1 k) (keyQ 1 n) []) = [40] ++ n.data.toList ++ [41] := by
    rfl
  rw [e]
  clear e
  go_enter Tryd.func56, Tryd.ntmps56
  go_wp2
  go_ret
  exact ⟨ret_str (by show ((⟨#[40]⟩ : ByteArray) ++ n ++ ⟨#[41]⟩).data.toList = [40] ++ n.data.toList ++ [41]; simp [ByteArray.data_append]), (Below.refl _ _).alloc (Nat.le_refl _) _⟩
set_option maxHeartbeats 1000000 in
theorem keyText_km (k n v : ByteArray) (vm : Int) (w : World) (km : Int) (k0 : km ≠ 0) (k1 : km ≠ 1) (hs : k.size + n.size + v.size ≤ 1048576) :
    Calls Tryd.prog 56 #[.agg #[.string k, .int .i64 km, .string n, .int .i64 vm, .string v]] w fun e w' => e = .returned (.string ⟨(outK (keyS km k) (keyQ km n) []).toArray⟩) ∧ Below w.heap.size w w' := by
  have e : (outK (keyS km k) (keyQ km n) []) = [] := by
    unfold keyS keyQ; rw [if_neg k0, if_neg k1]; rfl
  rw [e]
  clear e
  go_enter Tryd.func56, Tryd.ntmps56
  go_wp2
  go_ret
  exact ⟨ret_str (by rfl), (Below.refl _ _).alloc (Nat.le_refl _) _⟩
end Go.Proofs.YtooalmhelfaodaaDoor
