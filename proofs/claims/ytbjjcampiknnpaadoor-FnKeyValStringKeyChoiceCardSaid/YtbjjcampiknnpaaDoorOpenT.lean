/- The two tables of unicode/utf8, off the row's listed variables. -/
import Derived.Test.YtbjjcampiknnpaaDoorOpen
import Derived.Test.YtbjjcampiknnpaaDoorShelf
import Derived.Lib.LaidU8
namespace Go.Proofs.YtbjjcampiknnpaaDoor
open Go.ChangeShapes Go.WideShapes Go.RowKit
theorem first_eq : Rows.laid_unicode_utf8_first = Lib.firstData := by kernel_rfl
theorem accept_eq : (Rows.laid_unicode_utf8_acceptRanges : DataW Unit) = Lib.acceptData := by kernel_rfl
theorem tabs_of_laid {W : World} (hL : laidMetH Tryd.prog laidL W) : Lib.Utf8Tabs 0 1 W := by
  have h := hL
  rw [MakeChecks.laidMetH_plain _ _ _ (by kernel_rfl)] at h
  have h1 : Lib.VarReads Tryd.prog W "unicode/utf8.first" Lib.firstData := by rw [← first_eq]; exact Lib.laidMet.reads h (.tail _ (.head _))
  have h2 : Lib.VarReads Tryd.prog W "unicode/utf8.acceptRanges" Lib.acceptData := by rw [← accept_eq]; exact Lib.laidMet.reads h (.head _)
  exact utf8Tabs_of_reads (ρ := Tryd.lays260_ren) { Tryd.lays260 with } ⟨by kernel_rfl, by kernel_rfl, by kernel_rfl, by kernel_rfl, by kernel_rfl, by kernel_rfl, by kernel_rfl⟩ h1 h2
end Go.Proofs.YtbjjcampiknnpaaDoor
