/-
  The tables of unicode/utf8 off the listed variables. Conditions: none.
-/
import Derived.Test.YtfimnjdfchdldaaFmtRows
import Derived.Test.YtfimnjdfchdldaaFmtShelf
import Derived.Lib.LaidU8
namespace Go.Proofs.YtfimnjdfchdldaaFmt

theorem dataFirst : (Rows.laid_unicode_utf8_first : DataW Unit) = Lib.firstData := by kernel_rfl
theorem dataAccept : (Rows.laid_unicode_utf8_acceptRanges : DataW Unit) = Lib.acceptData := by kernel_rfl
theorem tabs_of_laid {W : World} (h : laidMet Tryf.prog [("unicode/utf8.acceptRanges", Rows.laid_unicode_utf8_acceptRanges), ("unicode/utf8.first", Rows.laid_unicode_utf8_first)] W) : Lib.Utf8Tabs 0 1 W :=
  utf8Tabs_of_reads (ρ := Tryf.lays260_ren) Tryf.lays260 ⟨by kernel_rfl, by kernel_rfl, by kernel_rfl, by kernel_rfl, by kernel_rfl, by kernel_rfl, by kernel_rfl⟩
    (Lib.laidMet.reads h (by rw [← dataFirst]; simp)) (Lib.laidMet.reads h (by rw [← dataAccept]; simp))
end Go.Proofs.YtfimnjdfchdldaaFmt
