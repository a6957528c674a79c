/-
  The two tables of unicode/utf8, read off what a row lists.
-/
import Derived.Test.YthohpccmleodpaaFmtRows
import Derived.Test.YthohpccmleodpaaFmtShims
import Derived.Lib.LaidU8
import Derived.MakeChecks
namespace Go.Proofs.YthohpccmleodpaaFmt
open Go Go.RowKit Go.Shelf

theorem first_eq : Rows.laid_unicode_utf8_first = Lib.firstData := by kernel_rfl
theorem accept_eq : (Rows.laid_unicode_utf8_acceptRanges : DataW Unit) = Lib.acceptData := by kernel_rfl
theorem u8extra : U8Extra Tryf.prog Tryf.lays197_ren := ⟨by kernel_rfl, by kernel_rfl, by kernel_rfl, by kernel_rfl, by kernel_rfl, by kernel_rfl, by kernel_rfl⟩

theorem tabs_of_laid {l : List (String × DataW Unit)} {w : World} (hp : (l.all fun x => x.2.handleName?.isNone) = true) (h3 : ("unicode/utf8.first", Rows.laid_unicode_utf8_first) ∈ l) (h4 : ("unicode/utf8.acceptRanges", Rows.laid_unicode_utf8_acceptRanges) ∈ l) (h : laidMetH Tryf.prog l w) :
    Lib.Utf8Tabs 0 1 w := by
  rw [MakeChecks.laidMetH_plain _ _ _ hp] at h
  have r3 := Lib.laidMet.reads h h3
  have r4 := Lib.laidMet.reads h h4
  rw [first_eq] at r3
  rw [accept_eq] at r4
  exact utf8Tabs_of_reads (ρ := Tryf.lays197_ren) { Tryf.lays197 with } u8extra r3 r4

end Go.Proofs.YthohpccmleodpaaFmt
