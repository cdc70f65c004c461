/-
  What the listed tables of Go's library hold: just what strings.TrimSpace's contract asks. No condition: lemmas alone.
-/
import Derived.Test.YtlbmdhpbogmkbaaDoorFrameG
import Derived.Test.YtlbmdhpbogmkbaaDoorCgo
import Derived.Lib.LaidU8
import Derived.PinnedBridge
import Derived.MakeChecks
namespace Go.Proofs.YtlbmdhpbogmkbaaDoor
open Go.ChangeShapes Go.WideShapes Go.ChangeAt Go.RowKit Go.Lib

theorem acc_eq : (Rows.laid_unicode_utf8_acceptRanges : DataW Unit) = acceptData := by kernel_rfl
theorem white_eq : (Rows.laid_unicode_White_Space : DataW Unit) = whiteData := by kernel_rfl
theorem ascii_eq : (Rows.laid_strings_asciiSpace : DataW Unit) = tabData .u8 asciiSpaceTab := by kernel_rfl
theorem first_eq : Rows.laid_unicode_utf8_first = firstData := Pinned.utf8First_eq

abbrev listed : List (String × DataW Unit) := [("unicode/utf8.acceptRanges", Rows.laid_unicode_utf8_acceptRanges), ("unicode.White_Space", Rows.laid_unicode_White_Space), ("strings.asciiSpace", Rows.laid_strings_asciiSpace), ("unicode/utf8.first", Rows.laid_unicode_utf8_first)]

theorem xU8 : U8Extra Tryd.prog Tryd.lays260_ren := ⟨by kernel_rfl, by kernel_rfl, by kernel_rfl, by kernel_rfl, by kernel_rfl, by kernel_rfl, by kernel_rfl⟩
theorem xWhite : WhiteExtra Tryd.prog Tryd.lays199_ren := ⟨by kernel_rfl, by kernel_rfl, by kernel_rfl, by kernel_rfl, by kernel_rfl, by kernel_rfl, by kernel_rfl, by kernel_rfl⟩
theorem ascii_type : (Tryd.prog.globals[0]?).map (·.type) = some 34 := by kernel_rfl

theorem tabs_of_laid {W : World} (h : laidMet Tryd.prog listed W) : Tabs W := by
  have h1 := laidMet.reads h (n := "unicode/utf8.acceptRanges") (d := Rows.laid_unicode_utf8_acceptRanges) (by simp [listed])
  have h2 := laidMet.reads h (n := "unicode.White_Space") (d := Rows.laid_unicode_White_Space) (by simp [listed])
  have h3 := laidMet.reads h (n := "strings.asciiSpace") (d := Rows.laid_strings_asciiSpace) (by simp [listed])
  have h4 := laidMet.reads h (n := "unicode/utf8.first") (d := Rows.laid_unicode_utf8_first) (by simp [listed])
  rw [acc_eq] at h1
  rw [white_eq] at h2
  rw [ascii_eq] at h3
  rw [first_eq] at h4
  refine ⟨?_, utf8Tabs_of_reads Tryd.lays260 xU8 h4 h1, whiteTab_of_reads Tryd.lays199 xWhite h2⟩
  obtain ⟨g, t, cs, fuel, p, hg, hty, hvar, hd⟩ := h3
  obtain rfl := Option.some.inj (gSpace.symm.trans hg)
  obtain rfl := Option.some.inj (ascii_type.symm.trans hty)
  have hcs := cells_of_tab Tryd.underlying34 Tryd.underlying5 (by kernel_rfl) (by kernel_rfl) hd
  unfold TabIs
  rw [hvar, ← hcs]
end Go.Proofs.YtlbmdhpbogmkbaaDoor
