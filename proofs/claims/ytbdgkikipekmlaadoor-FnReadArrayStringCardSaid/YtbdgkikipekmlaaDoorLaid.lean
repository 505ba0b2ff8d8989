/- What the rows' lists give: the tables of UTF-8, and that EOF is an error. No condition. -/
import Derived.Test.YtbdgkikipekmlaaDoorU8
import Derived.Test.YtbdgkikipekmlaaDoorVac
import Derived.LaidLaws
import GoSem.PinnedTables
namespace Go.Proofs.YtbdgkikipekmlaaDoor
set_option linter.unusedVariables false
set_option linter.unusedSimpArgs false
open Go.RowKit Go.Lib

abbrev Tabs (w : World) : Prop := Lib.Utf8Tabs (Tryd.laysValid_ren.g 3) (Tryd.laysValid_ren.g 4) w
theorem Tabs.keep0 {w w' : World} (h : Tabs w) (k : Ch No w w') : Tabs w' := Utf8Tabs_below h k.below
theorem valid_calls (s : ByteArray) (w : World) (hs : s.size ≤ 9223372036854775807) (hT : Tabs w) : Calls Tryd.prog 85 #[.string s] w (BoTo w) :=
  (Any.utf8_ValidString Tryd.laysValid s w hs hT).mono fun e w' ⟨h1, h2⟩ => ⟨_, h1, Ch.of_below h2⟩
theorem u8Extra : U8Extra Tryd.prog Tryd.laysValid_ren := ⟨by kernel_rfl, by kernel_rfl, by kernel_rfl, by kernel_rfl, by kernel_rfl, by kernel_rfl, by kernel_rfl⟩
/-- EOF is an error. -/
def Eof (w : World) : Prop := ∃ T v, w.cell? ⟨4, 0, none⟩ = some (.iface T v)
theorem Eof.keep0 {w w' : World} (h : Eof w) (k : Ch No w w') : Eof w' := by
  obtain ⟨T, v, h⟩ := h
  exact ⟨T, v, k.cell0 h⟩
theorem gEof : Tryd.prog.globalNamed "io.EOF" = some 4 := by kernel_rfl
theorem gEofT : (Tryd.prog.globals[4]?).map (·.type) = some 76 := by kernel_rfl
theorem eof_of_reads {w : World} {d : DataW Unit} {n : String} (h : VarReads Tryd.prog w "io.EOF" (.iface n d)) : Eof w := by
  obtain ⟨g, t, cs, fuel, p, hg, ht, hvar, hd⟩ := h
  obtain rfl := Option.some.inj (gEof.symm.trans hg)
  obtain rfl := Option.some.inj (gEofT.symm.trans ht)
  obtain ⟨_, T, v, hc, _, _⟩ := iface_of_trod Tryd.underlying76 hd
  have := World.var?_cell gEof hvar 0
  rw [show cs[0]? = some (.iface T v) by rw [← Array.getElem?_toList, hc]; rfl] at this
  exact ⟨T, v, this⟩
/-- What the walks are told. -/
def Lds (w : World) : Prop := Tabs w ∧ Eof w
theorem Lds.keep0 {w w' : World} (h : Lds w) (k : Ch No w w') : Lds w' := ⟨h.1.keep0 k, h.2.keep0 k⟩
theorem first_same : (Rows.laid_unicode_utf8_first : DataW Unit) = firstData := by kernel_rfl
theorem accept_same : (Rows.laid_unicode_utf8_acceptRanges : DataW Unit) = acceptData := by kernel_rfl
theorem lds_of_laid {w : World} (h : laidMetH Tryd.prog [("unicode/utf8.acceptRanges", Rows.laid_unicode_utf8_acceptRanges), ("io.EOF", Rows.laid_io_EOF), ("unicode/utf8.first", Rows.laid_unicode_utf8_first)] w) : Lds w := by
  have h' : laidMet Tryd.prog [("unicode/utf8.acceptRanges", Rows.laid_unicode_utf8_acceptRanges), ("io.EOF", Rows.laid_io_EOF), ("unicode/utf8.first", Rows.laid_unicode_utf8_first)] w := h
  have h1 := Go.Lib.laidMet.reads h' (n := "unicode/utf8.first") (d := Rows.laid_unicode_utf8_first) (by simp)
  have h2 := Go.Lib.laidMet.reads h' (n := "unicode/utf8.acceptRanges") (d := Rows.laid_unicode_utf8_acceptRanges) (by simp)
  have h3 := Go.Lib.laidMet.reads h' (n := "io.EOF") (d := Rows.laid_io_EOF) (by simp)
  rw [first_same] at h1
  rw [accept_same] at h2
  exact ⟨utf8Tabs_of_readsT (U8Types.of196 Tryd.laysValid) u8Extra h1 h2, eof_of_reads h3⟩
end Go.Proofs.YtbdgkikipekmlaaDoor
