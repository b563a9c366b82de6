/- What the rows' list of package-level tables gives: the table of math/bits holds what Go lays. -/
import Derived.Test.YtbikiibpjdiaaaaDoorTz
import Derived.Test.YtbikiibpjdiaaaaDoorRows
import Derived.LaidMore
import Derived.Test.YtbikiibpjdiaaaaDoorFB
import Derived.Test.YtbikiibpjdiaaaaDoorShelfQ
import Derived.Lib.LaidPrint
import Derived.Lib.LaidU8
import Derived.PinnedBridge
namespace Go.Proofs.YtbikiibpjdiaaaaDoor.Laid
open Go.RowKit
abbrev tabs : List (String × DataW Unit) := [("math/bits.deBruijn64tab", Rows.laid_math_bits_deBruijn64tab), ("unicode/utf8.acceptRanges", Rows.laid_unicode_utf8_acceptRanges), ("strconv.isGraphic", Rows.laid_strconv_isGraphic), ("strconv.isNotPrint16", Rows.laid_strconv_isNotPrint16), ("strconv.isNotPrint32", Rows.laid_strconv_isNotPrint32), ("strconv.isPrint16", Rows.laid_strconv_isPrint16), ("strconv.isPrint32", Rows.laid_strconv_isPrint32), ("unicode/utf8.first", Rows.laid_unicode_utf8_first)]
theorem plain {W : World} (h : laidMetH Tryd.prog tabs W) : laidMet Tryd.prog tabs W := by
 rw [MakeChecks.laidMetH_plain _ _ _ (by kernel_rfl)] at h
 exact h
theorem glob {W : World} (h : laidMetH Tryd.prog tabs W) : Tab.Glob W := by
 have h := plain h
 have hT : Lib.TabIs Tryd.prog W "math/bits.deBruijn64tab" .u8 (Lib.deBruijn64tab.map fun n : Nat => (n : Int)) :=
  Lib.tabIs_of_head (g := 0) (t := 69) (e := 5) (n := 64) (by kernel_rfl) (by kernel_rfl) (by kernel_rfl) Tryd.underlying5 (by kernel_rfl) (by kernel_rfl) h
 refine ⟨fun i hi => ?_⟩
 have := hT.cell (g := 0) (by kernel_rfl) i (by rw [List.length_map]; exact hi)
 rw [this]
 congr 2
 simp only [List.getD_eq_getElem?_getD, List.getElem?_map]
 have hl : Lib.deBruijn64tab.length = 64 := rfl
 rw [List.getElem?_eq_getElem (by omega)]
 rfl
end Go.Proofs.YtbikiibpjdiaaaaDoor.Laid
/- G, out of the rows' list of package-level tables: strconv.Quote answers what the shelf's plain function says. -/
namespace Go.Proofs.YtbikiibpjdiaaaaDoor.Laid
open Go.RowKit Go.Lib Go.Proofs.YtbikiibpjdiaaaaDoorW.PrintWords Go.Proofs.YtbikiibpjdiaaaaDoorW.PrintLast Go.Proofs.YtbikiibpjdiaaaaDoorW.PrintMore
open Go.Proofs.YtbikiibpjdiaaaaDoor.Err
/-- What strconv.Quote answers. -/
def goQ (s : ByteArray) : ByteArray := strOfNums (Lib.quoteZ Lib.goPrintTabs s)
theorem tab_below {g : Nat} {k : IntKind} {t : List Nat} {w w' : World} (h : Lib.TabSlice g k t w) (hb : Below w.heap.size w w') : Lib.TabSlice g k t w' := by
 obtain ⟨R, o, c, h1, h2⟩ := h
 exact ⟨R, o, c, pw_cell_below hb h1, fun j hj => pw_cell_below hb (h2 j hj)⟩
theorem prints {W : World} (h : laidMetH Tryd.prog tabs W) : Lib.PrintTabsAt 3 4 5 6 Lib.goPrintTabs W ∧ Lib.Utf8Tabs 1 2 W := by
 have hL := plain h
 have h16 : VarReads Tryd.prog W "strconv.isPrint16" (sliceData .u16 goPrintTabs.p16) := by
  rw [← Pinned.isPrint16_eq]
  exact Lib.laidMet.reads hL (.tail _ (.tail _ (.tail _ (.tail _ (.tail _ (.head _))))))
 have hn16 : VarReads Tryd.prog W "strconv.isNotPrint16" (sliceData .u16 goPrintTabs.n16) := by
  rw [← Pinned.isNotPrint16_eq]
  exact Lib.laidMet.reads hL (.tail _ (.tail _ (.tail _ (.head _))))
 have h32 : VarReads Tryd.prog W "strconv.isPrint32" (sliceData .u32 goPrintTabs.p32) := by
  rw [← Pinned.isPrint32_eq]
  exact Lib.laidMet.reads hL (.tail _ (.tail _ (.tail _ (.tail _ (.tail _ (.tail _ (.head _)))))))
 have hn32 : VarReads Tryd.prog W "strconv.isNotPrint32" (sliceData .u16 goPrintTabs.n32) := by
  rw [← Pinned.isNotPrint32_eq]
  exact Lib.laidMet.reads hL (.tail _ (.tail _ (.tail _ (.tail _ (.head _)))))
 have hf : VarReads Tryd.prog W "unicode/utf8.first" firstData := by
  rw [← Pinned.utf8First_eq]
  exact Lib.laidMet.reads hL (.tail _ (.tail _ (.tail _ (.tail _ (.tail _ (.tail _ (.tail _ (.head _))))))))
 have ha : VarReads Tryd.prog W "unicode/utf8.acceptRanges" acceptData := Lib.laidMet.reads hL (.tail _ (.head _))
 exact ⟨printTabs_of_reads (ρ := Tryd.lays177_ren) { Tryd.lays177 with } ⟨by kernel_rfl, by kernel_rfl, by kernel_rfl, by kernel_rfl, by kernel_rfl, by kernel_rfl, by kernel_rfl, by kernel_rfl, by kernel_rfl, by kernel_rfl⟩ h16 hn16 h32 hn32,
  utf8Tabs_of_reads (ρ := Tryd.lays177_ren) { Tryd.lays177 with } ⟨by kernel_rfl, by kernel_rfl, by kernel_rfl, by kernel_rfl, by kernel_rfl, by kernel_rfl, by kernel_rfl⟩ hf ha⟩
theorem g {W : World} (h : laidMetH Tryd.prog tabs W) : G goQ W := by
 obtain ⟨hT, hU⟩ := prints h
 refine ⟨glob h, fun s => ?_, fun c h0 h1 => ?_, by kernel_rfl, fun s w' hs hb => ?_⟩
 ·unfold goQ
  rw [strOfNums_size]
  unfold Lib.quoteZ
  rw [List.length_cons, List.length_append, List.length_singleton]
  omega
 ·unfold goQ
  rw [strOfNums_size]
  have h2 := Lib.quoteZ_length_le Lib.goPrintTabs (Utf8.encode c)
  have h3 := encode_size_le c
  omega
 ·exact Tryd.strconv_Quote Lib.goPrintTabs s w' (by omega) ⟨tab_below hT.1 hb, tab_below hT.2.1 hb, tab_below hT.2.2.1 hb, tab_below hT.2.2.2.1 hb, hT.2.2.2.2⟩ (Utf8Tabs_below hU hb)
end Go.Proofs.YtbikiibpjdiaaaaDoor.Laid
