/- From what a row lists of the package-level variables to what the contracts ask (VarsOK). -/
import Derived.Test.YtfpmnkmclbembaaDoorRows
import Derived.Test.YtfpmnkmclbembaaDoorFmt
import Derived.Lib.LaidU8
import Derived.Lib.LaidTab
import Derived.LaidLaws
import Derived.MakeChecks
set_option linter.unusedVariables false
namespace Go.Proofs.YtfpmnkmclbembaaDoorFmt
open Go.RowKit Go.ChangeShapes Go.Proofs.YtfpmnkmclbembaaDoor

theorem g64 : Tryd.prog.globalNamed "math/bits.deBruijn64tab" = some 5 := by kernel_rfl
theorem gSyn : Tryd.prog.globalNamed "strconv.ErrSyntax" = some 1 := by kernel_rfl
theorem gRan : Tryd.prog.globalNamed "strconv.ErrRange" = some 2 := by kernel_rfl
theorem t64 : (Tryd.prog.globals[5]?).map (·.type) = some 88 := by kernel_rfl
theorem tSyn : (Tryd.prog.globals[1]?).map (·.type) = some 47 := by kernel_rfl
theorem tRan : (Tryd.prog.globals[2]?).map (·.type) = some 47 := by kernel_rfl
theorem sentinel {P : Program} {W : World} {n nm : String} {d : DataW Unit} {g : Nat} {ti : TypeId} {ms : Array (String × TypeId)} (h : Lib.VarReads P W n (.iface nm d))
    (hg : P.globalNamed n = some g) (ht : (P.globals[g]?).map (·.type) = some ti) (hi : P.underlying ti = some (.interface ms)) : ∃ te pe, W.cell? ⟨g, 0, none⟩ = some (.iface te pe) := by
  obtain ⟨g0, t0, cs0, f0, p0, hg0, ht0, hv0, hd0⟩ := h
  obtain rfl := Option.some.inj (hg.symm.trans hg0)
  obtain rfl := Option.some.inj (ht.symm.trans ht0)
  obtain ⟨f1, u, v, hcs, _, _⟩ := iface_of_trod hi hd0
  refine ⟨u, v, ?_⟩
  have := World.var?_cell hg hv0 0
  rw [this, ← Array.getElem?_toList, hcs]; rfl
theorem tab {P : Program} {W : World} {n : String} {k : IntKind} {zs : List Int} {g : Nat} {t e : TypeId} {m : Nat} (h : Lib.VarReads P W n (Lib.tabData k zs))
    (hg : P.globalNamed n = some g) (hty : (P.globals[g]?).map (·.type) = some t) (ht : P.underlying t = some (.array m e)) (he : P.underlying e = some (.int k)) (hce : P.cellsOf e = 1) (hct : P.cellsOf t = m) :
    Lib.TabIs P W n k zs := by
  obtain ⟨g', t', cs, fuel, p, hg', ht', hvar, hd⟩ := h
  obtain rfl := Option.some.inj (hg.symm.trans hg')
  obtain rfl := Option.some.inj (hty.symm.trans ht')
  unfold Lib.TabIs
  rw [hvar, ← Lib.cells_of_tab ht he hce hct hd]
def zs64 : List Int := [0, 1, 56, 2, 57, 49, 28, 3, 61, 58, 42, 50, 38, 29, 17, 4, 62, 47, 59, 36, 45, 43, 51, 22, 53, 39, 33, 30, 24, 18, 12, 5, 63, 55, 48, 27, 60, 41, 37, 16, 46, 35, 44, 21, 52, 32, 23, 11, 54, 26, 40, 15, 34, 20, 31, 10, 25, 14, 19, 9, 13, 8, 7, 6]
theorem varsOK {l : List (String × DataW Unit)} {W : World} (h0 : laidMetH Tryd.prog l W) (hp : (l.all fun x => x.2.handleName?.isNone) = true)
    (h1 : ("math/bits.deBruijn64tab", Rows.laid_math_bits_deBruijn64tab) ∈ l) (h2 : ("strconv.ErrSyntax", Rows.laid_strconv_ErrSyntax) ∈ l) (h3 : ("strconv.ErrRange", Rows.laid_strconv_ErrRange) ∈ l) : VarsOK W := by
  rw [Go.MakeChecks.laidMetH_plain _ _ _ hp] at h0
  have r1 := Lib.laidMet.reads h0 h1
  have r2 := Lib.laidMet.reads h0 h2
  have r3 := Lib.laidMet.reads h0 h3
  refine ⟨?_, sentinel r2 gSyn tSyn Tryd.underlying47, sentinel r3 gRan tRan Tryd.underlying47⟩
  have := (tab (k := .u8) (zs := zs64) (show Lib.VarReads _ _ _ (Lib.tabData .u8 zs64) from r1) g64 t64 Tryd.underlying88 Tryd.underlying5 (by kernel_rfl) (by kernel_rfl)).cell g64 15 (by decide)
  exact this
end Go.Proofs.YtfpmnkmclbembaaDoorFmt
