/- From what a row lists of the package-level variables to what the contracts ask (VarsOK). -/
import Derived.Test.YtjemdgmihbmgeaaGreatDoorRows
import Derived.Test.YtjemdgmihbmgeaaGreatDoorFmt
import Derived.Test.YtjemdgmihbmgeaaGreatDoorShelf
import Derived.Lib.LaidU8
import Derived.Lib.LaidTab
import Derived.LaidLaws
import Derived.MakeChecks
set_option linter.unusedVariables false
namespace Go.Proofs.YtjemdgmihbmgeaaGreatDoorFmt
open Go.RowKit Go.ChangeShapes Go.Proofs.YtjemdgmihbmgeaaGreatDoor

theorem g64 : Tryz.prog.globalNamed "math/bits.deBruijn64tab" = some 9 := by kernel_rfl
theorem gSyn : Tryz.prog.globalNamed "strconv.ErrSyntax" = some 6 := by kernel_rfl
theorem gRan : Tryz.prog.globalNamed "strconv.ErrRange" = some 7 := by kernel_rfl
theorem t64 : (Tryz.prog.globals[9]?).map (·.type) = some 257 := by kernel_rfl
theorem tSyn : (Tryz.prog.globals[6]?).map (·.type) = some 104 := by kernel_rfl
theorem tRan : (Tryz.prog.globals[7]?).map (·.type) = some 104 := by kernel_rfl
theorem sentinel {P : Program} {W : World} {n nm : String} {d : DataW Unit} {g : Nat} {ti : TypeId} {ms : Array (String × TypeId)} (h : Lib.VarReads P W n (.iface nm d))
    (hg : P.globalNamed n = some g) (ht : (P.globals[g]?).map (·.type) = some ti) (hi : P.underlying ti = some (.interface ms)) : ∃ te pe, W.cell? ⟨g, 0, none⟩ = some (.iface te pe) := by
  obtain ⟨g0, t0, cs0, f0, p0, hg0, ht0, hv0, hd0⟩ := h
  obtain rfl := Option.some.inj (hg.symm.trans hg0)
  obtain rfl := Option.some.inj (ht.symm.trans ht0)
  obtain ⟨f1, u, v, hcs, _, _⟩ := iface_of_trod hi hd0
  refine ⟨u, v, ?_⟩
  have := World.var?_cell hg hv0 0
  rw [this, ← Array.getElem?_toList, hcs]; rfl
theorem tab {P : Program} {W : World} {n : String} {k : IntKind} {zs : List Int} {g : Nat} {t e : TypeId} {m : Nat} (h : Lib.VarReads P W n (Lib.tabData k zs))
    (hg : P.globalNamed n = some g) (hty : (P.globals[g]?).map (·.type) = some t) (ht : P.underlying t = some (.array m e)) (he : P.underlying e = some (.int k)) (hce : P.cellsOf e = 1) (hct : P.cellsOf t = m) :
    Lib.TabIs P W n k zs := by
  obtain ⟨g', t', cs, fuel, p, hg', ht', hvar, hd⟩ := h
  obtain rfl := Option.some.inj (hg.symm.trans hg')
  obtain rfl := Option.some.inj (hty.symm.trans ht')
  unfold Lib.TabIs
  rw [hvar, ← Lib.cells_of_tab ht he hce hct hd]
def zs64 : List Int := [0, 1, 56, 2, 57, 49, 28, 3, 61, 58, 42, 50, 38, 29, 17, 4, 62, 47, 59, 36, 45, 43, 51, 22, 53, 39, 33, 30, 24, 18, 12, 5, 63, 55, 48, 27, 60, 41, 37, 16, 46, 35, 44, 21, 52, 32, 23, 11, 54, 26, 40, 15, 34, 20, 31, 10, 25, 14, 19, 9, 13, 8, 7, 6]
-- MEMBERS 7
theorem gAsp : Tryz.prog.globalNamed "strings.asciiSpace" = some 0 := by kernel_rfl
theorem tAsp : (Tryz.prog.globals[0]?).map (·.type) = some 204 := by kernel_rfl
def zsAsp : List Int := (List.range 256).map fun c => if Lib.isSp (UInt8.ofNat c) then 1 else 0
theorem xU8 : U8Extra Tryz.prog Tryz.lays260_ren := { n3 := by kernel_rfl, n4 := by kernel_rfl, y3 := by kernel_rfl, y4 := by kernel_rfl, c5 := by kernel_rfl, c119 := by kernel_rfl, c138 := by kernel_rfl }
theorem xWh : WhiteExtra Tryz.prog Tryz.lays199_ren := { n6 := by kernel_rfl, y6 := by kernel_rfl, c3 := by kernel_rfl, c49 := by kernel_rfl, c193 := by kernel_rfl, c194 := by kernel_rfl, c196 := by kernel_rfl, c198 := by kernel_rfl }
theorem dAsp : Rows.laid_strings_asciiSpace = (Lib.tabData .u8 zsAsp : DataW Unit) := by kernel_rfl
theorem dFirst : Rows.laid_unicode_utf8_first = (Lib.firstData : DataW Unit) := by kernel_rfl
theorem dAcc : Rows.laid_unicode_utf8_acceptRanges = (Lib.acceptData : DataW Unit) := by kernel_rfl
theorem dWh : Rows.laid_unicode_White_Space = (Lib.whiteData : DataW Unit) := by kernel_rfl
theorem varsOK {l : List (String × DataW Unit)} {W : World} (h0 : laidMetH Tryz.prog l W) (hp : (l.all fun x => x.2.handleName?.isNone) = true)
    (h1 : ("math/bits.deBruijn64tab", Rows.laid_math_bits_deBruijn64tab) ∈ l) (h2 : ("strconv.ErrSyntax", Rows.laid_strconv_ErrSyntax) ∈ l) (h3 : ("strconv.ErrRange", Rows.laid_strconv_ErrRange) ∈ l)
    (h4 : ("strings.asciiSpace", Rows.laid_strings_asciiSpace) ∈ l) (h5 : ("unicode/utf8.first", Rows.laid_unicode_utf8_first) ∈ l) (h6 : ("unicode/utf8.acceptRanges", Rows.laid_unicode_utf8_acceptRanges) ∈ l) (h7 : ("unicode.White_Space", Rows.laid_unicode_White_Space) ∈ l) : VarsOK W := by
  rw [Go.MakeChecks.laidMetH_plain _ _ _ hp] at h0
  have r1 := Lib.laidMet.reads h0 h1
  have r2 := Lib.laidMet.reads h0 h2
  have r3 := Lib.laidMet.reads h0 h3
  have r4 := Lib.laidMet.reads h0 h4
  have r5 := Lib.laidMet.reads h0 h5
  have r6 := Lib.laidMet.reads h0 h6
  have r7 := Lib.laidMet.reads h0 h7
  rw [dAsp] at r4
  rw [dFirst] at r5
  rw [dAcc] at r6
  rw [dWh] at r7
  refine ⟨?_, sentinel r2 gSyn tSyn Tryz.underlying104, sentinel r3 gRan tRan Tryz.underlying104, fun c hc => ?_, utf8Tabs_of_reads Tryz.lays260 xU8 r5 r6, whiteTab_of_reads Tryz.lays199 xWh r7⟩
  · exact (tab (k := .u8) (zs := zs64) (show Lib.VarReads _ _ _ (Lib.tabData .u8 zs64) from r1) g64 t64 Tryz.underlying257 Tryz.underlying5 (by kernel_rfl) (by kernel_rfl)).cell g64 15 (by decide)
  · have h := (tab (k := .u8) (zs := zsAsp) r4 gAsp tAsp Tryz.underlying204 Tryz.underlying5 (by kernel_rfl) (by kernel_rfl)).cell gAsp c (by simp [zsAsp]; exact hc)
    rw [h]
    have hr : (List.range 256)[c]? = some c := List.getElem?_range hc
    simp [zsAsp, hr]
end Go.Proofs.YtjemdgmihbmgeaaGreatDoorFmt
