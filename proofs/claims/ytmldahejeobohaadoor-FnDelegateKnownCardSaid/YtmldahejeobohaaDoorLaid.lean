/- From what a row lists of the package-level variable EOF to what the contracts ask (VarsOK). -/
import Derived.Test.YtmldahejeobohaaDoorRows
import Derived.Test.YtmldahejeobohaaDoorFmt
import Derived.Lib.LaidU8
import Derived.Lib.LaidTab
import Derived.LaidLaws
import Derived.MakeChecks
set_option linter.unusedVariables false
namespace Go.Proofs.YtmldahejeobohaaDoorFmt
open Go.RowKit Go.ChangeShapes Go.Proofs.YtmldahejeobohaaDoor
theorem gE : Tryd.prog.globalNamed "pub-rubrication/pub/chroma.EOF" = some 0 := by kernel_rfl
theorem tE : (Tryd.prog.globals[0]?).map (·.type) = some 65 := by kernel_rfl
theorem varsOK {l : List (String × DataW Unit)} {W : World} (h0 : laidMetH Tryd.prog l W) (hp : (l.all fun x => x.2.handleName?.isNone) = true)
    (h1 : ("pub-rubrication/pub/chroma.EOF", Rows.laid_pub_rubrication_pub_chroma_EOF) ∈ l) (_ _ : True) : VarsOK W := by
  rw [Go.MakeChecks.laidMetH_plain _ _ _ hp] at h0
  obtain ⟨g', t', cs, fuel, p, hg', ht', hvar, hd⟩ := Lib.laidMet.reads h0 h1
  obtain rfl := Option.some.inj (gE.symm.trans hg')
  obtain rfl := Option.some.inj (tE.symm.trans ht')
  obtain ⟨xs, n, hx, hy, hlen, hxl, hf⟩ := DataW.trod_struct Tryd.underlying65 hd
  have hag : (DataW.agg [.lit (.int .i64 0), .lit (.string [])] : DataW Unit) = .agg (xs.map (·.1)) := (Prod.mk.inj hy).1
  injection hag with hxs
  obtain ⟨x0, x1, rfl⟩ : ∃ a b, xs = [a, b] := by
    match xs, hxl with
    | [a, b], _ => exact ⟨a, b, rfl⟩
  simp only [List.map_cons, List.map_nil, List.cons.injEq, and_true] at hxs
  obtain ⟨e0, e1⟩ := hxs
  have f0 := hf 0 _ rfl
  have f1 := hf 1 _ rfl
  obtain ⟨n0, hc0, hx0, _⟩ := DataW.trod_int Tryd.underlying63 f0
  obtain ⟨n1, hc1, hx1, _⟩ := DataW.trod_string Tryd.underlying9 f1
  have hl : cs.toList.length = 2 := hlen.trans (by kernel_rfl)
  obtain ⟨c0, c1, hcs⟩ : ∃ a b, cs.toList = [a, b] := by
    match hq : cs.toList, hl with
    | [a, b], _ => exact ⟨a, b, rfl⟩
  have k1 : Tryd.prog.cellsOf 63 = 1 := by kernel_rfl
  have k2 : Tryd.prog.cellsOf 9 = 1 := by kernel_rfl
  rw [hcs] at hc0 hc1
  replace hc0 : List.take (Tryd.prog.cellsOf 63) (List.drop 0 [c0, c1]) = [.int .i64 n0] := hc0
  replace hc1 : List.take (Tryd.prog.cellsOf 9) (List.drop 1 [c0, c1]) = [.string n1] := hc1
  rw [k1] at hc0
  rw [k2] at hc1
  replace hc0 : c0 = .int .i64 n0 := by simpa using hc0
  replace hc1 : c1 = .string n1 := by simpa using hc1
  rw [hx0] at e0
  rw [hx1] at e1
  injection e0 with e0
  injection e0 with _ e0
  injection e1 with e1
  injection e1 with e1
  have hn1 : n1 = ⟨#[]⟩ := by
    have : n1.data = #[] := by rw [← Array.toList_inj]; exact e1.symm
    cases n1; simp only at this; rw [this]
  refine ⟨?_, ?_⟩
  · rw [World.var?_cell gE hvar 0, ← Array.getElem?_toList, hcs, hc0, ← e0]; rfl
  · rw [World.var?_cell gE hvar 1, ← Array.getElem?_toList, hcs, hc1, hn1]; rfl
end Go.Proofs.YtmldahejeobohaaDoorFmt
