/- The laid table unicode.asciiFold, read at the dollar sign. -/
import Derived.Test.YtkglmacaecmhdaaDoorRows
import Derived.Test.YtkglmacaecmhdaaDoorEnt
import Derived.MakeChecks
import Derived.ProofKit
import Derived.OpenShut
import Derived.LaidMore
namespace Go.Proofs.YtkglmacaecmhdaaDoor
open Go.ChangeShapes Go.WideShapes Go.ChangeAt Go.RowKit
set_option linter.unusedVariables false
set_option maxRecDepth 100000 in
theorem fold_cell {W : World} (h : laidMetH Tryd.prog Rows.fnTopicNameRow.laid W) : W.cell? ⟨22, 36, none⟩ = some (.int .u16 36) := by
  rw [MakeChecks.laidMetH_plain _ _ _ (by kernel_rfl)] at h
  obtain ⟨ps, ⟨_, _, _, _, _, _, _, _, _, _, ⟨g, t, cs, fuel, p, q, hg, ht, hv, hd, _, _⟩, _⟩, _, _⟩ := h
  obtain rfl := Option.some.inj ((show Tryd.prog.globalNamed "unicode.asciiFold" = some 22 by kernel_rfl).symm.trans hg)
  obtain rfl := Option.some.inj ((show (Tryd.prog.globals[22]?).map (·.type) = some 204 by kernel_rfl).symm.trans ht)
  obtain ⟨xs, m, _, ex, _, hl, hel⟩ := DataW.trod_array Tryd.underlying204 hd
  have c5 : Tryd.prog.cellsOf 104 = 1 := by kernel_rfl
  have hE := hel 36 (by decide)
  rw [c5, Nat.mul_one, List.getElem?_eq_getElem (by omega)] at hE
  obtain ⟨z, e1, e2, _⟩ := DataW.trod_int Tryd.underlying104 hE
  have e4 : (xs.map (·.1))[36]? = some (.lit (.int .u16 36)) := by
    have e3 := (DataW.agg.inj (Prod.mk.inj ex).1).symm
    rw [e3]
    rfl
  rw [List.getElem?_map, List.getElem?_eq_getElem (by omega : 36 < xs.length), e2] at e4
  have hz : z = 36 := by
    simp only [Option.map_some, Option.some.injEq, DataW.lit.injEq, Lit.int.injEq, true_and] at e4
    exact e4
  rw [World.var?_cell hg hv 36, ← hz]
  have : cs.toList[36]? = some (.int .u16 z) := by
    have h0 : ((cs.toList.drop 36).take 1)[0]? = some (.int .u16 z) := by rw [e1]; rfl
    simpa using h0
  simpa using this
end Go.Proofs.YtkglmacaecmhdaaDoor
