/- The variable InvalidRef, out of what the row lays. -/
import Derived.Test.YtdmllmipcfkaaaaDoorRows
import Derived.Test.YtdmllmipcfkaaaaDoorTbs
import Derived.ChangeSame
import Derived.Deep.Slices
import Derived.Deep.Fields
import Derived.Handy
import Derived.Lay
import Derived.SevenTiedAt
namespace Go.Proofs.YtdmllmipcfkaaaaDoor
open Go.RowKit Go.ChangeShapes Go.WideShapes Go.Deep
set_option linter.unusedVariables false
set_option linter.unusedSimpArgs false

theorem gI : Tryd.prog.globalNamed "github.com/evanw/esbuild/internal/ast.InvalidRef" = some 0 := by kernel_rfl
theorem gIT : (Tryd.prog.globals[0]?).map (·.type) = some 44 := by kernel_rfl
theorem inv_of {w : World} (h : laidMetH Tryd.prog [("github.com/evanw/esbuild/internal/ast.InvalidRef", Rows.laid_github_com_evanw_esbuild_internal_ast_InvalidRef)] w) : Inv w := by
  rw [MakeChecks.laidMetH_plain _ _ _ (by kernel_rfl)] at h
  obtain ⟨ps, ⟨g0, t0, cs0, f0, p0, q0, hg0, ht0, hv0, hd0, _, e0⟩, _, hrows⟩ := h
  obtain rfl := Option.some.inj (gI.symm.trans hg0)
  obtain rfl := Option.some.inj (gIT.symm.trans ht0)
  obtain ⟨y0, y1, n, hx, hlen, h0, h1⟩ := trod_struct2 Tryd.underlying44 hd0
  obtain ⟨l⟩ := cs0
  have hc2 : Tryd.prog.cellsOf 44 = 2 := by kernel_rfl
  rw [hc2] at hlen
  match l, hlen with
  | [c0, c1], _ =>
    have k36 : Tryd.prog.cellsOf 24 = 1 := by kernel_rfl
    obtain ⟨n0, e0', r0, _⟩ := DataW.trod_int Tryd.underlying24 (by simpa [k36] using h0)
    obtain ⟨n1, e1', r1, _⟩ := DataW.trod_int Tryd.underlying24 (by simpa [k36] using h1)
    simp only [List.cons.injEq, and_true] at e0' e1'
    subst e0'; subst e1'; subst r0; subst r1
    simp only [Rows.laid_github_com_evanw_esbuild_internal_ast_InvalidRef, Prod.mk.injEq, DataW.agg.injEq, List.cons.injEq, DataW.lit.injEq, Lit.int.injEq, true_and, and_true] at hx
    obtain ⟨⟨hx0, hx1⟩, _⟩ := hx
    subst hx0; subst hx1
    obtain ⟨⟨c, t, hb⟩, _⟩ := hrows 0 0 (by subst e0; simp [MemPlace.row])
    refine ⟨c, t, hb, ?_, ?_⟩
    · rw [← cell_of_row w 0 0 c t (0, 0) hb, World.var?_cell gI hv0 0]; rfl
    · rw [← cell_of_row w 0 1 c t (0, 0) hb, World.var?_cell gI hv0 1]; rfl
end Go.Proofs.YtdmllmipcfkaaaaDoor
