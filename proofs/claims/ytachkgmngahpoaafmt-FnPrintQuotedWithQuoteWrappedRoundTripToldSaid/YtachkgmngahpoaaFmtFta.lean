/- The tables of unicode/utf8 and of unicode.SimpleFold, out of what the row lays. -/
import Derived.Test.YtachkgmngahpoaaFmtRows
import Derived.Test.YtachkgmngahpoaaFmtShelf
import Derived.Test.YtachkgmngahpoaaFmtFld
import Derived.Lib.LaidU8T
import Derived.Lib.LaidCaseMet
import Derived.Handy
import Derived.Lay
import Derived.SevenTiedAt
namespace Go.Proofs.YtachkgmngahpoaaFmt
open Go.RowKit Go.Shelf Go.Lib
set_option linter.unusedVariables false
set_option linter.unusedSimpArgs false

def renU8 : Go.Shelf.Ren := ⟨fun n => n, fun | 119 => 77 | 138 => 80 | 139 => 81 | n => n, fun | 3 => 0 | 4 => 1 | n => n⟩
theorem typesU8 : Go.Proofs.U8Types Tryf.prog renU8 := ⟨Tryf.underlying5, Tryf.underlying77, Tryf.underlying80, Tryf.underlying81⟩
theorem extraU8 : Go.Proofs.U8Extra Tryf.prog renU8 := ⟨by kernel_rfl, by kernel_rfl, by kernel_rfl, by kernel_rfl, by kernel_rfl, by kernel_rfl, by kernel_rfl⟩
theorem first_eq : Rows.laid_unicode_utf8_first = firstData := by kernel_rfl
theorem accept_eq : (Rows.laid_unicode_utf8_acceptRanges : DataW Unit) = acceptData := by kernel_rfl
theorem asc_eq : (Rows.laid_unicode_asciiFold : DataW Unit) = tabData .u16 (ascT.map fun n : Nat => (n : Int)) := by kernel_rfl
theorem orb_eq : (Rows.laid_unicode_caseOrbit : DataW Unit) = .slice (orbT.map fun x => .agg ([(x.1 : Int), (x.2 : Int)].map fun z => .lit (.int .u16 z))) [] := by kernel_rfl
abbrev laid5 : List (String × DataW Unit) := [("unicode/utf8.acceptRanges", Rows.laid_unicode_utf8_acceptRanges), ("unicode.asciiFold", Rows.laid_unicode_asciiFold), ("unicode.caseOrbit", Rows.laid_unicode_caseOrbit), ("unicode.CaseRanges", Rows.laid_unicode_CaseRanges), ("unicode/utf8.first", Rows.laid_unicode_utf8_first)]
theorem tabs_of {w : World} (h : laidMetH Tryf.prog laid5 w) : Lib.Utf8Tabs 0 1 w := by
  rw [MakeChecks.laidMetH_plain _ _ _ (by kernel_rfl)] at h
  have h1 := Lib.laidMet.reads h (n := "unicode/utf8.first") (d := Rows.laid_unicode_utf8_first) (by simp)
  have h2 := Lib.laidMet.reads h (n := "unicode/utf8.acceptRanges") (d := Rows.laid_unicode_utf8_acceptRanges) (by simp)
  rw [first_eq] at h1
  rw [accept_eq] at h2
  exact utf8Tabs_of_readsT typesU8 extraU8 h1 h2
theorem c36 : Tryf.prog.cellsOf 36 = 1 := by kernel_rfl
theorem cArr : Tryf.prog.cellsOf 82 = 128 := by kernel_rfl
theorem cRow : Tryf.prog.cellsOf 85 = 2 := by kernel_rfl
theorem nAsc : Tryf.prog.globalNamed "unicode.asciiFold" = some 2 := by kernel_rfl
theorem nOrb : Tryf.prog.globalNamed "unicode.caseOrbit" = some 3 := by kernel_rfl
theorem yAsc : (Tryf.prog.globals[2]?).map (·.type) = some 82 := by kernel_rfl
theorem yOrb : (Tryf.prog.globals[3]?).map (·.type) = some 83 := by kernel_rfl
theorem orbLen : orbT.length = 94 := by kernel_rfl
theorem ascLen : ascT.length = 128 := by kernel_rfl
theorem asc_of {w : World} (h : VarReads Tryf.prog w "unicode.asciiFold" (tabData .u16 (ascT.map fun n : Nat => (n : Int)))) (c : Nat) (hc : c < 128) : w.cell? ⟨2, c, none⟩ = some (.int .u16 (ascT.getD c 0 : Nat)) := by
  obtain ⟨g, t, cs, fuel, p, hg, hty, hvar, hd⟩ := h
  obtain rfl := Option.some.inj (nAsc.symm.trans hg)
  obtain rfl := Option.some.inj (yAsc.symm.trans hty)
  have hcs := cells_of_tab Tryf.underlying82 Tryf.underlying36 c36 cArr hd
  have := World.var?_cell hg hvar c
  rw [this, ← Array.getElem?_toList, hcs]
  have hl : c < ascT.length := by rw [ascLen]; exact hc
  rw [List.getD_eq_getElem?_getD, List.getElem?_map, List.getElem?_map, List.getElem?_eq_getElem hl]
  rfl
theorem orb_of {w : World} (h : VarReads Tryf.prog w "unicode.caseOrbit" (.slice (orbT.map fun x => .agg ([(x.1 : Int), (x.2 : Int)].map fun z => .lit (.int .u16 z))) [])) :
    ∃ R oR cap, w.cell? ⟨3, 0, none⟩ = some (.slice (some ⟨R, oR, none⟩) 94 cap) ∧ ∀ i, i < 94 → w.cell? ⟨R, oR + i * 2, none⟩ = some (.int .u16 (orbT.getD i (0, 0)).1) ∧ w.cell? ⟨R, oR + i * 2 + 1, none⟩ = some (.int .u16 (orbT.getD i (0, 0)).2) := by
  obtain ⟨g, t, cs, fuel, p, hg, hty, hvar, hd⟩ := h
  obtain rfl := Option.some.inj (nOrb.symm.trans hg)
  obtain rfl := Option.some.inj (yOrb.symm.trans hty)
  rcases DataW.trod_slice Tryf.underlying83 hd with ⟨_, hx'⟩ | ⟨a', len, cap, el, rs, m, rfl, hc0, hx', _, hlc, _, hel, helem, hsp, _⟩
  · have := congrArg Prod.fst hx'
    cases this
  have e0 := congrArg Prod.fst hx'
  simp only [DataW.slice.injEq] at e0
  obtain ⟨eE, eR⟩ := e0
  have hlen : len = 94 := by
    have := congrArg List.length eE
    simp [orbLen] at this
    omega
  subst hlen
  have hrow : ∀ i, i < 94 → ∀ j, j < 2 → w.cell? ((a'.add (i * 2)).add j) = ([.int .u16 (orbT.getD i (0, 0)).1, .int .u16 (orbT.getD i (0, 0)).2] : List Value)[j]? := by
    intro i hi j hj
    have h1 := helem i hi
    rw [cRow] at h1
    obtain ⟨b, hb⟩ : ∃ b, el[i]? = some b := ⟨el[i]'(by omega), List.getElem?_eq_getElem (by omega)⟩
    rw [hb] at h1
    obtain ⟨ce, hce, hte⟩ := Option.bind_eq_some_iff.1 h1
    have hb1 : b.1 = .agg ([((orbT.getD i (0, 0)).1 : Int), ((orbT.getD i (0, 0)).2 : Int)].map fun z => .lit (.int .u16 z)) := by
      have := congrArg (·[i]?) eE
      simp only [List.getElem?_map, hb, Option.map_some] at this
      have hi' : i < orbT.length := by rw [orbLen]; exact hi
      rw [List.getElem?_eq_getElem hi'] at this
      simp only [Option.map_some, Option.some.injEq] at this
      rw [List.getD_eq_getElem?_getD, List.getElem?_eq_getElem hi', Option.getD_some, ← this]
    have hte' := hte
    rw [show b = (b.1, b.2) from rfl, hb1] at hte'
    have hcs := ints_of_struct Tryf.underlying85 (fun j f hj => by
      match j, hj with
      | 0, hj => simp at hj; subst hj; exact ⟨Tryf.underlying36, rfl, c36⟩
      | 1, hj => simp at hj; subst hj; exact ⟨Tryf.underlying36, rfl, c36⟩
      | j + 2, hj => simp at hj) (by rw [cRow]; rfl) hte'
    obtain ⟨_, _, hcc⟩ := World.cells?_some hce
    rw [hcc j hj, hcs]
    rfl
  obtain ⟨R, oR, sR⟩ := a'
  obtain rfl : sR = none := by
    have h00 := hrow 0 (by omega) 0 (by omega)
    have : (Addr.add (Addr.add ⟨R, oR, sR⟩ (0 * 2)) 0) = ⟨R, oR, sR⟩ := by simp [Addr.add]
    rw [this] at h00
    exact cell_spot h00
  refine ⟨R, oR, cap, ?_, fun i hi => ?_⟩
  · rw [World.var?_cell hg hvar 0, ← Array.getElem?_toList, hc0]
    rfl
  · have k0 := hrow i hi 0 (by omega)
    have k1 := hrow i hi 1 (by omega)
    simp only [Addr.add_lit] at k0 k1
    exact ⟨k0, k1⟩
theorem fold_of {w : World} (h : laidMetH Tryf.prog laid5 w) : FoldTabs w := by
  rw [MakeChecks.laidMetH_plain _ _ _ (by kernel_rfl)] at h
  have h1 := Lib.laidMet.reads h (n := "unicode.asciiFold") (d := Rows.laid_unicode_asciiFold) (by simp)
  have h2 := Lib.laidMet.reads h (n := "unicode.caseOrbit") (d := Rows.laid_unicode_caseOrbit) (by simp)
  rw [asc_eq] at h1
  rw [orb_eq] at h2
  exact ⟨fun c hc => asc_of h1 c hc, orb_of h2⟩
end Go.Proofs.YtachkgmngahpoaaFmt
