/- The builder's cells that AddSourceMapping sets; the tables as the search reads them. -/
import Derived.Test.YtgdcpladehcegaaDoorUpq
import Derived.Test.YtgdcpladehcegaaDoorTbp
namespace Go.Proofs.YtgdcpladehcegaaDoor
open Go.RowKit
set_option linter.unusedVariables false
set_option linter.unusedSimpArgs false
structure TabIn (w : World) (B : Nat) (s : ByteArray) (tb : Nat) (R : List (Value × Nat × Nat)) : Prop where
  lt : tb < B
  cell : ∀ l r, R[l]? = some r → w.cell? ⟨tb, 3 * l, none⟩ = some r.1 ∧ w.cell? ⟨tb, 3 * l + 1, none⟩ = some (.int .i32 (r.2.1 : Int)) ∧ w.cell? ⟨tb, 3 * l + 2, none⟩ = some (.int .i32 (r.2.2 : Int))
  rows : RowsOK w B s R (s.size + 1)
theorem TabIn.below {w w' : World} {B : Nat} {s : ByteArray} {tb : Nat} {R : List (Value × Nat × Nat)} (h : TabIn w B s tb R) (hb : Below B w w') : TabIn w' B s tb R :=
  ⟨h.lt, fun l r hr => by
    obtain ⟨h1, h2, h3⟩ := h.cell l r hr
    exact ⟨(hb.cell (p := ⟨tb, 3 * l, none⟩) h.lt).trans h1, (hb.cell (p := ⟨tb, 3 * l + 1, none⟩) h.lt).trans h2, (hb.cell (p := ⟨tb, 3 * l + 2, none⟩) h.lt).trans h3⟩, h.rows.keep (Nat.le_refl _) (fun g cur hg _ => hb.block g hg)⟩
theorem TabIn.make {w : World} {B0 B : Nat} {s : ByteArray} {A : Option Addr} {c : Nat} {R : List (Value × Nat × Nat)} (h : w.ownsRow B0 60 3 (.slice A R.length c) R.length (rowsC R)) (hr : RowsOK w w.heap.size s R (s.size + 1)) (h1 : 1 ≤ R.length) (hB : B = w.heap.size) :
    ∃ tb, A = some ⟨tb, 0, none⟩ ∧ R.length ≤ c ∧ TabIn w B s tb R := by
  subst hB
  rcases h.2 with ⟨_, h0⟩ | ⟨g, cap, cur, hv, _, hh, h5, _⟩
  · omega
  · injection hv with e1 e2 e3
    subst e1; subst e3
    refine ⟨g, rfl, h5, (Array.getElem?_eq_some_iff.1 hh).1, fun l r hr => ?_, hr⟩
    have hl : l < R.length := (List.getElem?_eq_some_iff.1 hr).1
    obtain ⟨h1, h2, h3⟩ := rowsC_get R l r hr
    exact ⟨(h.cellAt _ (by omega)).trans h1, (h.cellAt _ (by omega)).trans h2, (h.cellAt _ (by omega)).trans h3⟩
/-- The columns' cell that is asked for. -/
theorem TabIn.col {w : World} {B : Nat} {s : ByteArray} {tb : Nat} {R : List (Value × Nat × Nat)} (h : TabIn w B s tb R) {l : Nat} {r : Value × Nat × Nat} (hr : R[l]? = some r) {k : Nat} (h1 : r.2.2 ≤ pos s k) (h2 : l + 1 = R.length ∨ ∀ r', R[l + 1]? = some r' → pos s k < r'.2.2) :
    r.1 = .slice none 0 0 ∨ ∃ g len cap, r.1 = .slice (some ⟨g, 0, none⟩) len cap ∧ len ≤ cap ∧ cap ≤ maxLen ∧ r.2.1 ≤ s.size + 1 ∧ (r.2.2 + r.2.1 ≤ pos s k → pos s k - r.2.2 - r.2.1 < len ∧ ∃ x : Int, w.cell? ⟨g, pos s k - r.2.2 - r.2.1, none⟩ = some (.int .i32 x)) := by
  have hl : l < R.length := (List.getElem?_eq_some_iff.1 hr).1
  have hn : pos s k < startOf R (s.size + 1) (l + 1) := by
    have := pos_le s k
    unfold startOf
    rcases h2 with h2 | h2
    · rw [List.getElem?_eq_none (by omega)]
      show _ < s.size + 1
      omega
    · cases hq : R[l + 1]? with
      | none => show _ < s.size + 1; omega
      | some r' => exact h2 r' hq
  refine (h.rows.1 l r hr).imp id ?_
  rintro ⟨g, len, cap, cur, e1, _, hh, hlc, hcm, hfb, hx, hk⟩
  refine ⟨g, len, cap, e1, hlc, hcm, hfb, fun hf => ?_⟩
  have hlt : pos s k - r.2.2 - r.2.1 < len := by have := hk k h1 hn; omega
  obtain ⟨x, hx⟩ := hx _ hlt
  exact ⟨hlt, x, (cell_of_row w g _ cur _ (0, 0) hh).trans hx⟩
section
variable {s : ByteArray} {B g : Nat} {im sm nm tb : Value} {pn pn' : ByteArray} {j lgu pgl pgl' : Nat} {ploc ploc' : Int} {asc lsm lsm' cov : Bool} {w w' : World}
theorem CB16 (gl lgu gc pgl : Nat) : (CB im sm nm tb pn gl lgu gc pgl ploc asc lsm cov).setIfInBounds 16 (.int .i32 ploc') = CB im sm nm tb pn gl lgu gc pgl ploc' asc lsm cov := rfl
theorem CB15 (gl lgu gc pgl pgl' : Nat) : (CB im sm nm tb pn gl lgu gc pgl ploc asc lsm cov).setIfInBounds 15 (.int .i64 (pgl' : Int)) = CB im sm nm tb pn gl lgu gc pgl' ploc asc lsm cov := rfl
theorem CB5 (gl lgu gc pgl : Nat) : (CB im sm nm tb pn gl lgu gc pgl ploc asc lsm cov).setIfInBounds 5 (.string pn') = CB im sm nm tb pn' gl lgu gc pgl ploc asc lsm cov := rfl
theorem BS.s16 (h : BS s B g im sm nm tb pn j lgu pgl ploc asc lsm cov w) (ploc' : Int) : BS s B g im sm nm tb pn j lgu pgl ploc' asc lsm cov (w.setCell ⟨g, 16, none⟩ (.int .i32 ploc')) :=
  ⟨by have := h.blk.set_ 16 (.int .i32 ploc'); rwa [CB16] at this, own_set h.own h.blk (by decide) 16 _, h.cov_⟩
theorem BS.s15 (h : BS s B g im sm nm tb pn j lgu pgl ploc asc lsm cov w) (pgl' : Nat) : BS s B g im sm nm tb pn j lgu pgl' ploc asc lsm cov (w.setCell ⟨g, 15, none⟩ (.int .i64 (pgl' : Int))) :=
  ⟨by have := h.blk.set_ 15 (.int .i64 (pgl' : Int)); rwa [CB15] at this, own_set h.own h.blk (by decide) 15 _, h.cov_⟩
theorem BS.s5 (h : BS s B g im sm nm tb pn j lgu pgl ploc asc lsm cov w) (pn' : ByteArray) : BS s B g im sm nm tb pn' j lgu pgl ploc asc lsm cov (w.setCell ⟨g, 5, none⟩ (.string pn')) :=
  ⟨by have := h.blk.set_ 5 (.string pn'); rwa [CB5] at this, own_set h.own h.blk (by decide) 5 _, h.cov_⟩
theorem BS.s20 (h : BS s B g im sm nm tb pn j lgu pgl ploc asc lsm false w) (lsm' : Bool) : BS s B g im sm nm tb pn j lgu pgl ploc asc lsm' false (w.setCell ⟨g, 20, none⟩ (.bool lsm')) :=
  ⟨by have := h.blk.set_ 20 (.bool lsm'); rwa [CB20] at this, own_set h.own h.blk (by decide) 20 _, fun h => by cases h⟩
theorem BS.new (h : BS s B g im sm nm tb pn j lgu pgl ploc asc lsm cov w) (hb : Below w.heap.size w w') : BS s B g im sm nm tb pn j lgu pgl ploc asc lsm cov w' :=
  ⟨(hb.block g h.blk.lt).trans h.blk, own_same h.own fun g' hg' => hb.block g' (h.own.lt g' hg').2, h.cov_⟩
end
end Go.Proofs.YtgdcpladehcegaaDoor
