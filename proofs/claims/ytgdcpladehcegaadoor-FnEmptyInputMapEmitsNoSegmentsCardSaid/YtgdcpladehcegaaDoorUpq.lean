/- What one rune does to the builder. -/
import Derived.Test.YtgdcpladehcegaaDoorUpp
namespace Go.Proofs.YtgdcpladehcegaaDoor
open Go.RowKit
set_option linter.unusedVariables false
set_option linter.unusedSimpArgs false
theorem own_same {w w' : World} {B e size n : Nat} {v : Value} {xs : List Value} (h : w.ownsRow B e size v n xs) (hk : ∀ g, v.ownBlock = some g → w'.heap[g]? = w.heap[g]?) : w'.ownsRow B e size v n xs := by
  refine ⟨h.1, ?_⟩
  rcases h.2 with h0 | ⟨g, cap, cur, hv, hb, hg, rest⟩
  · exact .inl h0
  · refine .inr ⟨g, cap, cur, hv, hb, ?_, rest⟩
    rw [hk g (by rw [hv]; rfl)]
    exact hg
theorem own_set {w : World} {B e size n : Nat} {v : Value} {xs : List Value} {g : Nat} {t : TypeId} {cs : Array Value} (h : w.ownsRow B e size v n xs) (hb : Blk w g t cs) (hne : e ≠ t) (i : Nat) (u : Value) : (w.setCell ⟨g, i, none⟩ u).ownsRow B e size v n xs :=
  own_same h fun g' hg' => Below.heap_setCell w ⟨g, i, none⟩ u g' (fun e => own_blk_ne h hb hne (by rw [hg', e]))
section
variable {s t : ByteArray} {B g q k m : Nat} {im nm tb : Value} {pn : ByteArray} {pgl : Nat} {ploc : Int} {asc cov : Bool} {r0 : Option Nat} {w W : World} {j : Nat} {sm : Value} {lsm : Bool}
/-- Behind the step of the range: the iterator stands ahead of the next rune. -/
structure UpdIn (s t : ByteArray) (B g q k m : Nat) (im nm tb : Value) (pn : ByteArray) (pgl : Nat) (ploc : Int) (asc cov : Bool) (r0 : Option Nat) (w W : World) (j : Nat) (sm : Value) (lsm : Bool) : Prop where
  kj : k ≤ j
  jm : j < m
  bs : BS s B g im sm nm tb pn j (pos s k) pgl ploc asc lsm cov W
  it : W.heap[q]? = some (.stringIter t (pos s (j + 1) - pos s k))
  bel : Below B w W
  kept : KeptU g r0 w W sm
theorem CB14 (gl lgu gc gc' pgl : Nat) : (CB im sm nm tb pn gl lgu gc pgl ploc asc lsm cov).setIfInBounds 14 (.int .i64 (gc' : Int)) = CB im sm nm tb pn gl lgu gc' pgl ploc asc lsm cov := rfl
theorem CB6 (gl gl' lgu gc pgl : Nat) : (CB im sm nm tb pn gl lgu gc pgl ploc asc lsm cov).setIfInBounds 6 (.int .i64 (gl' : Int)) = CB im sm nm tb pn gl' lgu gc pgl ploc asc lsm cov := rfl
theorem CB7 (gl lgu gc pgl : Nat) : (CB im sm nm tb pn gl lgu gc pgl ploc asc lsm cov).setIfInBounds 7 (.int .i64 0) = CB im sm nm tb pn gl lgu gc pgl ploc asc lsm cov := rfl
theorem CB1 (sm' : Value) (gl lgu gc pgl : Nat) : (CB im sm nm tb pn gl lgu gc pgl ploc asc lsm cov).setIfInBounds 1 sm' = CB im sm' nm tb pn gl lgu gc pgl ploc asc lsm cov := rfl
theorem CB20 (lsm' : Bool) (gl lgu gc pgl : Nat) : (CB im sm nm tb pn gl lgu gc pgl ploc asc lsm cov).setIfInBounds 20 (.bool lsm') = CB im sm nm tb pn gl lgu gc pgl ploc asc lsm' cov := rfl
theorem CB13 (gl lgu lgu' gc pgl : Nat) : (CB im sm nm tb pn gl lgu gc pgl ploc asc lsm cov).setIfInBounds 13 (.int .i64 (lgu' : Int)) = CB im sm nm tb pn gl lgu' gc pgl ploc asc lsm cov := rfl
theorem UpdAt.next (h : UpdAt s t B g q k m im nm tb pn pgl ploc asc cov r0 w W j sm lsm) (hqB : B ≤ q) (hqw : w.heap.size ≤ q) (hj : j < m) : UpdIn s t B g q k m im nm tb pn pgl ploc asc cov r0 w (W.iterAt q t (pos s (j + 1) - pos s k)) j sm lsm :=
  ⟨h.kj, hj, ⟨blk_iter h.bs.blk h.it _, own_iter h.bs.own h.it _, h.bs.cov_⟩, Lib.iterAt_heap W q t _ _ h.it, Lib.below_iterAt h.bel hqB t _, h.kept.iter hqw _⟩
theorem UpdIn.skip_ (h : UpdIn s t B g q k m im nm tb pn pgl ploc asc cov r0 w W j sm lsm) (hl : lc s (j + 1) = lc s j) : UpdAt s t B g q k m im nm tb pn pgl ploc asc cov r0 w W (j + 1) sm lsm :=
  ⟨Nat.le_succ_of_le h.kj, h.jm, ⟨by rw [hl]; exact h.bs.blk, by rw [hl]; exact h.bs.own, h.bs.cov_⟩, h.it, h.bel, h.kept⟩
theorem UpdIn.ne_ (h : UpdIn s t B g q k m im nm tb pn pgl ploc asc cov r0 w W j sm lsm) : q ≠ g := fun e => by
  have h1 := h.it
  have h2 := h.bs.blk
  unfold Blk at h2
  rw [e, h2] at h1
  cases h1
theorem UpdIn.col (h : UpdIn s t B g q k m im nm tb pn pgl ploc asc cov r0 w W j sm lsm) (hgB : B ≤ g) (x : Nat) (hl : lc s (j + 1) = ((lc s j).1, x)) : UpdAt s t B g q k m im nm tb pn pgl ploc asc cov r0 w (W.setCell ⟨g, 14, none⟩ (.int .i64 (x : Int))) (j + 1) sm lsm := by
  refine ⟨Nat.le_succ_of_le h.kj, h.jm, ⟨?_, ?_, h.bs.cov_⟩, ?_, h.bel.setCell (p := ⟨g, 14, none⟩) hgB _, h.kept.set 14 _⟩
  · rw [hl]
    have := h.bs.blk.set_ 14 (.int .i64 (x : Int))
    rwa [CB14] at this
  · rw [hl]
    exact own_set h.bs.own h.bs.blk (by decide) 14 _
  · rw [Below.heap_setCell W ⟨g, 14, none⟩ _ q h.ne_]
    exact h.it
theorem UpdIn.three (h : UpdIn s t B g q k m im nm tb pn pgl ploc asc cov r0 w W j sm lsm) (l' : Nat) :
    Blk (((W.setCell ⟨g, 6, none⟩ (.int .i64 (l' : Int))).setCell ⟨g, 7, none⟩ (.int .i64 0)).setCell ⟨g, 14, none⟩ (.int .i64 0)) g 38 (CB im sm nm tb pn l' (pos s k) 0 pgl ploc asc lsm cov) ∧
      (((W.setCell ⟨g, 6, none⟩ (.int .i64 (l' : Int))).setCell ⟨g, 7, none⟩ (.int .i64 0)).setCell ⟨g, 14, none⟩ (.int .i64 0)).ownsRow B 5 1 sm (lc s j).1 (semis (lc s j).1) := by
  have b1 := h.bs.blk.set_ 6 (.int .i64 (l' : Int))
  rw [CB6] at b1
  have b2 := b1.set_ 7 (.int .i64 0)
  rw [CB7] at b2
  have b3 := b2.set_ 14 (.int .i64 ((0 : Nat) : Int))
  rw [CB14] at b3
  exact ⟨b3, own_set (own_set (own_set h.bs.own h.bs.blk (by decide) 6 _) b1 (by decide) 7 _) b2 (by decide) 14 _⟩
theorem UpdIn.term (h : UpdIn s t B g q k m im nm tb pn pgl ploc asc cov r0 w W j sm lsm) (hgB : B ≤ g) (hqB : B ≤ q) (hl : lc s (j + 1) = ((lc s j).1 + 1, 0)) (o : Obj) (v' : Value) (w2 : World)
    (hg : ((((W.setCell ⟨g, 6, none⟩ (.int .i64 (((lc s j).1 + 1 : Nat) : Int))).setCell ⟨g, 7, none⟩ (.int .i64 0)).setCell ⟨g, 14, none⟩ (.int .i64 0)).alloc o).grownBy w2 sm.ownBlock) (ho : w2.ownsRow B 5 1 v' ((lc s j).1 + 1) (semis (lc s j).1 ++ [.int .u8 59])) (hat : v'.ownBlock = sm.ownBlock ∨ v'.ownBlock = some (W.heap.size + 1)) :
    Blk w2 g 38 (CB im sm nm tb pn ((lc s j).1 + 1) (pos s k) 0 pgl ploc asc lsm cov) ∧ UpdAt s t B g q k m im nm tb pn pgl ploc asc cov r0 w ((w2.setCell ⟨g, 1, none⟩ v').setCell ⟨g, 20, none⟩ (.bool false)) (j + 1) v' false := by
  obtain ⟨b3, o3⟩ := h.three ((lc s j).1 + 1)
  have hne : some g ≠ sm.ownBlock := fun e => own_blk_ne o3 b3 (by decide) e.symm
  have b4 : Blk w2 g 38 _ := (b3.alloc o).grown hg hne
  refine ⟨b4, Nat.le_succ_of_le h.kj, h.jm, ⟨?_, ?_, fun _ => rfl⟩, ?_, ?_, ((((h.kept.set 6 _).set 7 _).set 14 _).grown (by simp [size_setCell]; exact h.bel.size) hg (by simpa [size_setCell] using hat)).set 1 _ |>.set 20 _⟩
  · rw [hl]
    have b5 := b4.set_ 1 v'
    rw [CB1] at b5
    have b6 := b5.set_ 20 (.bool false)
    rwa [CB20] at b6
  · rw [hl, semis_succ]
    have b5 := b4.set_ 1 v'
    exact own_set (own_set ho b4 (by decide) 1 _) b5 (by decide) 20 _
  · have hq := h.ne_
    rw [Below.heap_setCell _ ⟨g, 20, none⟩ _ q hq, Below.heap_setCell _ ⟨g, 1, none⟩ _ q hq]
    have hlt : q < W.heap.size := (Array.getElem?_eq_some_iff.1 h.it).1
    rw [hg.block q (by simp [size_setCell]; omega) (fun e => by
      rcases h.bs.own.2 with ⟨hv, _⟩ | ⟨g', cap, cur, hv, _, hh, _⟩
      · rw [hv] at e; simp [Value.ownBlock] at e
      · rw [hv] at e
        have : q = g' := by simpa [Value.ownBlock] using e
        subst this
        have h1 := h.it
        rw [hh] at h1
        cases h1)]
    rw [Below.heap_alloc _ o q (by simp [size_setCell]; omega), Below.heap_setCell _ ⟨g, 14, none⟩ _ q hq, Below.heap_setCell _ ⟨g, 7, none⟩ _ q hq, Below.heap_setCell _ ⟨g, 6, none⟩ _ q hq]
    exact h.it
  · have hs : B ≤ W.heap.size := by have := h.bs.blk.lt; omega
    refine Below.setCell (p := ⟨g, 20, none⟩) (Below.setCell (p := ⟨g, 1, none⟩) ?_ hgB _) hgB _
    refine Below.grown ?_ hg (by simp [size_setCell]; omega) (fun q' hq' => (o3.lt q' hq').1)
    refine Below.alloc ?_ (by simp [size_setCell]; omega) o
    exact ((h.bel.setCell (p := ⟨g, 6, none⟩) hgB _).setCell (p := ⟨g, 7, none⟩) hgB _).setCell (p := ⟨g, 14, none⟩) hgB _
/-- At the end of the range. -/
theorem UpdAt.end_ (h : UpdAt s t B g q k m im nm tb pn pgl ploc asc cov r0 w W j sm lsm) (hgB : B ≤ g) (hp : pos s j = pos s m) : UpdPost s B g m im nm tb pn pgl ploc asc cov r0 w (.returned (.tuple #[])) (W.setCell ⟨g, 13, none⟩ (.int .i64 (pos s m : Nat))) := by
  have hl := lc_same s hp
  refine ⟨rfl, sm, lsm, ⟨?_, ?_, h.bs.cov_⟩, h.bel.setCell (p := ⟨g, 13, none⟩) hgB _, h.kept.set 13 _⟩
  · have := h.bs.blk.set_ 13 (.int .i64 ((pos s m : Nat) : Int))
    rw [CB13] at this
    rw [← hl]
    exact this
  · rw [← hl]
    exact own_set h.bs.own h.bs.blk (by decide) 13 _
end
end Go.Proofs.YtgdcpladehcegaaDoor
