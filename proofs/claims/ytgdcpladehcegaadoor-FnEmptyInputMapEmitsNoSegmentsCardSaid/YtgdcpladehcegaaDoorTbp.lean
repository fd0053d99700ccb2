/- The tables of line offsets: their rows in memory, and what they say of the places of runes. -/
import Derived.Test.YtgdcpladehcegaaDoorUpq
import Derived.Test.YtgdcpladehcegaaDoorApp
import Derived.WalkKit
namespace Go.Proofs.YtgdcpladehcegaaDoor
open Go.RowKit
set_option linter.unusedVariables false
set_option linter.unusedSimpArgs false
def rowC (r : Value × Nat × Nat) : List Value := [r.1, .int .i32 (r.2.1 : Int), .int .i32 (r.2.2 : Int)]
def rowsC (R : List (Value × Nat × Nat)) : List Value := R.flatMap rowC
theorem rowsC_snoc (R : List (Value × Nat × Nat)) (r : Value × Nat × Nat) : rowsC (R ++ [r]) = rowsC R ++ rowC r := by unfold rowsC; simp
theorem rowsC_length : ∀ R : List (Value × Nat × Nat), (rowsC R).length = 3 * R.length
  | [] => rfl
  | r :: R => by
    have := rowsC_length R
    unfold rowsC at this ⊢
    simp only [List.flatMap_cons, List.length_append, this, List.length_cons]
    show 3 + _ = _
    omega
theorem rowsC_get : ∀ (R : List (Value × Nat × Nat)) (l : Nat) (r : Value × Nat × Nat), R[l]? = some r → (rowsC R)[3 * l]? = some r.1 ∧ (rowsC R)[3 * l + 1]? = some (.int .i32 (r.2.1 : Int)) ∧ (rowsC R)[3 * l + 2]? = some (.int .i32 (r.2.2 : Int))
  | [], l, r, h => by simp at h
  | r0 :: R, 0, r, h => by
    simp at h
    subst h
    exact ⟨rfl, rfl, rfl⟩
  | r0 :: R, l + 1, r, h => by
    have ih := rowsC_get R l r (by simpa using h)
    have e : ∀ i, (rowsC (r0 :: R))[i + 3]? = (rowsC R)[i]? := fun i => rfl
    refine ⟨?_, ?_, ?_⟩
    · rw [show 3 * (l + 1) = 3 * l + 3 by omega, e]; exact ih.1
    · rw [show 3 * (l + 1) + 1 = 3 * l + 1 + 3 by omega, e]; exact ih.2.1
    · rw [show 3 * (l + 1) + 2 = 3 * l + 2 + 3 by omega, e]; exact ih.2.2
/-- A row's table of columns is nil, or reaches as far as the runes of its line. -/
def ColOK (w : World) (Bc : Nat) (s : ByteArray) (r : Value × Nat × Nat) (nx : Nat) : Prop :=
  r.1 = .slice none 0 0 ∨ ∃ g len cap cur, r.1 = .slice (some ⟨g, 0, none⟩) len cap ∧ g < Bc ∧ w.heap[g]? = some (.cells cur 21 (0, 0)) ∧ len ≤ cap ∧ cap ≤ maxLen ∧ r.2.1 ≤ s.size + 1 ∧ (∀ i, i < len → ∃ x : Int, cur[i]? = some (.int .i32 x)) ∧ ∀ k, r.2.2 ≤ pos s k → pos s k < nx → pos s k < r.2.2 + r.2.1 + len
def startOf (R : List (Value × Nat × Nat)) (LS l : Nat) : Nat := ((R[l]?).map (·.2.2)).getD LS
def RowsOK (w : World) (Bc : Nat) (s : ByteArray) (R : List (Value × Nat × Nat)) (LS : Nat) : Prop :=
  (∀ l r, R[l]? = some r → ColOK w Bc s r (startOf R LS (l + 1))) ∧ startOf R LS 0 = 0
theorem RowsOK.nil_ (w : World) (Bc : Nat) (s : ByteArray) : RowsOK w Bc s [] 0 := ⟨fun l r h => by simp at h, rfl⟩
theorem ColOK.keep {w w' : World} {Bc Bc' : Nat} {s : ByteArray} {r : Value × Nat × Nat} {nx : Nat} (h : ColOK w Bc s r nx) (hB : Bc ≤ Bc') (hk : ∀ g cur, g < Bc → w.heap[g]? = some (.cells cur 21 (0, 0)) → w'.heap[g]? = w.heap[g]?) : ColOK w' Bc' s r nx := by
  refine h.imp id ?_
  rintro ⟨g, len, cap, cur, h1, h2, h3, h4⟩
  exact ⟨g, len, cap, cur, h1, by omega, (hk g cur h2 h3).trans h3, h4⟩
theorem RowsOK.keep {w w' : World} {Bc Bc' : Nat} {s : ByteArray} {R : List (Value × Nat × Nat)} {LS : Nat} (h : RowsOK w Bc s R LS) (hB : Bc ≤ Bc') (hk : ∀ g cur, g < Bc → w.heap[g]? = some (.cells cur 21 (0, 0)) → w'.heap[g]? = w.heap[g]?) : RowsOK w' Bc' s R LS :=
  ⟨fun l r hr => (h.1 l r hr).keep hB hk, h.2⟩
theorem startOf_snoc (R : List (Value × Nat × Nat)) (r : Value × Nat × Nat) (nx l : Nat) (h : l ≤ R.length) : startOf (R ++ [r]) nx l = startOf R r.2.2 l := by
  unfold startOf
  rcases Nat.lt_or_ge l R.length with h1 | h1
  · rw [List.getElem?_append_left h1, List.getElem?_eq_getElem h1]; rfl
  · obtain rfl : l = R.length := by omega
    simp
theorem RowsOK.snoc {w : World} {Bc : Nat} {s : ByteArray} {R : List (Value × Nat × Nat)} {r : Value × Nat × Nat} {nx : Nat} (h : RowsOK w Bc s R r.2.2) (hc : ColOK w Bc s r nx) : RowsOK w Bc s (R ++ [r]) nx := by
  refine ⟨fun l r' hr => ?_, by rw [startOf_snoc _ _ _ _ (Nat.zero_le _)]; exact h.2⟩
  rcases Nat.lt_or_ge l R.length with h1 | h1
  · rw [List.getElem?_append_left h1] at hr
    rw [startOf_snoc _ _ _ _ (by omega)]
    exact h.1 l r' hr
  · have hl : l < (R ++ [r]).length := (List.getElem?_eq_some_iff.1 hr).1
    simp at hl
    obtain rfl : l = R.length := by omega
    simp at hr
    subst hr
    have e : startOf (R ++ [r]) nx (R.length + 1) = nx := by unfold startOf; simp
    rw [e]
    exact hc
/-- The rest of the state: the iterator, the rows so far. -/
structure TM (s : ByteArray) (B q p : Nat) (w wr : World) (tv : Value) (R : List (Value × Nat × Nat)) (LS Bc : Nat) : Prop where
  it : wr.heap[q]? = some (.stringIter s p)
  bel : Below B w wr
  tb : wr.ownsRow B 60 3 tv R.length (rowsC R)
  rows : RowsOK wr Bc s R LS
  lo : B ≤ q ∧ B ≤ Bc ∧ Bc ≤ wr.heap.size
/-- The columns of the line so far. -/
def CS (wr : World) (Bc f cbo : Nat) (cv : Value) : Prop :=
  ∃ (xs : List Value) (g cap : Nat), cv = .slice (some ⟨g, 0, none⟩) xs.length cap ∧ wr.ownsRow Bc 21 1 cv xs.length xs ∧ (∀ x ∈ xs, ∃ z : Int, x = .int .i32 z) ∧ f + xs.length = cbo
theorem own_ne {w : World} {B B' e e' z z' n n' : Nat} {v v' : Value} {xs xs' : List Value} (h : w.ownsRow B e z v n xs) (h' : w.ownsRow B' e' z' v' n' xs') (hne : e ≠ e') (g : Nat) (hg : v.ownBlock = some g) : v'.ownBlock ≠ some g := by
  rcases h'.2 with ⟨rfl, _⟩ | ⟨g', cap', cur', rfl, _, hh', _⟩
  · simp [Value.ownBlock]
  · intro he
    have e1 : g' = g := by simpa [Value.ownBlock] using he
    subst e1
    rcases h.2 with ⟨rfl, _⟩ | ⟨g, cap, cur, rfl, _, hh, _⟩
    · simp [Value.ownBlock] at hg
    · have e2 : g = g' := by simpa [Value.ownBlock] using hg
      subst e2
      rw [hh] at hh'
      injection hh' with h1
      injection h1 with _ h2
      exact hne h2
theorem own_not_iter {w : World} {B e z n q p : Nat} {s : ByteArray} {v : Value} {xs : List Value} (h : w.ownsRow B e z v n xs) (hq : w.heap[q]? = some (.stringIter s p)) : v.ownBlock ≠ some q := by
  rcases h.2 with ⟨rfl, _⟩ | ⟨g', cap', cur', rfl, _, hh', _⟩
  · simp [Value.ownBlock]
  · intro he
    have e1 : g' = q := by simpa [Value.ownBlock] using he
    subst e1
    rw [hh'] at hq
    cases hq
theorem own_not_cells {w : World} {B e e' z n q : Nat} {v : Value} {xs : List Value} {cur : Array Value} (h : w.ownsRow B e z v n xs) (hq : w.heap[q]? = some (.cells cur e' (0, 0))) (hne : e ≠ e') : v.ownBlock ≠ some q :=
  own_blk_ne h (cs := cur) hq hne
theorem own_lt {w : World} {B e z n : Nat} {v : Value} {xs : List Value} (h : w.ownsRow B e z v n xs) (g : Nat) (hg : v.ownBlock = some g) : B ≤ g := by
  rcases h.2 with ⟨rfl, _⟩ | ⟨g', cap', cur', rfl, hb, _⟩
  · simp [Value.ownBlock] at hg
  · have e1 : g' = g := by simpa [Value.ownBlock] using hg
    omega
section
variable {s : ByteArray} {B q p : Nat} {w wr : World} {tv : Value} {R : List (Value × Nat × Nat)} {LS Bc : Nat}
theorem TM.iter_ (h : TM s B q p w wr tv R LS Bc) (p' : Nat) : TM s B q p' w (wr.iterAt q s p') tv R LS Bc :=
  ⟨Lib.iterAt_heap wr q s p p' h.it, Lib.below_iterAt h.bel h.lo.1 s p', own_iter h.tb h.it p', h.rows.keep (Nat.le_refl _) (fun g cur _ hg => Lib.iterAt_other _ _ _ _ _ (fun e => by subst e; rw [h.it] at hg; cases hg)), h.lo.1, h.lo.2.1, by rw [Lib.iterAt_size]; exact h.lo.2.2⟩
theorem CS.iter_ {f cbo : Nat} {cv : Value} (h : CS wr Bc f cbo cv) (hit : wr.heap[q]? = some (.stringIter s p)) (p' : Nat) : CS (wr.iterAt q s p') Bc f cbo cv := by
  obtain ⟨xs, g, cap, h1, h2, h3⟩ := h
  exact ⟨xs, g, cap, h1, own_iter h2 hit p', h3⟩
theorem TM.fresh (h : TM s B q p w wr tv R LS Bc) : TM s B q p w (wr.alloc (.cells #[] 21)) tv R LS wr.heap.size ∧ ∀ f, CS (wr.alloc (.cells #[] 21)) wr.heap.size f f (.slice (some ⟨wr.heap.size, 0, none⟩) 0 0) := by
  refine ⟨⟨(Below.heap_alloc wr _ q (Array.getElem?_eq_some_iff.1 h.it).1).trans h.it, h.bel.alloc (by have := h.bel.size; have := h.lo; omega) _, h.tb.alloc _, h.rows.keep h.lo.2.2 (fun g cur hg _ => Below.heap_alloc wr _ g (by have := h.lo; omega)), h.lo.1, by have := h.lo; omega, by simp⟩, fun f => ?_⟩
  refine ⟨[], wr.heap.size, 0, rfl, ⟨rfl, .inr ⟨_, _, #[], rfl, Nat.le_refl _, heap_alloc_new wr _, Nat.le_refl _, by unfold maxLen; omega, rfl, rfl⟩⟩, fun x hx => by simp at hx, rfl⟩
/-- One column more. -/
theorem TM.col_ (h : TM s B q p w wr tv R LS Bc) {f cbo n : Nat} {cv v' : Value} {xs : List Value} (hv : ∃ g cap, cv = .slice (some ⟨g, 0, none⟩) n cap) (hn : xs.length = n) (hc : wr.ownsRow Bc 21 1 cv n xs) (hx : ∀ x ∈ xs, ∃ z : Int, x = .int .i32 z) (hf : f + n = cbo) (z : Int) (o : Obj) (w2 : World)
    (hg : (wr.alloc o).grownBy w2 cv.ownBlock) (ho : w2.ownsRow Bc 21 1 v' (n + 1) (xs ++ [.int .i32 z])) :
    TM s B q p w w2 tv R LS Bc ∧ CS w2 Bc f (cbo + 1) v' := by
  have hB : B ≤ wr.heap.size := by have := h.lo; omega
  have hqlt : q < wr.heap.size := (Array.getElem?_eq_some_iff.1 h.it).1
  refine ⟨⟨?_, (h.bel.alloc hB o).grown hg (by simp; omega) (fun k hk => Nat.le_trans h.lo.2.1 (own_lt hc k hk)), ?_, h.rows.keep (Nat.le_refl _) ?_, h.lo.1, h.lo.2.1, Nat.le_trans h.lo.2.2 (Nat.le_trans (by simp) hg.size)⟩, ?_⟩
  · rw [hg.block q (by simp; omega) (fun e => own_not_iter hc h.it e.symm), Below.heap_alloc wr o q hqlt]
    exact h.it
  · refine own_same h.tb fun g hgg => ?_
    have hlt := (h.tb.lt g hgg).2
    rw [hg.block g (by simp; omega) (fun e => own_ne h.tb hc (by decide) g hgg e.symm), Below.heap_alloc wr o g hlt]
  · intro g cur hgB hh
    have hlt := (Array.getElem?_eq_some_iff.1 hh).1
    rw [hg.block g (by simp; omega) (fun e => by have := own_lt hc g e.symm; omega), Below.heap_alloc wr o g hlt]
  · obtain ⟨A, c, rfl⟩ : ∃ A c, v' = .slice (some ⟨A, 0, none⟩) (n + 1) c := by
      rcases ho.2 with ⟨_, h0⟩ | ⟨g, cap, cur, hv, _⟩
      · omega
      · exact ⟨g, cap, hv⟩
    refine ⟨xs ++ [.int .i32 z], A, c, by rw [List.length_append, hn]; rfl, by rw [List.length_append, hn]; exact ho, ?_, by rw [List.length_append, hn]; simp; omega⟩
    intro x hx'
    rcases List.mem_append.1 hx' with h1 | h1
    · exact hx x h1
    · exact ⟨z, by simpa using h1⟩
/-- One row more, whose columns were counted. -/
theorem TM.row (h : TM s B q p w wr tv R LS Bc) {f cbo nx : Nat} {cv v' : Value} (hc : cv = .slice none 0 0 ∨ (CS wr Bc f cbo cv ∧ cbo ≤ s.size + 1 ∧ ∀ k, LS ≤ pos s k → pos s k < nx → pos s k < LS + cbo)) (o : Obj) (w2 : World)
    (hg : (wr.alloc o).grownBy w2 tv.ownBlock) (ho : w2.ownsRow B 60 3 v' (R.length + 1) (rowsC R ++ rowC (cv, f, LS))) :
    TM s B q p w w2 v' (R ++ [(cv, f, LS)]) nx w2.heap.size := by
  have hB : B ≤ wr.heap.size := by have := h.lo; omega
  have hqlt : q < wr.heap.size := (Array.getElem?_eq_some_iff.1 h.it).1
  have hs : wr.heap.size < w2.heap.size := by have := hg.size; simp at this; omega
  have hcells : ∀ (g : Nat) (cur : Array Value), wr.heap[g]? = some (.cells cur 21 (0, 0)) → w2.heap[g]? = wr.heap[g]? := fun g cur hh => by
    have hlt := (Array.getElem?_eq_some_iff.1 hh).1
    rw [hg.block g (by simp; omega) (fun e => own_not_cells h.tb hh (by decide) e.symm), Below.heap_alloc wr o g hlt]
  refine ⟨?_, (h.bel.alloc hB o).grown hg (by simp; omega) (fun k hk => own_lt h.tb k hk), by rw [rowsC_snoc, List.length_append]; exact ho, ?_, h.lo.1, by omega, Nat.le_refl _⟩
  · rw [hg.block q (by simp; omega) (fun e => own_not_iter h.tb h.it e.symm), Below.heap_alloc wr o q hqlt]
    exact h.it
  · refine RowsOK.snoc (r := (cv, f, LS)) (h.rows.keep (by have := h.lo; omega) (fun g cur _ hh => hcells g cur hh)) ?_
    rcases hc with rfl | ⟨⟨xs, g, cap, rfl, h2, h3, h4⟩, hcb, hk⟩
    · exact .inl rfl
    · right
      rcases h2.2 with ⟨hv, _⟩ | ⟨g', cap', cur, hv, _, hh, h5, h6, h7, h8⟩
      · cases hv
      · injection hv with e1 e2 e3
        injection e1 with e1
        injection e1 with e1
        subst e1
        subst e3
        refine ⟨g, xs.length, cap, cur, rfl, by have := (Array.getElem?_eq_some_iff.1 hh).1; omega, (hcells g cur hh).trans hh, h5, h6, by show f ≤ _; omega, fun i hi => ?_, fun k k1 k2 => ?_⟩
        · rw [Nat.mul_one] at h8
          have e : cur[i]? = xs[i]? := by
            rw [← h8, List.getElem?_take_of_lt hi, Array.getElem?_toList]
          rw [e, List.getElem?_eq_getElem hi]
          obtain ⟨z, hz⟩ := h3 _ (List.getElem_mem hi)
          exact ⟨z, by rw [hz]⟩
        · have := hk k k1 k2
          show _ < LS + f + xs.length
          omega
end
end Go.Proofs.YtgdcpladehcegaaDoor
