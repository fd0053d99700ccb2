/- The scanner's building, plain and in memory: columns that came in, the table of rows of records, the results as they are filled. -/
import Derived.Test.YtecncdcfmmceeaaGreatTlm
import Derived.Test.YtecncdcfmmceeaaGreatApp
namespace Go.Proofs.YtecncdcfmmceeaaGreat
open Go.RowKit
set_option linter.unusedVariables false
set_option linter.unusedSimpArgs false
/-- A column of one-cell elements. -/
def Arr (w : World) (E : TypeId) (A : Option Addr) (n : Nat) (f : Nat → Value) : Prop := 0 < n → ∃ g cs, A = some ⟨g, 0, none⟩ ∧ Blk w g E cs ∧ ∀ k, k < n → cs[k]? = some (f k)
section
variable {w w' : World} {E : TypeId} {A : Option Addr} {n : Nat} {f : Nat → Value}
theorem Arr.keep (h : Arr w E A n f) (hk : ∀ i, i < w.heap.size → (∀ cs, ¬ Blk w i E cs) ∨ w'.heap[i]? = w.heap[i]?) : Arr w' E A n f := fun hn => by
  obtain ⟨g, cs, h1, h2, h3⟩ := h hn
  rcases hk g h2.lt with h4 | h4
  · exact absurd h2 (h4 cs)
  · exact ⟨g, cs, h1, h4.trans h2, h3⟩
theorem Arr.grown (h : Arr w E A n f) (hg : w.grownBy w' none) : Arr w' E A n f := h.keep fun i hi => .inr (hg.block i hi (by simp))
theorem Arr.below (h : Arr w E A n f) (hg : Below w.heap.size w w') : Arr w' E A n f := h.keep fun i hi => .inr (hg.block i hi)
theorem Arr.grownRow {rb : Nat} {t : TypeId} {c : Array Value} (h : Arr w E A n f) (hg : w.grownBy w' (some rb)) (hb : Blk w rb t c) (hne : E ≠ t) : Arr w' E A n f := h.keep fun i hi => by
  by_cases e : i = rb
  · left; intro cs hcs; exact hcs.ne_ hb hne e
  · right; exact hg.block i hi (fun e' => e (Option.some.inj e'))
theorem Arr.at_ (h : Arr w E A n f) {k : Nat} (hk : k < n) : ∃ g, A = some ⟨g, 0, none⟩ ∧ w.cell? ⟨g, k, none⟩ = some (f k) := by
  obtain ⟨g, cs, h1, h2, h3⟩ := h (by omega)
  exact ⟨g, h1, (h2.cell k).trans (h3 k hk)⟩
theorem Arr.nil (w : World) (E : TypeId) (A : Option Addr) (f : Nat → Value) : Arr w E A 0 f := fun h => absurd h (Nat.lt_irrefl 0)
theorem Arr.of_blk {g : Nat} {cs : Array Value} (h : Blk w g E cs) (hs : ∀ k, k < n → cs[k]? = some (f k)) : Arr w E (some ⟨g, 0, none⟩) n f := fun _ => ⟨g, cs, rfl, h, hs⟩
end
/-- The records of file i among the first e edges. -/
def rlE (fr tg kd : Nat → Nat) (e i : Nat) : List (Nat × Nat) := (List.range e).filterMap fun x => if fr x = i then some (kd x, tg x) else none
theorem rlE_zero (fr tg kd : Nat → Nat) (i : Nat) : rlE fr tg kd 0 i = [] := rfl
theorem rlE_succ (fr tg kd : Nat → Nat) (e i : Nat) : rlE fr tg kd (e + 1) i = if fr e = i then rlE fr tg kd e i ++ [(kd e, tg e)] else rlE fr tg kd e i := by
  unfold rlE
  rw [List.range_succ, List.filterMap_append]
  by_cases h : fr e = i
  · rw [if_pos h]; simp [h]
  · rw [if_neg h]; simp [h]
theorem rlE_len (fr tg kd : Nat → Nat) (e i : Nat) : (rlE fr tg kd e i).length ≤ e := by
  unfold rlE
  exact Nat.le_trans (List.length_filterMap_le _ _) (by simp)
theorem rlE_mem {fr tg kd : Nat → Nat} {e i k t : Nat} (h : (k, t) ∈ rlE fr tg kd e i) : ∃ x, x < e ∧ fr x = i ∧ kd x = k ∧ tg x = t := by
  unfold rlE at h
  rw [List.mem_filterMap] at h
  obtain ⟨x, hx, h⟩ := h
  by_cases hf : fr x = i
  · rw [if_pos hf] at h
    injection h with h
    injection h with h1 h2
    exact ⟨x, List.mem_range.1 hx, hf, h1, h2⟩
  · rw [if_neg hf] at h; cases h
theorem mem_rlE {fr tg kd : Nat → Nat} {e x : Nat} (h : x < e) : (kd x, tg x) ∈ rlE fr tg kd e (fr x) := by
  unfold rlE
  rw [List.mem_filterMap]
  exact ⟨x, List.mem_range.2 h, by simp⟩
theorem recC_one (k t : Nat) : ∀ u ∈ recC k t, u.oneCell' = true := by
  intro u hu
  simp only [recC, List.mem_cons, List.not_mem_nil, or_false] at hu
  rcases hu with rfl | rfl | rfl | rfl | rfl | rfl | rfl | rfl | rfl | rfl | rfl | rfl | rfl | rfl | rfl <;> rfl
/-- The table of rows. -/
structure Tab (w : World) (base rt n : Nat) (rl : Nat → List (Nat × Nat)) (vs : Nat → Value) : Prop where
  tab : ∃ cs, Blk w rt 42 cs ∧ cs.size = n ∧ ∀ i, i < n → cs[i]? = some (vs i)
  own : ∀ i, i < n → w.ownsRow base 62 15 (vs i) (rl i).length (recsC (rl i))
  apart : ∀ i j g, i < n → j < n → i ≠ j → (vs i).ownBlock = some g → (vs j).ownBlock ≠ some g
section
variable {w w' w1 : World} {base rt n : Nat} {rl : Nat → List (Nat × Nat)} {vs : Nat → Value}
theorem Tab.kept (h : Tab w base rt n rl vs) (hg : w.grownBy w' none) : Tab w' base rt n rl vs := by
  obtain ⟨⟨cs, h1, h2⟩, h3, h4⟩ := h
  refine ⟨⟨cs, h1.grown hg (by simp), h2⟩, fun i hi => (h3 i hi).kept hg ?_, h4⟩
  cases h : (vs i).ownBlock with
  | none => exact .inl rfl
  | some g => right; simp
theorem Tab.cell (h : Tab w base rt n rl vs) {i : Nat} (hi : i < n) : w.cell? ⟨rt, i, none⟩ = some (vs i) := by
  obtain ⟨⟨cs, h1, h2, h3⟩, _⟩ := h
  exact (h1.cell i).trans (h3 i hi)
theorem Tab.z (h : Tab w base rt n rl vs) (i : Nat) : w.frozen? ⟨rt, i, none⟩ = false := by
  obtain ⟨⟨cs, h1, _⟩, _⟩ := h
  exact h1.frozen i
theorem Tab.own_ne (h : Tab w base rt n rl vs) {i : Nat} (hi : i < n) : some rt ≠ (vs i).ownBlock := by
  obtain ⟨⟨cs, h1, _⟩, h3, _⟩ := h
  exact fun e => own_blk_ne (h3 i hi) h1 (by decide) e.symm
theorem Tab.cell1 (h : Tab w base rt n rl vs) {i : Nat} (hi : i < n) (hg : w.grownBy w1 (vs i).ownBlock) : w1.cell? ⟨rt, i, none⟩ = some (vs i) ∧ w1.frozen? ⟨rt, i, none⟩ = false := by
  have hne := h.own_ne hi
  obtain ⟨⟨cs, h1, h2, h3⟩, _⟩ := h
  have hb := h1.grown hg hne
  exact ⟨(hb.cell i).trans (h3 i hi), hb.frozen i⟩
theorem Tab.step (h : Tab w base rt n rl vs) {f k t : Nat} (hf : f < n) {v : Value} (hown : w1.ownsRow base 62 15 v ((rl f).length + 1) (recsC (rl f) ++ recC k t)) (hg : w.grownBy w1 (vs f).ownBlock) (hat : ∀ g, v.ownBlock = some g → (vs f).ownBlock = some g ∨ w.heap.size ≤ g) :
    Tab (w1.setCell ⟨rt, f, none⟩ v) base rt n (fun j => if f = j then rl j ++ [(k, t)] else rl j) (fun j => if f = j then v else vs j) := by
  have hne := h.own_ne hf
  obtain ⟨⟨cs, h1, h2, h3⟩, h4, h5⟩ := h
  have hb := h1.grown hg hne
  have hlt : ∀ j g, j < n → (vs j).ownBlock = some g → g < w.heap.size := fun j g hj e => ((h4 j hj).lt g e).2
  have hap : ∀ j g, j < n → f ≠ j → v.ownBlock = some g → (vs j).ownBlock ≠ some g := fun j g hj hfj e e' => by
    rcases hat g e with h6 | h6
    · exact h5 f j g hf hj hfj h6 e'
    · have := hlt j g hj e'; omega
  refine ⟨⟨_, hb.set_ f v, by simpa using h2, fun i hi => ?_⟩, fun i hi => ?_, fun i j g hi hj hij hv => ?_⟩
  · by_cases e : f = i
    · subst e
      simp only [if_true]
      rw [Array.getElem?_setIfInBounds_self_of_lt (by omega)]
    · simp only [if_neg e]
      rw [Array.getElem?_setIfInBounds_ne e]; exact h3 i hi
  · by_cases e : f = i
    · subst e
      simp only [if_true, List.length_append, List.length_singleton, recsC_snoc]
      exact ownsRow_setCell_other hown (own_blk_ne hown hb (by decide)) _
    · simp only [if_neg e]
      have hk : w1.ownsRow base 62 15 (vs i) (rl i).length (recsC (rl i)) := (h4 i hi).kept hg (by
        cases hx : (vs i).ownBlock with
        | none => exact .inl rfl
        | some g => right; exact fun e' => h5 i f g hi hf (fun e2 => e e2.symm) hx e'.symm)
      exact ownsRow_setCell_other hk (own_blk_ne hk hb (by decide)) _
  · by_cases e : f = i
    · subst e
      simp only [if_true] at hv
      simp only [if_neg hij]
      exact hap j g hj hij hv
    · simp only [if_neg e] at hv
      by_cases e2 : f = j
      · subst e2
        simp only [if_true]
        exact fun e3 => hap i g hi e e3 hv
      · simp only [if_neg e2]
        exact h5 i j g hi hj hij hv
/-- One file's row, as JsOK asks it. -/
theorem Tab.row (h : Tab w base rt n rl vs) {i : Nat} (hi : i < n) : ∃ A cap, vs i = .slice A (rl i).length cap ∧ (0 < (rl i).length → ∃ g cur, A = some ⟨g, 0, none⟩ ∧ Blk w g 62 cur ∧ ∀ r p, (rl i)[r]? = some p → ∀ j, j < 15 → cur[r * 15 + j]? = (recC p.1 p.2)[j]?) := by
  have ho := h.own i hi
  have hc := fun (g : Nat) (cap : Nat) (e : vs i = .slice (some ⟨g, 0, none⟩) (rl i).length cap) (j : Nat) (hj : j < (rl i).length * 15) => World.ownsRow.cellAt (e ▸ ho) j hj
  rcases ho.2 with ⟨h1, h2⟩ | ⟨g, cap, cur, h1, _, hg, _, _, _, _⟩
  · exact ⟨none, 0, by rw [h1, h2], fun h3 => by omega⟩
  · refine ⟨_, cap, h1, fun _ => ⟨g, cur, rfl, hg, fun r p hr j hj => ?_⟩⟩
    have hrl : r < (rl i).length := (List.getElem?_eq_some_iff.1 hr).1
    have h3 := hc g cap h1 (r * 15 + j) (by omega)
    have h4 : w.cell? ⟨g, r * 15 + j, none⟩ = cur[r * 15 + j]? := Blk.cell (show Blk w g _ cur from hg) _
    rw [← h4, h3]
    exact recsC_at _ r p hr j hj
end
theorem Tab.zero {w : World} {base rt n : Nat} {cs : Array Value} (hb : Blk w rt 42 cs) (hs : cs.size = n) (hc : ∀ i, i < n → cs[i]? = some (.slice none 0 0)) : Tab w base rt n (fun _ => []) (fun _ => .slice none 0 0) :=
  ⟨⟨cs, hb, hs, hc⟩, fun i _ => World.ownsRow_nil _ _ _ _, fun i j g _ _ _ h => by simp [Value.ownBlock] at h⟩
end Go.Proofs.YtecncdcfmmceeaaGreat
