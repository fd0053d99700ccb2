/- Rows of entries of four numbers (StableSymbolCount): a block of them, one entry put, two exchanged. -/
import Derived.Test.YtmgiffcdnhapmaaWords
import Derived.WalkKit
namespace Go.Proofs.Ytmgiffcdnhapmaa
open Go.RowKit
set_option linter.unusedVariables false
set_option linter.unusedSimpArgs false

structure Ent where
  a : Int
  b : Int
  c : Int
  d : Int
/-- Block g has room for n entries; the first k of them are E. -/
def Quads (w : World) (g t n k : Nat) (E : Nat → Ent) : Prop :=
  ∃ cs : Array Value, Blk w g t cs ∧ cs.size = n * 4 ∧ ∀ m, m < k → cs[m * 4]? = some (.int .u32 (E m).a) ∧ cs[m * 4 + 1]? = some (.int .u32 (E m).b) ∧ cs[m * 4 + 2]? = some (.int .u32 (E m).c) ∧ cs[m * 4 + 3]? = some (.int .u32 (E m).d)
def upd (E : Nat → Ent) (i : Nat) (e : Ent) (m : Nat) : Ent := if m = i then e else E m
def exE {α : Type} (E : Nat → α) (i j m : Nat) : α := if m = i then E j else if m = j then E i else E m
theorem Quads.put {w : World} {g t n k : Nat} {E : Nat → Ent} {i : Nat} (h : Quads w g t n k E) (hi : i < n) (e : Ent) (K : Nat) (hK : ∀ m, m < K → m < k ∨ m = i) :
    Quads ((((w.setCell ⟨g, i * 4, none⟩ (.int .u32 e.a)).setCell ⟨g, i * 4 + 1, none⟩ (.int .u32 e.b)).setCell ⟨g, i * 4 + 2, none⟩ (.int .u32 e.c)).setCell ⟨g, i * 4 + 3, none⟩ (.int .u32 e.d)) g t n K (upd E i e) := by
  obtain ⟨cs, hb, hs, hc⟩ := h
  refine ⟨_, (((hb.set_ _ _).set_ _ _).set_ _ _).set_ _ _, by simpa using hs, fun m hm => ?_⟩
  simp only [Array.getElem?_setIfInBounds, Array.size_setIfInBounds, hs, upd]
  by_cases e1 : m = i
  · subst e1
    refine ⟨?_, ?_, ?_, ?_⟩
    · rw [if_neg (by omega), if_neg (by omega), if_neg (by omega), if_pos rfl, if_pos (by omega), if_pos rfl]
    · rw [if_neg (by omega), if_neg (by omega), if_pos rfl, if_pos (by omega), if_pos rfl]
    · rw [if_neg (by omega), if_pos rfl, if_pos (by omega), if_pos rfl]
    · rw [if_pos rfl, if_pos (by omega), if_pos rfl]
  · have h1 := hc m ((hK m hm).resolve_right e1)
    refine ⟨?_, ?_, ?_, ?_⟩
    · rw [if_neg (by omega), if_neg (by omega), if_neg (by omega), if_neg (by omega), if_neg e1]; exact h1.1
    · rw [if_neg (by omega), if_neg (by omega), if_neg (by omega), if_neg (by omega), if_neg e1]; exact h1.2.1
    · rw [if_neg (by omega), if_neg (by omega), if_neg (by omega), if_neg (by omega), if_neg e1]; exact h1.2.2.1
    · rw [if_neg (by omega), if_neg (by omega), if_neg (by omega), if_neg (by omega), if_neg e1]; exact h1.2.2.2
theorem Quads.ext {w : World} {g t n k : Nat} {E F : Nat → Ent} (h : Quads w g t n k E) (hE : ∀ m, m < k → E m = F m) : Quads w g t n k F := by
  obtain ⟨cs, h1, h2, h3⟩ := h
  exact ⟨cs, h1, h2, fun m hm => by rw [← hE m hm]; exact h3 m hm⟩
theorem upd_upd (E : Nat → Ent) (i j : Nat) : ∀ m, upd (upd E i (E j)) j (E i) m = exE E i j m := by
  intro m
  unfold upd exE
  by_cases h1 : m = j <;> by_cases h2 : m = i
  · subst h1; subst h2; simp
  · subst h1; simp [h2]
  · subst h2; simp [h1]
  · simp [h1, h2]
theorem Quads.below {w w' : World} {g t n k B : Nat} {E : Nat → Ent} (h : Quads w g t n k E) (hb : Below B w w') (hg : g < B) : Quads w' g t n k E := by
  obtain ⟨cs, h1, h2⟩ := h
  exact ⟨cs, h1.below hb hg, h2⟩
theorem Quads.drew {w : World} {g t n k : Nat} {E : Nat → Ent} (h : Quads w g t n k E) : Quads w.drew g t n k E := h
theorem Quads.drewN {w : World} {g t n k : Nat} {E : Nat → Ent} (h : Quads w g t n k E) (j : Nat) : Quads (w.drewN j) g t n k E := h
theorem Quads.lt {w : World} {g t n k : Nat} {E : Nat → Ent} (h : Quads w g t n k E) : g < w.heap.size := by
  obtain ⟨cs, h1, _⟩ := h
  exact h1.lt
theorem Quads.grown {w w' : World} {g t n k : Nat} {E : Nat → Ent} {row : Option Nat} (h : Quads w g t n k E) (hb : w.grownBy w' row) (hg : some g ≠ row) : Quads w' g t n k E := by
  obtain ⟨cs, h1, h2⟩ := h
  exact ⟨cs, h1.grown hb hg, h2⟩
theorem Quads.cell {w : World} {g t n k : Nat} {E : Nat → Ent} (h : Quads w g t n k E) {m : Nat} (hm : m < k) :
    w.cell? ⟨g, m * 4, none⟩ = some (.int .u32 (E m).a) ∧ w.cell? ⟨g, m * 4 + 1, none⟩ = some (.int .u32 (E m).b) ∧ w.cell? ⟨g, m * 4 + 2, none⟩ = some (.int .u32 (E m).c) ∧ w.cell? ⟨g, m * 4 + 3, none⟩ = some (.int .u32 (E m).d) := by
  obtain ⟨cs, h1, _, h2⟩ := h
  rw [h1.cell, h1.cell, h1.cell, h1.cell]
  exact h2 m hm
theorem Quads.frozen {w : World} {g t n k : Nat} {E : Nat → Ent} (h : Quads w g t n k E) (m : Nat) : w.frozen? ⟨g, m, none⟩ = false := by
  obtain ⟨cs, h1, _⟩ := h
  exact h1.frozen m
theorem Quads.alloc {w : World} {g t n k : Nat} {E : Nat → Ent} (h : Quads w g t n k E) (o : Obj) : Quads (w.alloc o) g t n k E := by
  obtain ⟨cs, h1, h2⟩ := h
  exact ⟨cs, h1.alloc o, h2⟩
theorem Quads.far {w : World} {g t n k : Nat} {E : Nat → Ent} (h : Quads w g t n k E) {p : Addr} (hp : g ≠ p.block) (u : Value) : Quads (w.setCell p u) g t n k E := by
  obtain ⟨cs, h1, h2⟩ := h
  exact ⟨cs, h1.far hp u, h2⟩
theorem Quads.old {w : World} {g t n k : Nat} {E : Nat → Ent} (h : Quads w g t n k E) {j : Nat} (hj : j < n * 4) : ∃ v, w.cell? ⟨g, j, none⟩ = some v := by
  obtain ⟨cs, h1, h2, _⟩ := h
  exact ⟨_, by rw [h1.cell, Array.getElem?_eq_getElem (by omega)]⟩
theorem Quads.new (w : World) (t n : Nat) (cs : Array Value) (h : cs.size = n * 4) (E : Nat → Ent) : Quads (w.alloc (.cells cs t)) w.heap.size t n 0 E :=
  ⟨cs, Blk.new w t cs, h, fun m hm => by omega⟩
theorem Quads.below' {w w' : World} {g t n k B : Nat} {E : Nat → Ent} (h : Quads w g t n k E) (hb : Below B w w') (hB : w.heap.size ≤ B) : Quads w' g t n k E := h.below hb (Nat.lt_of_lt_of_le h.lt hB)
/-- A column of numbers behind an address. -/
def ColA (w : World) (g n : Nat) (F : Nat → Int) : Prop := g < w.heap.size ∧ ∀ m, m < n → w.cell? ⟨g, m, none⟩ = some (.int .u32 (F m))
theorem ColA.below {w w' : World} {g n B : Nat} {F : Nat → Int} (h : ColA w g n F) (hb : Below B w w') (hB : w.heap.size ≤ B) : ColA w' g n F :=
  ⟨by have := hb.size; have := h.1; omega, fun m hm => (hb.cell (p := ⟨g, m, none⟩) (by show g < B; have := h.1; omega)).trans (h.2 m hm)⟩
theorem ColA.of_blk {w : World} {g t : Nat} {zs : List Int} {n : Nat} (h : Blk w g t ((zs.map (Value.int .u32)).toArray)) (hl : zs.length = n) : ColA w g n (fun m => zs.getD m 0) :=
  ⟨h.lt, fun m hm => by
    rw [h.cell, List.getElem?_toArray, List.getElem?_map, List.getElem?_eq_getElem (by omega)]; simp only [List.getD_eq_getElem?_getD]; rw [List.getElem?_eq_getElem (by omega)]; rfl⟩
end Go.Proofs.Ytmgiffcdnhapmaa
