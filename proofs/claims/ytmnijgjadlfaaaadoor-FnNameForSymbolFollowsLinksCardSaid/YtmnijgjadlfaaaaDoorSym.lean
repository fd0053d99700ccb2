/- Symbol tables: a block of symbols (ten cells each) with names and links; SymbolMap.Get and FollowSymbols. -/
import Derived.Test.YtmnijgjadlfaaaaDoorRows
import Derived.Test.YtmnijgjadlfaaaaDoorWords
import Derived.WalkKit
import Derived.WalkSpells
import Derived.LoopTactic
import Derived.Laws.MakeOwn
import Derived.BigRegion
import Derived.Deep.RegionWith
import Derived.Deep.Light
import Derived.Outline
namespace Go.Proofs.YtmnijgjadlfaaaaDoor
open Go.RowKit
set_option linter.unusedVariables false
set_option linter.unusedSimpArgs false

/-- Block g has room for n symbols; the first k have these names and links. -/
def Syms (w : World) (g n k : Nat) (nm : Nat → ByteArray) (la lb : Nat → Int) : Prop :=
  ∃ cs : Array Value, Blk w g 52 cs ∧ cs.size = n * 10 ∧ ∀ m, m < k → cs[m * 10 + 1]? = some (.string (nm m)) ∧ cs[m * 10 + 2]? = some (.int .u32 (la m)) ∧ cs[m * 10 + 3]? = some (.int .u32 (lb m))
section
variable {w w' : World} {g n k : Nat} {nm : Nat → ByteArray} {la lb : Nat → Int}
theorem Syms.lt (h : Syms w g n k nm la lb) : g < w.heap.size := by obtain ⟨cs, h1, _⟩ := h; exact h1.lt
theorem Syms.below {B : Nat} (h : Syms w g n k nm la lb) (hb : Below B w w') (hg : g < B) : Syms w' g n k nm la lb := by
  obtain ⟨cs, h1, h2⟩ := h
  exact ⟨cs, h1.below hb hg, h2⟩
theorem Syms.grown {row : Option Nat} (h : Syms w g n k nm la lb) (hb : w.grownBy w' row) (hg : some g ≠ row) : Syms w' g n k nm la lb := by
  obtain ⟨cs, h1, h2⟩ := h
  exact ⟨cs, h1.grown hb hg, h2⟩
theorem Syms.drew (h : Syms w g n k nm la lb) : Syms w.drew g n k nm la lb := h
theorem Syms.alloc (h : Syms w g n k nm la lb) (o : Obj) : Syms (w.alloc o) g n k nm la lb := by
  obtain ⟨cs, h1, h2⟩ := h
  exact ⟨cs, h1.alloc o, h2⟩
theorem Syms.name (h : Syms w g n k nm la lb) {m : Nat} (hm : m < k) : w.cell? ⟨g, m * 10 + 1, none⟩ = some (.string (nm m)) := by
  obtain ⟨cs, h1, _, h2⟩ := h
  rw [h1.cell]; exact (h2 m hm).1
theorem Syms.link (h : Syms w g n k nm la lb) {m : Nat} (hm : m < k) : w.cell? ⟨g, m * 10 + 2, none⟩ = some (.int .u32 (la m)) ∧ w.cell? ⟨g, m * 10 + 3, none⟩ = some (.int .u32 (lb m)) := by
  obtain ⟨cs, h1, _, h2⟩ := h
  rw [h1.cell, h1.cell]; exact (h2 m hm).2
theorem Syms.old (h : Syms w g n k nm la lb) {j : Nat} (hj : j < n * 10) : ∃ v, w.cell? ⟨g, j, none⟩ = some v := by
  obtain ⟨cs, h1, h2, _⟩ := h
  exact ⟨_, by rw [h1.cell, Array.getElem?_eq_getElem (by omega)]⟩
theorem Syms.frozen (h : Syms w g n k nm la lb) (m : Nat) : w.frozen? ⟨g, m, none⟩ = false := by
  obtain ⟨cs, h1, _⟩ := h
  exact h1.frozen m
theorem Syms.setLink (h : Syms w g n k nm la lb) {i : Nat} (hi : i < k) (hn : k ≤ n) (a b : Int) :
    Syms ((w.setCell ⟨g, i * 10 + 2, none⟩ (.int .u32 a)).setCell ⟨g, i * 10 + 3, none⟩ (.int .u32 b)) g n k nm (fun m => if m = i then a else la m) (fun m => if m = i then b else lb m) := by
  obtain ⟨cs, h1, h2, h3⟩ := h
  refine ⟨_, (h1.set_ _ _).set_ _ _, by simpa using h2, fun m hm => ?_⟩
  simp only [Array.getElem?_setIfInBounds, Array.size_setIfInBounds, h2]
  have hc := h3 m hm
  by_cases e : m = i
  · subst e
    refine ⟨?_, ?_, ?_⟩
    · rw [if_neg (by omega), if_neg (by omega)]; exact hc.1
    · rw [if_neg (by omega), if_pos rfl, if_pos (by omega), if_pos rfl]
    · rw [if_pos rfl, if_pos (by omega), if_pos rfl]
  · refine ⟨?_, ?_, ?_⟩
    · rw [if_neg (by omega), if_neg (by omega)]; exact hc.1
    · rw [if_neg (by omega), if_neg (by omega), if_neg e]; exact hc.2.1
    · rw [if_neg (by omega), if_neg (by omega), if_neg e]; exact hc.2.2
end
/-- What the variable InvalidRef holds. -/
def Inv (w : World) : Prop := ∃ cs t, w.heap[0]? = some (.cells cs t (0, 0)) ∧ cs[0]? = some (.int .u32 4294967295) ∧ cs[1]? = some (.int .u32 4294967295)
theorem Inv.below {w w' : World} {B : Nat} (h : Inv w) (hb : Below B w w') (hB : 0 < B) : Inv w' := by
  obtain ⟨cs, t, h1, h2⟩ := h
  exact ⟨cs, t, (hb.block 0 hB).trans h1, h2⟩
theorem Inv.grown {w w' : World} {row : Option Nat} (h : Inv w) (hb : w.grownBy w' row) (hr : row ≠ some 0) : Inv w' := by
  obtain ⟨cs, t, h1, h2⟩ := h
  have hlt : 0 < w.heap.size := by
    rcases Nat.lt_or_ge 0 w.heap.size with hl | hl
    · exact hl
    · rw [Array.getElem?_eq_none hl] at h1; cases h1
  exact ⟨cs, t, (hb.block 0 hlt (fun e => hr e.symm)).trans h1, h2⟩
theorem Inv.cells {w : World} (h : Inv w) : w.cell? ⟨0, 0, none⟩ = some (.int .u32 4294967295) ∧ w.cell? ⟨0, 1, none⟩ = some (.int .u32 4294967295) := by
  obtain ⟨cs, t, h1, h2, h3⟩ := h
  constructor
  · rw [cell_of_row w 0 0 cs t (0, 0) h1]; exact h2
  · rw [cell_of_row w 0 1 cs t (0, 0) h1]; exact h3
theorem Inv.pos {w : World} (h : Inv w) : 0 < w.heap.size := by
  obtain ⟨cs, t, h1, h2⟩ := h
  rcases Nat.lt_or_ge 0 w.heap.size with hl | hl
  · exact hl
  · rw [Array.getElem?_eq_none hl] at h1; cases h1
/-- Entry s of the outer row (block o) is the slice of block g with n symbols. -/
def OutAt (w : World) (o s N g n : Nat) : Prop := o < w.heap.size ∧ s < N ∧ ∃ c, w.cell? ⟨o, s, none⟩ = some (.slice (some ⟨g, 0, none⟩) n c)
theorem OutAt.below {w w' : World} {B o s N g n : Nat} (h : OutAt w o s N g n) (hb : Below B w w') (hB : o < B) : OutAt w' o s N g n :=
  ⟨Nat.lt_of_lt_of_le h.1 hb.size, h.2.1, by obtain ⟨c, hc⟩ := h.2.2; exact ⟨c, (hb.cell (p := ⟨o, s, none⟩) hB).trans hc⟩⟩
theorem OutAt.grown {w w' : World} {o s N g n : Nat} {row : Option Nat} (h : OutAt w o s N g n) (hb : w.grownBy w' row) (hr : some o ≠ row) : OutAt w' o s N g n :=
  ⟨Nat.lt_of_lt_of_le h.1 hb.size, h.2.1, by obtain ⟨c, hc⟩ := h.2.2; exact ⟨c, (World.cell?_of_block (hb.block o h.1 hr)).trans hc⟩⟩
def GetPost (w : World) (g i : Nat) (e : Ending) (w' : World) : Prop := e = .returned (.pointer (some ⟨g, i * 10, none⟩)) ∧ w.grownBy w' none
set_option maxHeartbeats 1000000 in
set_option maxRecDepth 100000 in
theorem getS (o s N c g n i : Nat) (w : World) (h : OutAt w o s N g n) (hi : i < n) (hN : N ≤ 16777216) (hn : n ≤ 16777216) :
    Calls Tryd.prog 17 #[.agg #[.slice (some ⟨o, 0, none⟩) N c], .agg #[.int .u32 s, .int .u32 i]] w (GetPost w g i) := by
  obtain ⟨ho, hs, c', hc⟩ := h
  have HF : Hid (∀ W : World, W = ((w.alloc (.cells #[.slice (some ⟨o, 0, none⟩) N c] 30)).alloc (.cells #[.int .u32 s, .int .u32 i] 38)).drew → w.grownBy W none) := Lib.hid (fun W hW => by
    subst hW; exact only_drew (only_alloc (only_alloc (World.grownBy.refl _ _) _) _))
  go_enter Tryd.func17, Tryd.ntmps17
  go_wp2
  go_region
  go_wp2
  go_ret
  exact ⟨rfl, HF.out _ rfl⟩
end Go.Proofs.YtmnijgjadlfaaaaDoor
