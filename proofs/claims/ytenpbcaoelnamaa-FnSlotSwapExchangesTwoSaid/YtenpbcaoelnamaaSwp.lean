/- slotAndCountArray: pairs in a row, and its Swap. -/
import Derived.Test.YtenpbcaoelnamaaRows
import Derived.Test.YtenpbcaoelnamaaWords
import Derived.WalkKit
import Derived.WalkSpells
import Derived.LoopTactic
import Derived.Laws.MakeOwn
import Derived.BigRegion
import Derived.Deep.Light
import Derived.Outline
namespace Go.Proofs.Ytenpbcaoelnamaa
open Go.RowKit
set_option linter.unusedVariables false
set_option linter.unusedSimpArgs false

/-- Block g holds n pairs (F m, G m). -/
def Pairs (w : World) (g n : Nat) (F G : Nat → Int) : Prop :=
  ∃ cs : Array Value, Blk w g 31 cs ∧ cs.size = 2 * n ∧ ∀ m, m < n → cs[2 * m]? = some (.int .u32 (F m)) ∧ cs[2 * m + 1]? = some (.int .u32 (G m))
/-- Places i and j exchanged. -/
def exch (F : Nat → Int) (i j m : Nat) : Int := if m = i then F j else if m = j then F i else F m
theorem Pairs.swap {w : World} {g n : Nat} {F G : Nat → Int} {i j : Nat} (h : Pairs w g n F G) (hi : i < n) (hj : j < n) :
    Pairs ((((w.setCell ⟨g, 2 * i, none⟩ (.int .u32 (F j))).setCell ⟨g, 2 * i + 1, none⟩ (.int .u32 (G j))).setCell ⟨g, 2 * j, none⟩ (.int .u32 (F i))).setCell ⟨g, 2 * j + 1, none⟩ (.int .u32 (G i))) g n (exch F i j) (exch G i j) := by
  obtain ⟨cs, hb, hs, hc⟩ := h
  refine ⟨_, (((hb.set_ _ _).set_ _ _).set_ _ _).set_ _ _, by simpa using hs, fun m hm => ?_⟩
  have h1 := hc m hm
  simp only [Array.getElem?_setIfInBounds, Array.size_setIfInBounds, hs, exch]
  by_cases e1 : m = i
  · subst e1
    by_cases e2 : j = m
    · subst e2
      constructor <;> simp <;> omega
    · constructor
      · rw [if_neg (by omega), if_neg (by omega), if_neg (by omega), if_pos rfl, if_pos (by omega), if_pos rfl]
      · rw [if_neg (by omega), if_neg (by omega), if_pos rfl, if_pos (by omega), if_pos rfl]
  · by_cases e2 : m = j
    · subst e2
      constructor
      · rw [if_neg (by omega), if_pos rfl, if_pos (by omega), if_neg e1, if_pos rfl]
      · rw [if_pos rfl, if_pos (by omega), if_neg e1, if_pos rfl]
    · constructor
      · rw [if_neg (by omega), if_neg (by omega), if_neg (by omega), if_neg (by omega), if_neg e1, if_neg e2]; exact h1.1
      · rw [if_neg (by omega), if_neg (by omega), if_neg (by omega), if_neg (by omega), if_neg e1, if_neg e2]; exact h1.2
theorem Pairs.below {w w' : World} {g n B : Nat} {F G : Nat → Int} (h : Pairs w g n F G) (hb : Below B w w') (hg : g < B) : Pairs w' g n F G := by
  obtain ⟨cs, h1, h2⟩ := h
  exact ⟨cs, h1.below hb hg, h2⟩
theorem Pairs.drew {w : World} {g n : Nat} {F G : Nat → Int} (h : Pairs w g n F G) : Pairs w.drew g n F G := h
theorem Pairs.cell {w : World} {g n : Nat} {F G : Nat → Int} (h : Pairs w g n F G) {m : Nat} (hm : m < n) : w.cell? ⟨g, m * 2, none⟩ = some (.int .u32 (F m)) ∧ w.cell? ⟨g, m * 2 + 1, none⟩ = some (.int .u32 (G m)) := by
  obtain ⟨cs, h1, _, h2⟩ := h
  rw [Nat.mul_comm, h1.cell, h1.cell]
  exact h2 m hm
theorem Pairs.frozen {w : World} {g n : Nat} {F G : Nat → Int} (h : Pairs w g n F G) (m : Nat) : w.frozen? ⟨g, m, none⟩ = false := by
  obtain ⟨cs, h1, _⟩ := h
  exact h1.frozen m
set_option maxHeartbeats 2000000 in
set_option maxRecDepth 100000 in
theorem swap_any (g n cap : Nat) (F G : Nat → Int) (i j : Nat) (hi : i < n) (hj : j < n) (hn : n ≤ 16777216) (w : World) (h : Pairs w g n F G) (B : Nat) (hB : B ≤ g) :
    Calls Try.prog 10 #[.slice (some ⟨g, 0, none⟩) n cap, .int .i64 i, .int .i64 j] w fun e w' => e = .returned (.tuple #[]) ∧ Pairs w' g n (exch F i j) (exch G i j) ∧ Below B w w' := by
  have ci := h.cell hi
  have cj := h.cell hj
  obtain ⟨ci0, ci1⟩ := ci
  obtain ⟨cj0, cj1⟩ := cj
  have zi0 := h.frozen (i * 2)
  have zi1 := h.frozen (i * 2 + 1)
  have zj0 := h.frozen (j * 2)
  have zj1 := h.frozen (j * 2 + 1)
  have H := Lib.hid h
  clear h
  have hfin : ∀ W : World, W = ((((w.setCell ⟨g, 2 * i, none⟩ (.int .u32 (F j))).setCell ⟨g, 2 * i + 1, none⟩ (.int .u32 (G j))).setCell ⟨g, 2 * j, none⟩ (.int .u32 (F i))).setCell ⟨g, 2 * j + 1, none⟩ (.int .u32 (G i))).drew → Pairs W g n (exch F i j) (exch G i j) ∧ Below B w W := fun W hW => by
    subst hW
    exact ⟨(H.out.swap hi hj).drew, (((((Below.refl B w).setCell (p := ⟨g, _, none⟩) hB _).setCell (p := ⟨g, _, none⟩) hB _).setCell (p := ⟨g, _, none⟩) hB _).setCell (p := ⟨g, _, none⟩) hB _).drew⟩
  have HFIN := Lib.hid hfin
  clear hfin
  by_cases e : i = j
  · subst e
    go_enter Try.func10, Try.ntmps10
    go_wp2
    go_region
    go_wp2
    go_end0
    exact ⟨rfl, HFIN.out _ (by simp only [Nat.mul_comm])⟩
  · have e' : ¬ j = i := fun h => e h.symm
    have n1 : ¬ j * 2 = i * 2 := by omega
    have n2 : ¬ i * 2 = j * 2 := by omega
    go_enter Try.func10, Try.ntmps10
    go_wp2
    go_region
    go_wp2
    go_end0
    exact ⟨rfl, HFIN.out _ (by simp only [Nat.mul_comm])⟩
end Go.Proofs.Ytenpbcaoelnamaa
