/- Tables of symbols, every cell known: a block of n symbols of ten cells each. -/
import Derived.Test.YtlpmkbdglpnjhaaRows
import Derived.Test.YtlpmkbdglpnjhaaWords
import Derived.WalkKit
import Derived.WalkSpells
import Derived.LoopTactic
import Derived.Laws.MakeOwn
import Derived.BigRegion
import Derived.BigQuiet
import Derived.Deep.QuietTactic
import Derived.Deep.RegionWith
import Derived.Deep.DeepCutAuto
import Derived.Deep.Light
import Derived.Outline
namespace Go.Proofs.Ytlpmkbdglpnjhaa
open Go.RowKit
set_option linter.unusedVariables false
set_option linter.unusedSimpArgs false

/-- What a symbol holds: its name, its link (two parts), its slot, its flags, its kind. -/
structure SymR where
  nm : ByteArray
  la : Int
  lb : Int
  ns : Int
  fl : Int
  kd : Int
def SymR.cells (r : SymR) : List Value := [.pointer none, .string r.nm, .int .u32 r.la, .int .u32 r.lb, .int .u32 0, .int .u32 0, .int .u32 r.ns, .int .u16 r.fl, .int .u8 r.kd, .int .u8 0]
def SymR.zero : SymR := ⟨⟨#[]⟩, 0, 0, 0, 0, 0⟩
/-- Block g holds the symbols S 0 .. S (n - 1). -/
def Tbl (w : World) (g n : Nat) (S : Nat → SymR) : Prop :=
  ∃ cs : Array Value, Blk w g 67 cs ∧ cs.size = n * 10 ∧ ∀ m, m < n → ∀ j, j < 10 → cs[m * 10 + j]? = (S m).cells[j]?
def upd (S : Nat → SymR) (i : Nat) (r : SymR) : Nat → SymR := fun m => if m = i then r else S m
theorem upd_self (S : Nat → SymR) (i : Nat) : upd S i (S i) = S := by funext m; unfold upd; split; (next e => rw [e]); rfl
theorem upd_at (S : Nat → SymR) (i : Nat) (r : SymR) : upd S i r i = r := if_pos rfl
section
variable {w w' : World} {g n : Nat} {S : Nat → SymR}
theorem Tbl.lt (h : Tbl w g n S) : g < w.heap.size := by obtain ⟨cs, h1, _⟩ := h; exact h1.lt
theorem Tbl.below {B : Nat} (h : Tbl w g n S) (hb : Below B w w') (hg : g < B) : Tbl w' g n S := by
  obtain ⟨cs, h1, h2⟩ := h
  exact ⟨cs, h1.below hb hg, h2⟩
theorem Tbl.grown {row : Option Nat} (h : Tbl w g n S) (hb : w.grownBy w' row) (hg : some g ≠ row) : Tbl w' g n S := by
  obtain ⟨cs, h1, h2⟩ := h
  exact ⟨cs, h1.grown hb hg, h2⟩
theorem Tbl.drew (h : Tbl w g n S) : Tbl w.drew g n S := h
theorem Tbl.alloc (h : Tbl w g n S) (o : Obj) : Tbl (w.alloc o) g n S := by
  obtain ⟨cs, h1, h2⟩ := h
  exact ⟨cs, h1.alloc o, h2⟩
theorem Tbl.far (h : Tbl w g n S) {p : Addr} (hp : g ≠ p.block) (u : Value) : Tbl (w.setCell p u) g n S := by
  obtain ⟨cs, h1, h2⟩ := h
  exact ⟨cs, h1.far hp u, h2⟩
theorem Tbl.cell (h : Tbl w g n S) {m j : Nat} (hm : m < n) (hj : j < 10) : w.cell? ⟨g, m * 10 + j, none⟩ = (S m).cells[j]? := by
  obtain ⟨cs, h1, _, h2⟩ := h
  rw [h1.cell]; exact h2 m hm j hj
theorem Tbl.alias_ (h : Tbl w g n S) {m : Nat} (hm : m < n) : w.cell? ⟨g, m * 10, none⟩ = some (.pointer none) := h.cell hm (j := 0) (by omega)
theorem Tbl.name (h : Tbl w g n S) {m : Nat} (hm : m < n) : w.cell? ⟨g, m * 10 + 1, none⟩ = some (.string (S m).nm) := h.cell hm (j := 1) (by omega)
theorem Tbl.link0 (h : Tbl w g n S) {m : Nat} (hm : m < n) : w.cell? ⟨g, m * 10 + 2, none⟩ = some (.int .u32 (S m).la) := h.cell hm (j := 2) (by omega)
theorem Tbl.link1 (h : Tbl w g n S) {m : Nat} (hm : m < n) : w.cell? ⟨g, m * 10 + 3, none⟩ = some (.int .u32 (S m).lb) := h.cell hm (j := 3) (by omega)
theorem Tbl.nest (h : Tbl w g n S) {m : Nat} (hm : m < n) : w.cell? ⟨g, m * 10 + 6, none⟩ = some (.int .u32 (S m).ns) := h.cell hm (j := 6) (by omega)
theorem Tbl.flags (h : Tbl w g n S) {m : Nat} (hm : m < n) : w.cell? ⟨g, m * 10 + 7, none⟩ = some (.int .u16 (S m).fl) := h.cell hm (j := 7) (by omega)
theorem Tbl.kind (h : Tbl w g n S) {m : Nat} (hm : m < n) : w.cell? ⟨g, m * 10 + 8, none⟩ = some (.int .u8 (S m).kd) := h.cell hm (j := 8) (by omega)
theorem Tbl.old (h : Tbl w g n S) {j : Nat} (hj : j < n * 10) : ∃ v, w.cell? ⟨g, j, none⟩ = some v := by
  obtain ⟨cs, h1, h2, _⟩ := h
  exact ⟨_, by rw [h1.cell, Array.getElem?_eq_getElem (by omega)]⟩
theorem Tbl.frozen (h : Tbl w g n S) (m : Nat) : w.frozen? ⟨g, m, none⟩ = false := by
  obtain ⟨cs, h1, _⟩ := h
  exact h1.frozen m
theorem Tbl.set (h : Tbl w g n S) {i j : Nat} (hi : i < n) (hj : j < 10) (v : Value) (r : SymR) (hr : r.cells = (S i).cells.set j v) : Tbl (w.setCell ⟨g, i * 10 + j, none⟩ v) g n (upd S i r) := by
  obtain ⟨cs, h1, h2, h3⟩ := h
  refine ⟨_, h1.set_ _ _, by simpa using h2, fun m hm k hk => ?_⟩
  rw [Array.getElem?_setIfInBounds, h2]
  by_cases e : m = i
  · subst e
    rw [upd_at, hr]
    by_cases ek : k = j
    · subst ek
      rw [if_pos rfl, if_pos (by omega), List.getElem?_set_self (by exact hj)]
    · rw [if_neg (by omega), List.getElem?_set_ne (fun e => ek e.symm)]
      exact h3 m hm k hk
  · rw [if_neg (by omega)]
    unfold upd
    rw [if_neg e]
    exact h3 m hm k hk
theorem Tbl.upd_set {i : Nat} {r0 : SymR} (h : Tbl w g n (upd S i r0)) {j : Nat} (hi : i < n) (hj : j < 10) (v : Value) (r : SymR) (hr : r.cells = r0.cells.set j v) : Tbl (w.setCell ⟨g, i * 10 + j, none⟩ v) g n (upd S i r) := by
  have := h.set hi hj v r (by rw [upd_at]; exact hr)
  have e : upd (upd S i r0) i r = upd S i r := by funext m; unfold upd; split <;> rfl
  rwa [e] at this
theorem Tbl.ext {S' : Nat → SymR} (h : Tbl w g n S) (hE : ∀ m, m < n → S m = S' m) : Tbl w g n S' := by
  obtain ⟨cs, h1, h2, h3⟩ := h
  exact ⟨cs, h1, h2, fun m hm => by rw [← hE m hm]; exact h3 m hm⟩
end
/-- What the variable InvalidRef holds. -/
def Inv (w : World) : Prop := ∃ cs t, w.heap[0]? = some (.cells cs t (0, 0)) ∧ cs[0]? = some (.int .u32 4294967295) ∧ cs[1]? = some (.int .u32 4294967295)
theorem Inv.below {w w' : World} {B : Nat} (h : Inv w) (hb : Below B w w') (hB : 0 < B) : Inv w' := by
  obtain ⟨cs, t, h1, h2⟩ := h
  exact ⟨cs, t, (hb.block 0 hB).trans h1, h2⟩
theorem Inv.grown {w w' : World} {row : Option Nat} (h : Inv w) (hb : w.grownBy w' row) (hr : row ≠ some 0) : Inv w' := by
  obtain ⟨cs, t, h1, h2⟩ := h
  have hlt : 0 < w.heap.size := by
    rcases Nat.lt_or_ge 0 w.heap.size with hl | hl
    · exact hl
    · rw [Array.getElem?_eq_none hl] at h1; cases h1
  exact ⟨cs, t, (hb.block 0 hlt (fun e => hr e.symm)).trans h1, h2⟩
theorem Inv.cells {w : World} (h : Inv w) : w.cell? ⟨0, 0, none⟩ = some (.int .u32 4294967295) ∧ w.cell? ⟨0, 1, none⟩ = some (.int .u32 4294967295) := by
  obtain ⟨cs, t, h1, h2, h3⟩ := h
  constructor
  · rw [cell_of_row w 0 0 cs t (0, 0) h1]; exact h2
  · rw [cell_of_row w 0 1 cs t (0, 0) h1]; exact h3
theorem Inv.pos {w : World} (h : Inv w) : 0 < w.heap.size := by
  obtain ⟨cs, t, h1, h2⟩ := h
  rcases Nat.lt_or_ge 0 w.heap.size with hl | hl
  · exact hl
  · rw [Array.getElem?_eq_none hl] at h1; cases h1
/-- Entry 0 of the outer row (block o, one entry) is the slice of block g with n symbols. -/
def Out1 (w : World) (o g n : Nat) : Prop := Blk w o 57 #[.slice (some ⟨g, 0, none⟩) n n]
theorem grown_tr {a b c : World} {row : Option Nat} (h : a.grownBy b row) (k : b.grownBy c row) : a.grownBy c row :=
  ⟨k.os.trans h.os, k.tape.trans h.tape, k.output.trans h.output, Nat.le_trans h.size k.size, fun i hi hne => (k.block i (Nat.lt_of_lt_of_le hi h.size) hne).trans (h.block i hi hne)⟩
theorem grown_any {a b : World} {row : Option Nat} (h : a.grownBy b none) : a.grownBy b row := ⟨h.os, h.tape, h.output, h.size, fun i hi _ => h.block i hi (by simp)⟩
def GetPost (w : World) (g i : Nat) (e : Ending) (w' : World) : Prop := e = .returned (.pointer (some ⟨g, i * 10, none⟩)) ∧ w.grownBy w' none
set_option maxHeartbeats 1000000 in
set_option maxRecDepth 100000 in
theorem getS (o g n i : Nat) (w : World) (h : Out1 w o g n) (hi : i < n) (hn : n ≤ 16777216) :
    Calls Try.prog 24 #[.agg #[.slice (some ⟨o, 0, none⟩) 1 1], .agg #[.int .u32 0, .int .u32 i]] w (GetPost w g i) := by
  have ho := h.lt
  have hc : w.cell? ⟨o, 0, none⟩ = some (.slice (some ⟨g, 0, none⟩) n n) := h.cell 0
  have HF : Hid (∀ W : World, W = ((w.alloc (.cells #[.slice (some ⟨o, 0, none⟩) 1 1] 30)).alloc (.cells #[.int .u32 0, .int .u32 i] 40)).drew → w.grownBy W none) := Lib.hid (fun W hW => by
    subst hW; exact only_drew (only_alloc (only_alloc (World.grownBy.refl _ _) _) _))
  clear h
  go_enter Try.func24, Try.ntmps24
  go_wp2
  go_region
  go_wp2
  go_ret
  exact ⟨rfl, HF.out _ rfl⟩
end Go.Proofs.Ytlpmkbdglpnjhaa
