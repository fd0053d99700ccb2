/- Finalize: its memory. -/
import Derived.Test.YthbmffocgccniaaDoorVft
import Derived.Test.YthbmffocgccniaaDoorVdn
import Derived.Test.YthbmffocgccniaaDoorVnx
namespace Go.Proofs.YthbmffocgccniaaDoor
open Go.RowKit
set_option linter.unusedVariables false
set_option linter.unusedSimpArgs false
theorem TxB.cut {W : World} {A : Option Addr} {n cap l h : Nat} {T : Bt} (ht : TxB W A n T) (h1 : l ≤ h) (h2 : h ≤ n) (h3 : n ≤ cap) : TxB W (if cap = l then A else A.map (·.add (l * 1))) (h - l) ((T.take h).drop l) := by
  obtain ⟨e1, e2⟩ := ht
  refine ⟨by rw [List.length_drop, List.length_take]; omega, fun h0 => ?_⟩
  obtain ⟨g, o, cs, rfl, hb, hc⟩ := e2 (by omega)
  rw [if_neg (by omega)]
  refine ⟨g, o + l, cs, ?_, hb, fun k c hk => ?_⟩
  · simp only [Option.map_some, Nat.mul_one]
    unfold Addr.add
    split
    · rename_i h; subst h; rfl
    · rfl
  · rw [List.getElem?_drop, List.getElem?_take] at hk
    split at hk
    · rw [Nat.add_assoc]; exact hc (l + k) c hk
    · cases hk
theorem cut_lh (A : Option Addr) (n cap l h : Nat) (h1 : l ≤ h) (h2 : h ≤ n) (h3 : n ≤ cap) : ∃ A', (∀ W : World, (Instr.slice 22 (.slice A n cap) (some (.int .i64 (l : Int))) (some (.int .i64 (h : Int))) none).run Tryd.prog W = .ok (.slice A' (h - l) (cap - l)) W) ∧ ∀ W T, TxB W A n T → TxB W A' (h - l) ((T.take h).drop l) := by
  have he : Tryd.prog.elem 22 = 5 := by kernel_rfl
  have hu : Tryd.prog.underlying 22 = some (.slice (Tryd.prog.elem 22)) := by kernel_rfl
  refine ⟨if cap = l then A else A.map (·.add (l * 1)), fun W => ?_, fun W T ht => ht.cut h1 h2 h3⟩
  rw [run_slice_lh W 22 A n cap hu .i64 .i64 (l : Int) (h : Int) (by omega) (by omega) (by omega), he, Tryd.sizeOf5]
  simp [sliced]
theorem cut_l (A : Option Addr) (n cap l : Nat) (h1 : l ≤ n) (h3 : n ≤ cap) : ∃ A', (∀ W : World, (Instr.slice 22 (.slice A n cap) (some (.int .i64 (l : Int))) none none).run Tryd.prog W = .ok (.slice A' (n - l) (cap - l)) W) ∧ ∀ W T, TxB W A n T → TxB W A' (n - l) (T.drop l) := by
  have he : Tryd.prog.elem 22 = 5 := by kernel_rfl
  have hu : Tryd.prog.underlying 22 = some (.slice (Tryd.prog.elem 22)) := by kernel_rfl
  refine ⟨if cap = l then A else A.map (·.add (l * 1)), fun W => ?_, fun W T ht => ?_⟩
  · rw [run_slice_l W 22 A n cap hu .i64 (l : Int) (by omega) (by omega), he, Tryd.sizeOf5]
    simp [sliced]
  · have := ht.cut (l := l) (h := n) h1 (Nat.le_refl _) h3
    rwa [List.take_of_length_le (by rw [ht.1]; exact Nat.le_refl _)] at this
theorem JI.pres {B jb : Nat} {its : List It} {ln : Nat} {w w' : World} (h : JI B jb its ln w) (hk : ∀ (g : Nat) (t : TypeId) (cs : Array Value) (fr : Nat × Nat), w.heap[g]? = some (Obj.cells cs t fr) → (t = 5 ∨ t = 48 ∨ t = 60) → w'.heap[g]? = some (Obj.cells cs t fr)) : JI B jb its ln w' := by
  obtain ⟨⟨bv, lb, h1, h2⟩, h3, h4, h5⟩ := h
  refine ⟨⟨bv, lb, hk _ _ _ _ h1 (.inr (.inl rfl)), ⟨h2.1, h2.2.imp id fun ⟨g, cap, cur, a1, a2, a3, a4⟩ => ⟨g, cap, cur, a1, a2, hk g _ cur _ a3 (.inr (.inr rfl)), a4⟩⟩⟩, fun it hi => ?_, h4, h5⟩
  obtain ⟨e1, e2⟩ := h3 it hi
  refine ⟨e1, fun hn => ?_⟩
  obtain ⟨g, o, cs, a1, a2, a3⟩ := e2 hn
  obtain ⟨fr, a2⟩ := a2
  exact ⟨g, o, cs, a1, ⟨fr, hk g _ cs fr a2 (.inl rfl)⟩, a3⟩
/-- The finishing loop's memory. -/
structure FM (w : World) (pb gb jb : Nat) (pv : Array Value) (l : Nat) (c : Int) (its : List It) (wr : World) : Prop where
  pbk : Blk wr pb 38 pv
  gbk : Blk wr gb 32 #[.int .i64 (l : Int), .int .i64 c]
  ji : JI w.heap.size jb its (cat its).length wr
  hg : w.heap.size ≤ gb
  gr : w.grownBy wr none
section
variable {w : World} {pb gb jb : Nat} {pv : Array Value} {l : Nat} {c : Int} {its : List It} {wr w' : World}
theorem FM.jk {its' : List It} (h : FM w pb gb jb pv l c its wr) (k : JK w.heap.size wr w') (hj : JI w.heap.size jb its' (cat its').length w') : FM w pb gb jb pv l c its' w' :=
  ⟨k.blk h.pbk (by decide) (by decide), k.blk h.gbk (by decide) (by decide), hj, h.hg, ⟨k.os.trans h.gr.os, k.tape.trans h.gr.tape, k.output.trans h.gr.output, Nat.le_trans h.gr.size k.size, fun i hi hne => (k.low hi (Nat.lt_of_lt_of_le hi h.gr.size)).trans (h.gr.block i hi hne)⟩⟩
theorem FM.grown (h : FM w pb gb jb pv l c its wr) (k : wr.grownBy w' none) : FM w pb gb jb pv l c its w' := h.jk (JK.grown k) (h.ji.grown k)
theorem FM.set {l' : Nat} {c' : Int} (h : FM w pb gb jb pv l c its wr) (j : Nat) (u : Value) (hc : (#[Value.int .i64 (l : Int), .int .i64 c] : Array Value).setIfInBounds j u = #[.int .i64 (l' : Int), .int .i64 c']) : FM w pb gb jb pv l' c' its (wr.setCell ⟨gb, j, none⟩ u) := by
  have hk : ∀ (g : Nat) (t : TypeId) (cs : Array Value) (fr : Nat × Nat), wr.heap[g]? = some (Obj.cells cs t fr) → t ≠ 32 → (wr.setCell ⟨gb, j, none⟩ u).heap[g]? = some (Obj.cells cs t fr) := fun g t cs fr hb ht => (Below.heap_setCell wr ⟨gb, j, none⟩ u g (fun e => by
    have e' : g = gb := e
    subst e'
    have h2 := h.gbk
    unfold Blk at h2
    rw [hb] at h2
    injection h2 with h2
    injection h2 with _ h2
    exact ht h2)).trans hb
  refine ⟨hk _ _ _ _ h.pbk (by decide), ?_, h.ji.pres (fun g t cs fr hb ht => hk g t cs fr hb (by rcases ht with rfl | rfl | rfl <;> decide)), h.hg, ?_⟩
  · rw [← hc]; exact h.gbk.set_ j u
  · exact ⟨h.gr.os, h.gr.tape, h.gr.output, by rw [size_setCell]; exact h.gr.size, fun i hi hne => (Below.heap_setCell wr ⟨gb, j, none⟩ u i (by show i ≠ gb; have := h.hg; omega)).trans (h.gr.block i hi hne)⟩
end
end Go.Proofs.YthbmffocgccniaaDoor
