/- A renamer's slots as they turn; which blocks may turn. -/
import Derived.Test.YtlpmkbdglpnjhaaMnw
namespace Go.Proofs.Ytlpmkbdglpnjhaa
open Go.RowKit
set_option linter.unusedVariables false
set_option linter.unusedSimpArgs false
/-- Only blocks of S, and new ones, have turned. -/
structure Turned (S : Nat → Prop) (w w' : World) : Prop where
  os : w'.os = w.os
  tape : w'.tape = w.tape
  output : w'.output = w.output
  size : w.heap.size ≤ w'.heap.size
  block : ∀ i, i < w.heap.size → ¬ S i → w'.heap[i]? = w.heap[i]?
section
variable {S S' : Nat → Prop} {w w' w'' : World}
theorem Turned.refl (S : Nat → Prop) (w : World) : Turned S w w := ⟨rfl, rfl, rfl, Nat.le_refl _, fun _ _ _ => rfl⟩
theorem Turned.trans (h : Turned S w w') (k : Turned S w' w'') : Turned S w w'' :=
  ⟨k.os.trans h.os, k.tape.trans h.tape, k.output.trans h.output, Nat.le_trans h.size k.size, fun i hi hn => (k.block i (Nat.lt_of_lt_of_le hi h.size) hn).trans (h.block i hi hn)⟩
theorem Turned.more (h : Turned S w w') (hS : ∀ i, i < w.heap.size → S i → S' i) : Turned S' w w' := ⟨h.os, h.tape, h.output, h.size, fun i hi hn => h.block i hi (fun e => hn (hS i hi e))⟩
theorem Turned.of_grown {row : Option Nat} (h : w.grownBy w' row) (hS : ∀ g, row = some g → S g) : Turned S w w' := ⟨h.os, h.tape, h.output, h.size, fun i hi hn => h.block i hi (fun e => hn (hS i e.symm))⟩
theorem Turned.of_below (h : Below w.heap.size w w') : Turned S w w' := ⟨h.os, h.tape, h.output, h.size, fun i hi _ => h.block i hi⟩
theorem Turned.below (h : Turned S w w') {B : Nat} (hB : ∀ i, i < w.heap.size → S i → B ≤ i) (hs : B ≤ w.heap.size) : Below B w w' := ⟨h.os, h.tape, h.output, h.size, fun i hi => h.block i (by omega) (fun e => by have := hB i (by omega) e; omega)⟩
theorem Turned.drew (h : Turned S w w') : Turned S w w'.drew := ⟨h.os, h.tape, h.output, h.size, h.block⟩
theorem Turned.alloc (h : Turned S w w') (o : Obj) : Turned S w (w'.alloc o) := ⟨h.os, h.tape, h.output, Nat.le_trans h.size (by simp), fun i hi hn => (Below.heap_alloc w' o i (Nat.lt_of_lt_of_le hi h.size)).trans (h.block i hi hn)⟩
theorem Turned.setCell (h : Turned S w w') {p : Addr} (hp : S p.block ∨ w.heap.size ≤ p.block) (u : Value) : Turned S w (w'.setCell p u) :=
  ⟨h.os, h.tape, h.output, by simpa [World.setCell] using h.size, fun i hi hn => (Below.heap_setCell w' p u i (by
    rintro rfl
    rcases hp with hp | hp
    · exact hn hp
    · omega)).trans (h.block i hi hn)⟩
theorem Turned.blk (h : Turned S w w') {g : Nat} {t : TypeId} {cs : Array Value} (hb : Blk w g t cs) (hn : ¬ S g) : Blk w' g t cs := (h.block g hb.lt hn).trans hb
theorem Turned.tbl (h : Turned S w w') {g n : Nat} {T : Nat → SymR} (hb : Tbl w g n T) (hn : ¬ S g) : Tbl w' g n T := by
  obtain ⟨cs, h1, h2⟩ := hb
  exact ⟨cs, h.blk h1 hn, h2⟩
theorem Turned.inv (h : Turned S w w') (hI : Inv w) (hn : ¬ S 0) : Inv w' := by
  have hp := hI.pos
  obtain ⟨cs, t, h1, h2⟩ := hI
  exact ⟨cs, t, (h.block 0 hp hn).trans h1, h2⟩
end
/-- A row of c slots without names: their counts, their marks. -/
def SlT (w : World) (g c : Nat) (cf pf : Nat → Int) : Prop :=
  ∃ cs : Array Value, Blk w g 83 cs ∧ cs.size = c * 3 ∧ ∀ m, m < c → cs[m * 3]? = some (.string ⟨#[]⟩) ∧ cs[m * 3 + 1]? = some (.int .u32 (cf m)) ∧ cs[m * 3 + 2]? = some (.int .u32 (pf m))
def updI (f : Nat → Int) (i : Nat) (v : Int) : Nat → Int := fun m => if m = i then v else f m
section
variable {w w' : World} {g c : Nat} {cf pf : Nat → Int}
theorem SlT.lt (h : SlT w g c cf pf) : g < w.heap.size := by obtain ⟨cs, h1, _⟩ := h; exact h1.lt
theorem SlT.turned {S : Nat → Prop} (h : SlT w g c cf pf) (ht : Turned S w w') (hn : ¬ S g) : SlT w' g c cf pf := by
  obtain ⟨cs, h1, h2⟩ := h
  exact ⟨cs, ht.blk h1 hn, h2⟩
theorem SlT.name (h : SlT w g c cf pf) {m : Nat} (hm : m < c) : w.cell? ⟨g, m * 3, none⟩ = some (.string ⟨#[]⟩) := by obtain ⟨cs, h1, _, h2⟩ := h; rw [h1.cell]; exact (h2 m hm).1
theorem SlT.cnt (h : SlT w g c cf pf) {m : Nat} (hm : m < c) : w.cell? ⟨g, m * 3 + 1, none⟩ = some (.int .u32 (cf m)) := by obtain ⟨cs, h1, _, h2⟩ := h; rw [h1.cell]; exact (h2 m hm).2.1
theorem SlT.cap_ (h : SlT w g c cf pf) {m : Nat} (hm : m < c) : w.cell? ⟨g, m * 3 + 2, none⟩ = some (.int .u32 (pf m)) := by obtain ⟨cs, h1, _, h2⟩ := h; rw [h1.cell]; exact (h2 m hm).2.2
theorem SlT.frozen (h : SlT w g c cf pf) (i : Nat) : w.frozen? ⟨g, i, none⟩ = false := by obtain ⟨cs, h1, _⟩ := h; exact h1.frozen i
theorem SlT.blk (h : SlT w g c cf pf) : ∃ cs, Blk w g 83 cs := by obtain ⟨cs, h1, _⟩ := h; exact ⟨cs, h1⟩
theorem SlT.setCnt (h : SlT w g c cf pf) {i : Nat} (hi : i < c) (v : Int) : SlT (w.setCell ⟨g, i * 3 + 1, none⟩ (.int .u32 v)) g c (updI cf i v) pf := by
  obtain ⟨cs, h1, h2, h3⟩ := h
  refine ⟨_, h1.set_ _ _, by simpa using h2, fun m hm => ?_⟩
  simp only [Array.getElem?_setIfInBounds, h2]
  obtain ⟨k1, k2, k3⟩ := h3 m hm
  unfold updI
  by_cases e : m = i
  · subst e
    refine ⟨?_, ?_, ?_⟩
    · rw [if_neg (by omega)]; exact k1
    · rw [if_pos rfl, if_pos (by omega), if_pos rfl]
    · rw [if_neg (by omega)]; exact k3
  · refine ⟨?_, ?_, ?_⟩
    · rw [if_neg (by omega)]; exact k1
    · rw [if_neg (by omega), if_neg e]; exact k2
    · rw [if_neg (by omega)]; exact k3
theorem SlT.setCap (h : SlT w g c cf pf) {i : Nat} (hi : i < c) (v : Int) : SlT (w.setCell ⟨g, i * 3 + 2, none⟩ (.int .u32 v)) g c cf (updI pf i v) := by
  obtain ⟨cs, h1, h2, h3⟩ := h
  refine ⟨_, h1.set_ _ _, by simpa using h2, fun m hm => ?_⟩
  simp only [Array.getElem?_setIfInBounds, h2]
  obtain ⟨k1, k2, k3⟩ := h3 m hm
  unfold updI
  by_cases e : m = i
  · subst e
    refine ⟨?_, ?_, ?_⟩
    · rw [if_neg (by omega)]; exact k1
    · rw [if_neg (by omega)]; exact k2
    · rw [if_pos rfl, if_pos (by omega), if_pos rfl]
  · refine ⟨?_, ?_, ?_⟩
    · rw [if_neg (by omega)]; exact k1
    · rw [if_neg (by omega)]; exact k2
    · rw [if_neg (by omega), if_neg e]; exact k3
end
theorem mkSl_slt {w : World} {g c : Nat} (h : Blk w g 83 (mkSl c)) : SlT w g c (fun _ => 0) (fun _ => 0) := by
  refine ⟨_, h, mkSl_size c, fun m hm => ?_⟩
  have h0 : m * 3 < c * 3 := by omega
  have h1 : m * 3 + 1 < c * 3 := by omega
  have h2 : m * 3 + 2 < c * 3 := by omega
  have m0 : (m * 3) % 3 = 0 := by omega
  have m1 : (m * 3 + 1) % 3 = 1 := by omega
  have m2 : (m * 3 + 2) % 3 = 2 := by omega
  unfold mkSl madeCells
  simp only [zSlot, Value.cells]
  refine ⟨?_, ?_, ?_⟩
  · rw [Array.getElem?_map, Array.getElem?_range, if_pos h0]; simp [m0]
  · rw [Array.getElem?_map, Array.getElem?_range, if_pos h1]; simp [m1]
  · rw [Array.getElem?_map, Array.getElem?_range, if_pos h2]; simp [m2]
def slV (gs cn : Nat → Nat) (j : Nat) : Value := .slice (some ⟨gs j, 0, none⟩) (cn j) (cn j)
/-- The renamer at block br: its four rows of slots at blocks gs 0 .. gs 3. -/
structure RS (o : Nat) (mo : Option Nat) (br gm : Nat) (gs cn : Nat → Nat) (cf pf : Nat → Nat → Int) (w : World) : Prop where
  blk : Blk w br 76 (renCells o mo (slV gs cn 0) (slV gs cn 1) (slV gs cn 2) (slV gs cn 3) (.map (some gm)))
  slt : ∀ j, j < 4 → SlT w (gs j) (cn j) (cf j) (pf j)
  inj : ∀ i j, i < 4 → j < 4 → gs i = gs j → i = j
theorem RS.turned {o : Nat} {mo : Option Nat} {br gm : Nat} {gs cn : Nat → Nat} {cf pf : Nat → Nat → Int} {w w' : World} {S : Nat → Prop} (h : RS o mo br gm gs cn cf pf w) (ht : Turned S w w') (hb : ¬ S br) (hg : ∀ j, j < 4 → ¬ S (gs j)) : RS o mo br gm gs cn cf pf w' :=
  ⟨ht.blk h.blk hb, fun j hj => (h.slt j hj).turned ht (hg j hj), h.inj⟩
def f4 {α : Type} (a b c d : α) (j : Nat) : α := if j = 0 then a else if j = 1 then b else if j = 2 then c else d
theorem lt4 {P : Nat → Prop} (h0 : P 0) (h1 : P 1) (h2 : P 2) (h3 : P 3) : ∀ j, j < 4 → P j := fun j hj => by
  rcases (by omega : j = 0 ∨ j = 1 ∨ j = 2 ∨ j = 3) with rfl | rfl | rfl | rfl <;> assumption
theorem slr_ne {w : World} {base c c' g g' : Nat} (h : Blk w g 83 (mkSl c)) (h' : Blk w g' 83 (mkSl c')) (hne : (Value.slice (some ⟨g, 0, none⟩) c c) ≠ .slice (some ⟨g', 0, none⟩) c' c') : g ≠ g' := by
  rintro rfl
  unfold Blk at h h'
  rw [h] at h'
  injection h' with h'
  injection h' with h'
  have := congrArg Array.size h'
  rw [mkSl_size, mkSl_size] at this
  obtain rfl : c = c' := by omega
  exact hne rfl
theorem RS.of_ptr {base o : Nat} {mo : Option Nat} {c0 c1 c2 c3 : Nat} {v : Value} {w : World} (h : PtrR base o mo c0 c1 c2 c3 v w) :
    ∃ br gm gs, v = .pointer (some ⟨br, 0, none⟩) ∧ base ≤ br ∧ base ≤ gm ∧ (∀ j, j < 4 → base ≤ gs j) ∧ w.heap[gm]? = some (.map #[] 0) ∧ RS o mo br gm gs (f4 c0 c1 c2 c3) (fun _ _ => 0) (fun _ _ => 0) w := by
  obtain ⟨br, s0, s1, s2, s3, mp, h1, h2, h3, h4, ⟨gm, rfl, h5, h6⟩⟩ := h
  obtain ⟨⟨g0, rfl, a0, b0⟩, ⟨g1, rfl, a1, b1⟩, ⟨g2, rfl, a2, b2⟩, ⟨g3, rfl, a3, b3⟩, e01, e02, e03, e12, e13, e23⟩ := h4
  have n01 := slr_ne (base := 0) b0 b1 e01
  have n02 := slr_ne (base := 0) b0 b2 e02
  have n03 := slr_ne (base := 0) b0 b3 e03
  have n12 := slr_ne (base := 0) b1 b2 e12
  have n13 := slr_ne (base := 0) b1 b3 e13
  have n23 := slr_ne (base := 0) b2 b3 e23
  refine ⟨br, gm, f4 g0 g1 g2 g3, h1, h2, h5, lt4 a0 a1 a2 a3, h6, h3, lt4 (mkSl_slt b0) (mkSl_slt b1) (mkSl_slt b2) (mkSl_slt b3), ?_⟩
  intro i j hi hj he
  rcases (by omega : i = 0 ∨ i = 1 ∨ i = 2 ∨ i = 3) with rfl | rfl | rfl | rfl <;> rcases (by omega : j = 0 ∨ j = 1 ∨ j = 2 ∨ j = 3) with rfl | rfl | rfl | rfl <;> simp [f4] at he <;> first | rfl | (exfalso; omega)
end Go.Proofs.Ytlpmkbdglpnjhaa
