/- The law's own lists: mappings and shifts in order, as they are drawn. -/
import Derived.Test.YthbmffocgccniaaDoorVf1
import Derived.Test.YthbmffocgccniaaDoorVzd
import Derived.Test.YthbmffocgccniaaDoorVze
import Derived.Test.YthbmffocgccniaaDoorVnx
namespace Go.Proofs.YthbmffocgccniaaDoor
open Go.RowKit
set_option linter.unusedVariables false
set_option linter.unusedSimpArgs false
def OrdTo : Nat → Int → List Sg → Nat → Int → Prop
  | l0, c0, [], l, c => l0 < l ∨ (l0 = l ∧ c0 ≤ c)
  | l0, c0, g :: q, l, c => (l0 < g.line ∨ (l0 = g.line ∧ c0 ≤ g.col)) ∧ OrdTo g.line g.col q l c
theorem OrdTo.ord : ∀ {Q : List Sg} {l0 l : Nat} {c0 c : Int}, OrdTo l0 c0 Q l c → Ord l0 c0 Q
  | [], _, _, _, _, _ => trivial
  | g :: q, _, _, _, _, h => ⟨h.1, OrdTo.ord h.2⟩
theorem OrdTo.mono : ∀ {Q : List Sg} {l0 l l' : Nat} {c0 c c' : Int}, OrdTo l0 c0 Q l c → (l < l' ∨ (l = l' ∧ c ≤ c')) → OrdTo l0 c0 Q l' c'
  | [], _, _, _, _, _, _, h, k => by unfold OrdTo at h ⊢; omega
  | g :: q, _, _, _, _, _, _, h, k => ⟨h.1, OrdTo.mono h.2 k⟩
theorem OrdTo.snoc : ∀ {Q : List Sg} {l0 : Nat} {c0 : Int} {g : Sg}, OrdTo l0 c0 Q g.line g.col → OrdTo l0 c0 (Q ++ [g]) g.line g.col
  | [], _, _, g, h => ⟨h, by unfold OrdTo; omega⟩
  | x :: q, _, _, g, h => ⟨h.1, OrdTo.snoc h.2⟩
theorem Ord.lines : ∀ {Q : List Sg} {l : Nat} {c : Int}, Ord l c Q → OrdL l Q
  | [], _, _, _ => trivial
  | g :: q, _, _, h => ⟨by have := h.1; omega, Ord.lines h.2⟩
theorem OrdL.sh_ (S : List Sh) : ∀ {Q : List Sg} {l : Nat}, OrdL l Q → OrdL l (Q.map (sh S))
  | [], _, _ => trivial
  | g :: q, _, h => ⟨h.1, OrdL.sh_ S h.2⟩
/-- Bounds of a mapping that the law draws. -/
structure QB (g : Sg) : Prop where
  line : g.line ≤ 1000
  col : 0 ≤ g.col ∧ g.col ≤ 1000
  f : FB g
  src : 0 ≤ g.src ∧ g.src ≤ 1000
  orig : 0 ≤ g.orig ∧ g.orig ≤ 1000
  oc : 0 ≤ g.oc ∧ g.oc ≤ 1000
  name : 0 ≤ g.name ∧ g.name ≤ 1000
theorem QB.pb {g : Sg} (h : QB g) : PB g := by
  obtain ⟨a, b, c, d, e, f, i⟩ := h
  exact ⟨by omega, by omega, by omega, by omega, by omega, by omega⟩
structure SQ (s : Sh) : Prop where
  e : s.al = s.bl
  bl : 0 ≤ s.bl ∧ s.bl ≤ 1000
  bo : 0 ≤ s.bo ∧ s.bo ≤ 1000
  ac : -1000 ≤ s.ac ∧ s.ac ≤ 2000
theorem SQ.sb {s : Sh} (h : SQ s) : SB s := by
  obtain ⟨a, b, c, d⟩ := h
  exact ⟨a, by omega, by omega, by omega⟩
theorem mv_bound (l c : Int) : ∀ (S : List Sh) (m : Int), (∀ s ∈ S, SQ s) → -5000 ≤ m ∧ m ≤ 5000 → -5000 ≤ S.foldl (mvStep l c) m ∧ S.foldl (mvStep l c) m ≤ 5000
  | [], m, _, h => h
  | s :: S, m, hs, h => by
    rw [List.foldl_cons]
    refine mv_bound l c S _ (fun t ht => hs t (by simp [ht])) ?_
    obtain ⟨a, b, c', d⟩ := hs s (by simp)
    unfold mvStep one
    split
    · split <;> omega
    · exact h
theorem sh_pb {S : List Sh} {g : Sg} (hg : QB g) (hs : ∀ s ∈ S, SQ s) : PB (sh S g) ∧ FB (sh S g) := by
  have hm := mv_bound g.line g.col (S.drop 1) 0 (fun s h => hs s (List.mem_of_mem_drop h)) (by omega)
  obtain ⟨a, b, c, d, e, f, i⟩ := hg
  refine ⟨⟨by show g.line ≤ 10000; omega, ?_, by show -1000000 ≤ g.src ∧ g.src ≤ 1000000; omega, by show -1000000 ≤ g.orig ∧ g.orig ≤ 1000000; omega, by show -1000000 ≤ g.oc ∧ g.oc ≤ 1000000; omega, by show -1000000 ≤ g.name ∧ g.name ≤ 1000000; omega⟩, c⟩
  show -1000000 ≤ g.col + mv (S.drop 1) g.line g.col ∧ g.col + mv (S.drop 1) g.line g.col ≤ 1000000
  unfold mv
  omega
/-- Shifts drawn so far: in order, none behind the place. -/
structure SL (S : List Sh) (l c : Int) : Prop where
  ne : 0 < S.length
  srt : Sorted S
  sq : ∀ s ∈ S, SQ s
  last : ∀ (j : Nat) (s : Sh), 1 ≤ j → S[j]? = some s → s.bl < l ∨ (s.bl = l ∧ s.bo ≤ c)
theorem SL.start : SL [⟨0, 0, 0, 0⟩] 0 0 := by
  refine ⟨by simp, fun i j a b h1 h2 ha hb => ?_, fun s hs => ?_, fun j s h1 hs => ?_⟩
  · have := (List.getElem?_eq_some_iff.1 hb).1
    simp at this; omega
  · obtain rfl : s = ⟨0, 0, 0, 0⟩ := by simpa using hs
    exact ⟨rfl, by decide, by decide, by decide⟩
  · have := (List.getElem?_eq_some_iff.1 hs).1
    simp at this; omega
theorem SL.mono {S : List Sh} {l c l' c' : Int} (h : SL S l c) (k : l < l' ∨ (l = l' ∧ c ≤ c')) : SL S l' c' :=
  ⟨h.ne, h.srt, h.sq, fun j s h1 h2 => by have := h.last j s h1 h2; omega⟩
theorem SL.snoc {S : List Sh} {x : Sh} (h : SL S x.bl x.bo) (hx : SQ x) : SL (S ++ [x]) x.bl x.bo := by
  have key : ∀ (j : Nat) (s : Sh), 1 ≤ j → (S ++ [x])[j]? = some s → (j < S.length ∧ S[j]? = some s) ∨ (j = S.length ∧ s = x) := fun j s h1 hs => by
    rcases Nat.lt_or_ge j S.length with h2 | h2
    · rw [List.getElem?_append_left h2] at hs; exact .inl ⟨h2, hs⟩
    · have h3 := (List.getElem?_eq_some_iff.1 hs).1
      rw [List.length_append] at h3
      have h4 : j = S.length := by simp at h3; omega
      subst h4
      refine .inr ⟨rfl, ?_⟩
      simpa using hs.symm
  refine ⟨by simp, fun i j a b h1 h2 ha hb => ?_, fun s hs => ?_, fun j s h1 hs => ?_⟩
  · rcases key j b (by omega) hb with ⟨j1, j2⟩ | ⟨j1, j2⟩
    · rcases key i a h1 ha with ⟨i1, i2⟩ | ⟨i1, i2⟩
      · exact h.srt i j a b h1 h2 i2 j2
      · omega
    · rw [j2]
      rcases key i a h1 ha with ⟨i1, i2⟩ | ⟨i1, i2⟩
      · exact h.last i a h1 i2
      · rw [i2]; omega
  · rcases List.mem_append.1 hs with h1 | h1
    · exact h.sq s h1
    · obtain rfl : s = x := by simpa using h1
      exact hx
  · rcases key j s h1 hs with ⟨j1, j2⟩ | ⟨j1, j2⟩
    · exact h.last j s h1 j2
    · rw [j2]; omega
theorem RD.next_ {B rb : Nat} {A : Option Addr} {n cap : Nat} {zs : List Int} {w : World} (h : RD B rb A n cap zs w) : ∃ cs, Blk w rb 25 cs := by
  obtain ⟨i, h1, _⟩ := h.st
  exact ⟨_, h1⟩
/-- A row of the law's own beside the reader. -/
structure LM (w : World) (rb : Nat) (A : Option Addr) (n cap : Nat) (zs : List Int) (wr : World) : Prop where
  rd : RD w.heap.size rb A n cap zs wr
  gr : w.grownBy wr none
section
variable {w : World} {rb : Nat} {A : Option Addr} {n cap : Nat} {zz : List Int} {wr w' : World}
theorem LM.next (h : LM w rb A n cap zz wr) (k : wr.grownBy w' (some rb)) (hr : RD w.heap.size rb A n cap zz w') : LM w rb A n cap zz w' :=
  ⟨hr, ⟨k.os.trans h.gr.os, k.tape.trans h.gr.tape, k.output.trans h.gr.output, Nat.le_trans h.gr.size k.size, fun i hi hne => (k.block i (Nat.lt_of_lt_of_le hi h.gr.size) (fun e => by have := h.rd.hb; injection e with e; omega)).trans (h.gr.block i hi hne)⟩⟩
theorem LM.grown (h : LM w rb A n cap zz wr) (k : wr.grownBy w' none) : LM w rb A n cap zz w' := ⟨h.rd.grown k, ⟨k.os.trans h.gr.os, k.tape.trans h.gr.tape, k.output.trans h.gr.output, Nat.le_trans h.gr.size k.size, fun i hi hne => (k.block i (Nat.lt_of_lt_of_le hi h.gr.size) hne).trans (h.gr.block i hi hne)⟩⟩
/-- A block of the law's own is turned, or its row. -/
theorem LM.row (h : LM w rb A n cap zz wr) {row : Option Nat} (k : wr.grownBy w' row) (h1 : ∀ g, row = some g → w.heap.size ≤ g ∧ g ≠ rb) : LM w rb A n cap zz w' := by
  refine ⟨h.rd.keep (fun i hi hl => k.block i hl (fun e => ?_)), ⟨k.os.trans h.gr.os, k.tape.trans h.gr.tape, k.output.trans h.gr.output, Nat.le_trans h.gr.size k.size, fun i hi hne => (k.block i (Nat.lt_of_lt_of_le hi h.gr.size) (fun e => ?_)).trans (h.gr.block i hi hne)⟩⟩
  · obtain ⟨a, b⟩ := h1 i e.symm
    rcases hi with h2 | h2
    · omega
    · exact b h2
  · obtain ⟨a, b⟩ := h1 i e.symm
    omega
theorem LM.set (h : LM w rb A n cap zz wr) {x : Nat} (hx : w.heap.size ≤ x) (hne : x ≠ rb) (j : Nat) (u : Value) : LM w rb A n cap zz (wr.setCell ⟨x, j, none⟩ u) :=
  h.row (row := some x) (only_setCell (World.grownBy.refl _ _) (.inl rfl) u) (fun g e => by injection e with e; exact ⟨by omega, by omega⟩)
theorem LM.own {B : Nat} {t : TypeId} {sz m : Nat} {v : Value} {xs : List Value} (h : LM w rb A n cap zz wr) (ho : wr.ownsRow B t sz v m xs) (ht : t ≠ 25) (k : wr.grownBy w' (some rb)) : w'.ownsRow B t sz v m xs := by
  obtain ⟨cs, hb⟩ := h.rd.next_
  exact ho.kept k (.inr (own_blk_ne ho hb ht))
theorem DM.next {x : Nat} {p : Sg} {out : List Sg} {qv : Value} (h : DM w x p out qv wr) (hl : LM w rb A n cap zz wr) (k : wr.grownBy w' (some rb)) : DM w x p out qv w' := by
  obtain ⟨cs, hb⟩ := hl.rd.next_
  obtain ⟨a1, a2, a3, a4, a5⟩ := h
  have hne : x ≠ rb := fun e => by subst e; exact Blk.ne_ a2 hb (by decide) rfl
  exact ⟨hl.own a1 (by decide) k, a2.grown k (fun e => hne (by injection e)), a3, a4, ⟨k.os.trans a5.os, k.tape.trans a5.tape, k.output.trans a5.output, Nat.le_trans a5.size k.size, fun i hi hn => (k.block i (Nat.lt_of_lt_of_le hi a5.size) (fun e => by have := hl.rd.hb; injection e with e; omega)).trans (a5.block i hi hn)⟩⟩
theorem DM.xne {x : Nat} {p : Sg} {out : List Sg} {qv : Value} (h : DM w x p out qv wr) (hl : LM w rb A n cap zz wr) : x ≠ rb := by
  obtain ⟨cs, hb⟩ := hl.rd.next_
  intro e
  subst e
  exact Blk.ne_ h.blk hb (by decide) rfl
end
end Go.Proofs.YthbmffocgccniaaDoor
