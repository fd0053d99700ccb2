/- Finalize, plain: what the finishing loop has done to the text; rows of shifts in memory. -/
import Derived.Test.YthbmffocgccniaaDoorVsg
import Derived.Test.YthbmffocgccniaaDoorVjn
namespace Go.Proofs.YthbmffocgccniaaDoor
open Go.RowKit
set_option linter.unusedVariables false
set_option linter.unusedSimpArgs false
/-- What is left after a mapping begins with a comma, with a line break, or is nothing. -/
def Rest (p : Sg) (q : List Sg) (cm : Bt) : Prop :=
  (q = [] ∧ cm = []) ∨ (∃ (g : Sg) (q2 : List Sg), q = g :: q2 ∧ cm = [44] ∧ p.line = g.line) ∨ ∃ (g : Sg) (q2 : List Sg), q = g :: q2 ∧ cm = [] ∧ p.line < g.line
theorem rest_of (p : Sg) (q : List Sg) (h : Ord p.line p.col q) : ∃ cm, Rest p q cm ∧ enc true p q = cm ++ enc false p q := by
  cases q with
  | nil => exact ⟨[], .inl ⟨rfl, rfl⟩, rfl⟩
  | cons g q =>
    rcases h.1 with h1 | h1
    · exact ⟨[], .inr (.inr ⟨g, q, rfl, rfl, h1⟩), by rw [enc_down true p g q h1, enc_down false p g q h1]; rfl⟩
    · exact ⟨[44], .inr (.inl ⟨g, q, rfl, rfl, h1.1⟩), enc_comma p g q h1.1⟩
structure FT (T TQ : Bt) (S : List Sh) (p : Sg) (q : List Sg) (pre : Bt) (st : Nat) (J : Bt) (i : Nat) (d : Int) : Prop where
  t : T = pre ++ enc false p q
  o : ∃ O, TQ = O ++ enc false (moved p d) (q.map (sh S)) ∧ J ++ pre.drop st = 60 :: O
  st : st ≤ pre.length
  shi : ShI S i d p.line p.col
  ord : Ord p.line p.col q
  pb : PB p
  qb : ∀ g ∈ q, PB g ∧ FB g
section
variable {T TQ : Bt} {S : List Sh} {p g : Sg} {q : List Sg} {pre : Bt} {st : Nat} {J : Bt} {i : Nat} {d : Int}
theorem FT.start (hT : T = enc false zs q) (hTQ : TQ = enc false zs (q.map (sh S))) (hS : 0 < S.length) (ho : Ord 0 0 q) (hq : ∀ g ∈ q, PB g ∧ FB g) : FT T TQ S zs q [] 0 [60] 0 0 :=
  ⟨hT, ⟨[], by rw [hTQ, moved_zero]; rfl, rfl⟩, Nat.le_refl _, ShI.start hS, ho, PB.zs_, hq⟩
theorem FT.down_ (h : FT T TQ S p (g :: q) pre st J i d) (hl : p.line < g.line) (hc0 : 0 ≤ g.col) (he : ∀ s ∈ S, s.al = s.bl) : FT T TQ S (down p) (g :: q) (pre ++ [59]) st J i 0 := by
  obtain ⟨h1, ⟨O, h2, h3⟩, h4, h5, h6, h7, h8⟩ := h
  refine ⟨by rw [h1, enc_down false p g q hl]; simp, ⟨O ++ [59], ?_, ?_⟩, by simp; omega, ?_, ?_, ?_, h8⟩
  · rw [h2, enc_moved_down S false p g q d hl]; simp
  · rw [List.drop_append_of_le_length h4, ← List.append_assoc, h3]; rfl
  · have := h5.down_ he
    exact this
  · exact ⟨by show p.line + 1 < g.line ∨ (p.line + 1 = g.line ∧ (0 : Int) ≤ g.col); rcases Nat.lt_or_ge (p.line + 1) g.line with h | h; exact .inl h; exact .inr ⟨by omega, hc0⟩, h6.2⟩
  · exact ⟨by show p.line + 1 ≤ 10000; have := (h8 g (by simp)).1.line; omega, ⟨by show (-1000000 : Int) ≤ 0; omega, by show (0 : Int) ≤ 1000000; omega⟩, h7.src, h7.orig, h7.oc, h7.name⟩
/-- The mapping's number stays as it is. -/
theorem FT.keep {cm : Bt} {j : Nat} (h : FT T TQ S p (g :: q) pre st J i d) (hl : p.line = g.line) (hm : mv (S.drop 1) g.line g.col = d) (hs : ShI S j d g.line g.col) (hr : Rest (nx p g) q cm) (hc : enc true (nx p g) q = cm ++ enc false (nx p g) q) (hc2 : enc true (moved (nx p g) d) (q.map (sh S)) = cm ++ enc false (moved (nx p g) d) (q.map (sh S))) :
    FT T TQ S (nx p g) q (pre ++ (put (g.col - p.col) ++ (tail p g ++ cm))) st J j d := by
  obtain ⟨h1, ⟨O, h2, h3⟩, h4, h5, h6, h7, h8⟩ := h
  refine ⟨by rw [h1, enc_put p g q hl, hc]; simp, ⟨O ++ (put (g.col - p.col) ++ (tail p g ++ cm)), ?_, ?_⟩, by simp; omega, hs, h6.2, h7.nx_ (h8 g (by simp)).1, fun x hx => h8 x (by simp [hx])⟩
  · rw [h2, enc_moved S p g q d hl, hm, hc2]
    have : g.col - p.col + d - d = g.col - p.col := by omega
    rw [this]; simp
  · rw [List.drop_append_of_le_length h4, ← List.append_assoc, h3]; rfl
/-- The mapping's number is written anew. -/
theorem FT.move {cm : Bt} {j : Nat} {sd : Int} (h : FT T TQ S p (g :: q) pre st J i d) (hl : p.line = g.line) (hm : mv (S.drop 1) g.line g.col = sd) (hs : ShI S j sd g.line g.col) (hr : Rest (nx p g) q cm) (hc : enc true (nx p g) q = cm ++ enc false (nx p g) q) (hc2 : enc true (moved (nx p g) sd) (q.map (sh S)) = cm ++ enc false (moved (nx p g) sd) (q.map (sh S))) :
    FT T TQ S (nx p g) q (pre ++ (put (g.col - p.col) ++ (tail p g ++ cm))) (pre ++ put (g.col - p.col)).length (J ++ pre.drop st ++ put (g.col - p.col + sd - d)) j sd := by
  obtain ⟨h1, ⟨O, h2, h3⟩, h4, h5, h6, h7, h8⟩ := h
  refine ⟨by rw [h1, enc_put p g q hl, hc]; simp, ⟨O ++ (put (g.col - p.col + sd - d) ++ (tail p g ++ cm)), ?_, ?_⟩, by simp, hs, h6.2, h7.nx_ (h8 g (by simp)).1, fun x hx => h8 x (by simp [hx])⟩
  · rw [h2, enc_moved S p g q d hl, hm, hc2]; simp
  · have e : pre ++ (put (g.col - p.col) ++ (tail p g ++ cm)) = (pre ++ put (g.col - p.col)) ++ (tail p g ++ cm) := by simp
    rw [e, List.drop_left' rfl, h3]; simp
end
theorem rest_moved {p : Sg} {q : List Sg} {cm : Bt} (h : Rest p q cm) (S : List Sh) (d : Int) : enc true (moved p d) (q.map (sh S)) = cm ++ enc false (moved p d) (q.map (sh S)) := by
  rcases h with ⟨rfl, rfl⟩ | ⟨g, q2, rfl, rfl, hl⟩ | ⟨g, q2, rfl, rfl, hl⟩
  · rfl
  · exact enc_moved_comma S p g q2 d hl
  · rw [enc_moved_down S true p g q2 d hl, enc_moved_down S false p g q2 d hl]; rfl
/-- Shifts in memory. -/
def shC (s : Sh) : List Value := [.int .i64 s.bl, .int .i64 s.bo, .int .i64 s.al, .int .i64 s.ac]
def shsC (l : List Sh) : List Value := l.flatMap shC
theorem shsC_len : ∀ l : List Sh, (shsC l).length = l.length * 4
  | [] => rfl
  | r :: l => by
    have := shsC_len l
    unfold shsC at this ⊢
    rw [List.flatMap_cons, List.length_append, this, List.length_cons]
    show 4 + _ = _
    omega
theorem shsC_at : ∀ (l : List Sh) (i : Nat) (x : Sh), l[i]? = some x → ∀ j, j < 4 → (shsC l)[i * 4 + j]? = (shC x)[j]?
  | [], i, x, h, j, hj => by simp at h
  | r :: l, 0, x, h, j, hj => by
    obtain rfl : r = x := by simpa using h
    unfold shsC
    rw [List.flatMap_cons, List.getElem?_append_left (by show _ < 4; omega)]
    congr 1; omega
  | r :: l, i + 1, x, h, j, hj => by
    have h' : l[i]? = some x := by simpa using h
    have := shsC_at l i x h' j hj
    unfold shsC at this ⊢
    rw [List.flatMap_cons, List.getElem?_append_right (by show 4 ≤ _; omega), ← this]
    congr 1
    show _ - 4 = _
    omega
theorem shsC_snoc (l : List Sh) (x : Sh) : shsC (l ++ [x]) = shsC l ++ shC x := by unfold shsC; rw [List.flatMap_append]; simp
structure ShB (w : World) (g : Nat) (S : List Sh) : Prop where
  blk : ∃ cs, Blk w g 34 cs ∧ ∀ k x, S[k]? = some x → ∀ j, j < 4 → cs[k * 4 + j]? = (shC x)[j]?
theorem ShB.jk {B : Nat} {w w' : World} {g : Nat} {S : List Sh} (h : ShB w g S) (k : JK B w w') : ShB w' g S := by
  obtain ⟨cs, h1, h2⟩ := h.blk
  exact ⟨cs, k.blk h1 (by decide) (by decide), h2⟩
theorem ShB.grown {w w' : World} {g : Nat} {S : List Sh} (h : ShB w g S) (k : w.grownBy w' none) : ShB w' g S := h.jk (JK.grown (B := 0) k)
theorem ShB.cells {w : World} {g : Nat} {S : List Sh} (h : ShB w g S) {k : Nat} {x : Sh} (hx : S[k]? = some x) : ∀ j, j < 4 → w.cell? ⟨g, k * 4 + j, none⟩ = (shC x)[j]? := by
  obtain ⟨cs, h1, h2⟩ := h.blk
  exact fun j hj => (h1.cell _).trans (h2 k x hx j hj)
structure SB (s : Sh) : Prop where
  e : s.al = s.bl
  bl : 0 ≤ s.bl ∧ s.bl ≤ 10000
  bo : -1000000 ≤ s.bo ∧ s.bo ≤ 1000000
  ac : -1000000 ≤ s.ac ∧ s.ac ≤ 1000000
end Go.Proofs.YthbmffocgccniaaDoor
