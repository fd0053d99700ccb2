/- Numbers in base 64, plain: the digits, the text of a number, reading it back. -/
import Derived.WalkKit
namespace Go.Proofs.YthbmffocgccniaaDoor
open Go.RowKit
set_option linter.unusedVariables false
set_option linter.unusedSimpArgs false
abbrev Bt := List UInt8
/-- The digit's byte. -/
def dig (d : Nat) : Nat := if d < 26 then 65 + d else if d < 52 then 71 + d else if d < 62 then d - 4 else if d = 62 then 43 else 47
def digU (d : Nat) : UInt8 := UInt8.ofNat (dig d)
theorem dig_lt (d : Nat) (h : d < 64) : dig d < 256 := by unfold dig; split <;> (try split) <;> (try split) <;> (try split) <;> omega
theorem digU_nat (d : Nat) (h : d < 64) : (digU d).toNat = dig d := by
  unfold digU
  rw [UInt8.toNat_ofNat']
  have := dig_lt d h
  omega
theorem dig_inj (a b : Nat) (ha : a < 64) (hb : b < 64) (h : dig a = dig b) : a = b := by
  unfold dig at h
  split at h <;> (try split at h) <;> (try split at h) <;> (try split at h) <;> (try split at h) <;> (try split at h) <;> (try split at h) <;> (try split at h) <;> omega
theorem digU_inj (a b : Nat) (ha : a < 64) (hb : b < 64) (h : digU a = digU b) : a = b :=
  dig_inj a b ha hb (by rw [← digU_nat a ha, ← digU_nat b hb, h])
theorem dig_ne (d : Nat) (h : d < 64) : dig d ≠ 44 ∧ dig d ≠ 59 := by
  unfold dig; split <;> (try split) <;> (try split) <;> (try split) <;> omega
theorem digU_ne (d : Nat) (h : d < 64) : digU d ≠ 44 ∧ digU d ≠ 59 :=
  ⟨fun e => (dig_ne d h).1 (by rw [← digU_nat d h, e]; rfl), fun e => (dig_ne d h).2 (by rw [← digU_nat d h, e]; rfl)⟩
/-- The text of a number with its sign in the last bit. -/
def putN (v : Nat) : Bt := if h : v < 32 then [digU v] else digU (v % 32 + 32) :: putN (v / 32)
termination_by v
decreasing_by omega
theorem putN_small {v : Nat} (h : v < 32) : putN v = [digU v] := by rw [putN, dif_pos h]
theorem putN_big {v : Nat} (h : ¬ v < 32) : putN v = digU (v % 32 + 32) :: putN (v / 32) := by rw [putN, dif_neg h]
def sgn (n : Int) : Nat := if n < 0 then 2 * n.natAbs + 1 else 2 * n.natAbs
def unsgn (v : Nat) : Int := if v % 2 = 1 then -((v / 2 : Nat) : Int) else ((v / 2 : Nat) : Int)
theorem unsgn_sgn (n : Int) : unsgn (sgn n) = n := by
  unfold unsgn sgn
  split <;> split <;> omega
def put (n : Int) : Bt := putN (sgn n)
theorem putN_head (v : Nat) : ∃ d t, d < 64 ∧ putN v = digU d :: t := by
  by_cases h : v < 32
  · exact ⟨v, [], by omega, putN_small h⟩
  · exact ⟨_, _, by omega, putN_big h⟩
theorem put_head (n : Int) : ∃ d t, d < 64 ∧ put n = digU d :: t := putN_head _
theorem putN_len (k : Nat) : ∀ v, v < 32 ^ (k + 1) → (putN v).length ≤ k + 1 := by
  induction k with
  | zero => intro v hv; rw [putN_small (by omega)]; simp
  | succ k ih =>
    intro v hv
    by_cases h : v < 32
    · rw [putN_small h]; simp
    · rw [putN_big h, List.length_cons]
      have := ih (v / 32) (by rw [Nat.div_lt_iff_lt_mul (by omega)]; rw [Nat.pow_succ] at hv; exact hv)
      omega
/-- A mapping: its place, how many fields, what they say. -/
structure Sg where
  line : Nat
  col : Int
  f : Int
  src : Int
  orig : Int
  oc : Int
  name : Int
def zs : Sg := ⟨0, 0, 0, 0, 0, 0, 0⟩
/-- The state after a mapping: also what a reader makes of it. -/
def nx (p g : Sg) : Sg := ⟨g.line, g.col, g.f, if g.f = 1 then p.src else g.src, if g.f = 1 then p.orig else g.orig, if g.f = 1 then p.oc else g.oc, if g.f = 5 then g.name else p.name⟩
def down (p : Sg) : Sg := { p with line := p.line + 1, col := 0 }
def tail4 (p g : Sg) : Bt := put (g.src - p.src) ++ (put (g.orig - p.orig) ++ put (g.oc - p.oc))
def tail (p g : Sg) : Bt := if g.f = 1 then [] else if g.f = 5 then tail4 p g ++ put (g.name - p.name) else tail4 p g
def bc (p g : Sg) : Int := if p.line = g.line then p.col else 0
/-- The text of mappings behind a state; o: whether a comma is due on the same line. -/
def enc : Bool → Sg → List Sg → Bt
  | _, _, [] => []
  | o, p, g :: q => List.replicate (g.line - p.line) 59 ++ ((if o && (p.line == g.line) then [44] else []) ++ (put (g.col - bc p g) ++ (tail p g ++ enc true (nx p g) q)))
theorem enc_nil (o : Bool) (p : Sg) : enc o p [] = [] := by cases o <;> rfl
theorem enc_down (o : Bool) (p g : Sg) (q : List Sg) (h : p.line < g.line) : enc o p (g :: q) = 59 :: enc false (down p) (g :: q) := by
  have h1 : g.line - p.line = (g.line - (down p).line) + 1 := by show _ = g.line - (p.line + 1) + 1; omega
  have h2 : (p.line == g.line) = false := by rw [beq_eq_false_iff_ne]; omega
  have h3 : bc p g = bc (down p) g := by
    unfold bc
    rw [if_neg (by omega)]
    split <;> rfl
  have h4 : nx (down p) g = nx p g := rfl
  have h5 : tail (down p) g = tail p g := rfl
  rw [enc, enc, h1, List.replicate_succ, h2, h3, h4, h5]
  simp
theorem enc_comma (p g : Sg) (q : List Sg) (h : p.line = g.line) : enc true p (g :: q) = 44 :: enc false p (g :: q) := by
  have h2 : (p.line == g.line) = true := by rw [h]; simp
  rw [enc, enc, h2, h, Nat.sub_self]
  simp
theorem enc_open (p : Sg) (q : List Sg) (h : ∀ g ∈ q.head?, p.line < g.line) : enc true p q = enc false p q := by
  cases q with
  | nil => rfl
  | cons g q => rw [enc_down true p g q (h g (by simp)), enc_down false p g q (h g (by simp))]
theorem enc_put (p g : Sg) (q : List Sg) (h : p.line = g.line) : enc false p (g :: q) = put (g.col - p.col) ++ (tail p g ++ enc true (nx p g) q) := by
  rw [enc, h, Nat.sub_self, bc, if_pos h]
  simp
/-- What a reader makes of the mappings. -/
def states : Sg → List Sg → List Sg
  | _, [] => []
  | p, g :: q => nx p g :: states (nx p g) q
theorem states_len : ∀ (p : Sg) (q : List Sg), (states p q).length = q.length
  | _, [] => rfl
  | p, g :: q => by rw [states, List.length_cons, List.length_cons, states_len]
theorem states_down (p : Sg) (q : List Sg) : states (down p) q = states p q := by cases q <;> rfl
/-- A shift: where it stood and stands (line, column, line, column). -/
structure Sh where
  bl : Int
  bo : Int
  al : Int
  ac : Int
def before (s : Sh) (l c : Int) : Prop := s.bl < l ∨ (s.bl = l ∧ s.bo < c)
instance (s : Sh) (l c : Int) : Decidable (before s l c) := by unfold before; infer_instance
def one (s : Sh) (l : Int) : Int := if s.al = l then s.ac - s.bo else 0
def mvStep (l c : Int) (m : Int) (s : Sh) : Int := if before s l c then one s l else m
/-- The last shift ahead of the place moves it. -/
def mv (S : List Sh) (l c : Int) : Int := S.foldl (mvStep l c) 0
theorem mv_none (l c : Int) : ∀ (S : List Sh) (m : Int), (∀ s ∈ S, ¬ before s l c) → S.foldl (mvStep l c) m = m
  | [], m, _ => rfl
  | s :: S, m, h => by
    rw [List.foldl_cons, mvStep, if_neg (h s (by simp))]
    exact mv_none l c S m (fun t ht => h t (by simp [ht]))
theorem mv_all (l c : Int) : ∀ (S : List Sh) (m : Int) (x : Sh), (∀ s ∈ S, before s l c) → S.getLast? = some x → S.foldl (mvStep l c) m = one x l
  | [], m, x, _, h => by simp at h
  | [s], m, x, h, hx => by
    obtain rfl : s = x := by simpa using hx
    rw [List.foldl_cons, mvStep, if_pos (h s (by simp))]; rfl
  | s :: t :: S, m, x, h, hx => by
    rw [List.foldl_cons]
    exact mv_all l c (t :: S) _ x (fun u hu => h u (by simp [hu])) (by rw [List.getLast?_cons_cons] at hx; exact hx)
/-- The first i shifts (behind the one that stands for none) lie ahead, the next does not. -/
structure Cut (S : List Sh) (i : Nat) (l c : Int) : Prop where
  yes : ∀ j s, 1 ≤ j → j ≤ i → S[j]? = some s → before s l c
  no : ∀ j s, i < j → S[j]? = some s → ¬ before s l c
theorem mv_cut {S : List Sh} {i : Nat} {l c : Int} (h : Cut S i l c) (hi : i < S.length) : mv (S.drop 1) l c = if i = 0 then 0 else one (S[i]'hi) l := by
  have hsp : S.drop 1 = (S.drop 1).take i ++ (S.drop 1).drop i := (List.take_append_drop _ _).symm
  unfold mv
  rw [hsp, List.foldl_append, mv_none]
  · by_cases h0 : i = 0
    · subst h0; rfl
    · rw [if_neg h0]
      refine mv_all l c _ 0 _ (fun s hs => ?_) ?_
      · obtain ⟨j, hj, rfl⟩ := List.getElem_of_mem hs
        have hj' : j < i := by simp at hj; omega
        refine h.yes (j + 1) _ (by omega) (by omega) ?_
        rw [List.getElem_take, List.getElem_drop, List.getElem?_eq_getElem (by omega)]
        congr 1
        congr 1
        omega
      · rw [List.getLast?_eq_getElem?, List.length_take, List.length_drop, Nat.min_eq_left (by omega), List.getElem?_take_of_lt (by omega), List.getElem?_drop, List.getElem?_eq_getElem (by omega)]
        congr 1
        congr 1
        omega
  · intro s hs
    obtain ⟨j, hj, rfl⟩ := List.getElem_of_mem hs
    have hj' : j < S.length - 1 - i := by simp at hj; omega
    refine h.no (i + 1 + j) _ (by omega) ?_
    rw [List.getElem_drop, List.getElem_drop, List.getElem?_eq_getElem (by omega)]
    congr 1
    congr 1
    omega
/-- The mapping moved. -/
def sh (S : List Sh) (g : Sg) : Sg := { g with col := g.col + mv (S.drop 1) g.line g.col }
def moved (p : Sg) (d : Int) : Sg := { p with col := p.col + d }
theorem nx_moved (p g : Sg) (d e : Int) : nx (moved p d) (moved g e) = moved (nx p g) e := rfl
theorem tail_moved (p g : Sg) (d e : Int) : tail (moved p d) (moved g e) = tail p g := rfl
theorem sh_moved (S : List Sh) (g : Sg) : sh S g = moved g (mv (S.drop 1) g.line g.col) := rfl
theorem down_moved (p : Sg) (d : Int) : moved (down p) 0 = down (moved p d) := by unfold moved down; simp
theorem states_sh (S : List Sh) : ∀ (p : Sg) (d : Int) (q : List Sg), states (moved p d) (q.map (sh S)) = (states p q).map (sh S)
  | p, d, [] => rfl
  | p, d, g :: q => by
    have h : nx (moved p d) (sh S g) = sh S (nx p g) := rfl
    rw [List.map_cons, states, states, List.map_cons, h]
    congr 1
    exact states_sh S (nx p g) _ q
theorem moved_zero (p : Sg) : moved p 0 = p := by unfold moved; simp
/-- Shifts come in order. -/
def Sorted (S : List Sh) : Prop := ∀ (i j : Nat) (a b : Sh), 1 ≤ i → i ≤ j → S[i]? = some a → S[j]? = some b → a.bl < b.bl ∨ (a.bl = b.bl ∧ a.bo ≤ b.bo)
theorem before_le {a b : Sh} {l c : Int} (h : before b l c) (hab : a.bl < b.bl ∨ (a.bl = b.bl ∧ a.bo ≤ b.bo)) : before a l c := by unfold before at h ⊢; omega
theorem before_mono {a : Sh} {l c l' c' : Int} (h : before a l c) (hle : l < l' ∨ (l = l' ∧ c ≤ c')) : before a l' c' := by unfold before at h ⊢; omega
/-- What the finishing loop knows of the shifts at a place: i of them are crossed, d is the move in force. -/
structure ShI (S : List Sh) (i : Nat) (d : Int) (l c : Int) : Prop where
  lt : i < S.length
  yes : ∀ j s, 1 ≤ j → j ≤ i → S[j]? = some s → before s l c
  dd : d = if i = 0 then 0 else one (S[i]'lt) l
theorem ShI.start {S : List Sh} (h : 0 < S.length) : ShI S 0 0 0 0 := ⟨h, fun j s h1 h2 => by omega, by simp⟩
theorem ShI.down_ {S : List Sh} {i : Nat} {d l c : Int} (h : ShI S i d l c) (he : ∀ s ∈ S, s.al = s.bl) : ShI S i 0 (l + 1) 0 := by
  refine ⟨h.lt, fun j s h1 h2 hs => before_mono (h.yes j s h1 h2 hs) (by omega), ?_⟩
  split
  · rfl
  · rename_i h0
    have h1 := h.yes i _ (by omega) (Nat.le_refl _) (List.getElem?_eq_getElem h.lt)
    have h2 := he _ (List.getElem_mem h.lt)
    unfold one
    rw [if_neg (by unfold before at h1; omega)]
/-- No further shift is crossed: the mapping moves as the one before did. -/
theorem ShI.same {S : List Sh} {i : Nat} {d l c c' : Int} (h : ShI S i d l c) (hc : c ≤ c') (hs : Sorted S) (hno : ∀ s, S[i + 1]? = some s → ¬ before s l c') : mv (S.drop 1) l c' = d ∧ ShI S i d l c' := by
  have hyes : ∀ j s, 1 ≤ j → j ≤ i → S[j]? = some s → before s l c' := fun j s h1 h2 h3 => before_mono (h.yes j s h1 h2 h3) (by omega)
  have hcut : Cut S i l c' := ⟨hyes, fun j s hj hjs hb => by
    have hl : j < S.length := (List.getElem?_eq_some_iff.1 hjs).1
    have h1 : S[i + 1]? = some (S[i + 1]'(by omega)) := List.getElem?_eq_getElem (by omega)
    exact hno _ h1 (before_le hb (hs (i + 1) j _ _ (by omega) (by omega) h1 hjs))⟩
  exact ⟨by rw [mv_cut hcut h.lt]; exact h.dd.symm, ⟨h.lt, hyes, h.dd⟩⟩
/-- Shifts are crossed. -/
theorem ShI.cross {S : List Sh} {i i' : Nat} {d l c c' : Int} (h : ShI S i d l c) (hc : c ≤ c') (hs : Sorted S) (hlt : i < i') (hi' : i' < S.length) (hy : before (S[i']'hi') l c') (hno : ∀ s, S[i' + 1]? = some s → ¬ before s l c') (he : ∀ s ∈ S, s.al = s.bl) :
    mv (S.drop 1) l c' = one (S[i']'hi') l ∧ ShI S i' (one (S[i']'hi') l) l c' ∧ ((S[i']'hi').al ≠ l → d = 0) := by
  have hyes : ∀ j s, 1 ≤ j → j ≤ i' → S[j]? = some s → before s l c' := fun j s h1 h2 h3 => before_le hy (hs j i' _ _ h1 h2 h3 (List.getElem?_eq_getElem hi'))
  have hcut : Cut S i' l c' := ⟨hyes, fun j s hj hjs hb => by
    have hl : j < S.length := (List.getElem?_eq_some_iff.1 hjs).1
    have h1 : S[i' + 1]? = some (S[i' + 1]'(by omega)) := List.getElem?_eq_getElem (by omega)
    exact hno _ h1 (before_le hb (hs (i' + 1) j _ _ (by omega) (by omega) h1 hjs))⟩
  refine ⟨by rw [mv_cut hcut hi', if_neg (by omega)], ⟨hi', hyes, by rw [if_neg (by omega)]⟩, fun hne => ?_⟩
  rw [h.dd]
  split
  · rfl
  · rename_i h0
    have h1 := hs i i' _ _ (by omega) (by omega) (List.getElem?_eq_getElem h.lt) (List.getElem?_eq_getElem hi')
    have h2 := he _ (List.getElem_mem h.lt)
    have h3 := he _ (List.getElem_mem hi')
    unfold one
    rw [if_neg (by unfold before at hy; omega)]
/-- A mapping whose number is as it was, or anew: the text behind it. -/
theorem enc_moved (S : List Sh) (p g : Sg) (q : List Sg) (d : Int) (h : p.line = g.line) : enc false (moved p d) ((g :: q).map (sh S)) = put (g.col - p.col + mv (S.drop 1) g.line g.col - d) ++ (tail p g ++ enc true (moved (nx p g) (mv (S.drop 1) g.line g.col)) (q.map (sh S))) := by
  rw [List.map_cons, enc_put _ _ _ (by exact h)]
  congr 2
  show g.col + mv (S.drop 1) g.line g.col - (p.col + d) = _
  omega
theorem enc_moved_down (S : List Sh) (o : Bool) (p g : Sg) (q : List Sg) (d : Int) (h : p.line < g.line) : enc o (moved p d) ((g :: q).map (sh S)) = 59 :: enc false (moved (down p) 0) ((g :: q).map (sh S)) := by
  rw [List.map_cons, enc_down _ _ _ _ (by exact h), down_moved]
theorem enc_moved_comma (S : List Sh) (p g : Sg) (q : List Sg) (d : Int) (h : p.line = g.line) : enc true (moved p d) ((g :: q).map (sh S)) = 44 :: enc false (moved p d) ((g :: q).map (sh S)) := by
  rw [List.map_cons, enc_comma _ _ _ (by exact h)]
/-- Bounds of a mapping; mappings come in order. -/
structure SgOk (g : Sg) : Prop where
  line : g.line ≤ 1000000
  col : 0 ≤ g.col ∧ g.col ≤ 1000000
  f : g.f = 1 ∨ g.f = 4 ∨ g.f = 5
  src : 0 ≤ g.src ∧ g.src ≤ 1000000
  orig : 0 ≤ g.orig ∧ g.orig ≤ 1000000
  oc : 0 ≤ g.oc ∧ g.oc ≤ 1000000
  name : 0 ≤ g.name ∧ g.name ≤ 1000000
end Go.Proofs.YthbmffocgccniaaDoor
