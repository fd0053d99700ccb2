/- Rows of mappings in memory; bounds of their text. -/
import Derived.Test.YthbmffocgccniaaDoorVen
namespace Go.Proofs.YthbmffocgccniaaDoor
open Go.RowKit
set_option linter.unusedVariables false
set_option linter.unusedSimpArgs false
def sgC (x : Sg) : List Value := [.int .i64 (x.line : Int), .int .i64 x.col, .int .i64 x.f, .int .i64 x.src, .int .i64 x.orig, .int .i64 x.oc, .int .i64 x.name]
def sgsC (l : List Sg) : List Value := l.flatMap sgC
theorem sgsC_len : ∀ l : List Sg, (sgsC l).length = l.length * 7
  | [] => rfl
  | r :: l => by
    have := sgsC_len l
    unfold sgsC at this ⊢
    rw [List.flatMap_cons, List.length_append, this, List.length_cons]
    show 7 + _ = _
    omega
theorem sgsC_at : ∀ (l : List Sg) (i : Nat) (x : Sg), l[i]? = some x → ∀ j, j < 7 → (sgsC l)[i * 7 + j]? = (sgC x)[j]?
  | [], i, x, h, j, hj => by simp at h
  | r :: l, 0, x, h, j, hj => by
    obtain rfl : r = x := by simpa using h
    unfold sgsC
    rw [List.flatMap_cons, List.getElem?_append_left (by show _ < 7; omega)]
    congr 1; omega
  | r :: l, i + 1, x, h, j, hj => by
    have h' : l[i]? = some x := by simpa using h
    have := sgsC_at l i x h' j hj
    unfold sgsC at this ⊢
    rw [List.flatMap_cons, List.getElem?_append_right (by show 7 ≤ _; omega), ← this]
    congr 1
    show _ - 7 = _
    omega
theorem sgsC_snoc (l : List Sg) (x : Sg) : sgsC (l ++ [x]) = sgsC l ++ sgC x := by unfold sgsC; rw [List.flatMap_append]; simp
/-- A row of mappings in memory. -/
def SgB (w : World) (A : Option Addr) (n : Nat) (Q : List Sg) : Prop := Q.length = n ∧ (0 < n → ∃ g cs, A = some ⟨g, 0, none⟩ ∧ Blk w g 30 cs ∧ ∀ k x, Q[k]? = some x → ∀ j, j < 7 → cs[k * 7 + j]? = (sgC x)[j]?)
theorem SgB.keep {w w' : World} {A : Option Addr} {n : Nat} {Q : List Sg} (h : SgB w A n Q) (hk : ∀ g cs, Blk w g 30 cs → Blk w' g 30 cs) : SgB w' A n Q := by
  obtain ⟨h1, h2⟩ := h
  refine ⟨h1, fun hn => ?_⟩
  obtain ⟨g, cs, rfl, hb, hc⟩ := h2 hn
  exact ⟨g, cs, rfl, hk g cs hb, hc⟩
theorem SgB.grown {w w' : World} {A : Option Addr} {n : Nat} {Q : List Sg} (h : SgB w A n Q) (hg : w.grownBy w' none) : SgB w' A n Q := h.keep fun g cs hb => hb.grown hg (by simp)
theorem SgB.of_own {w : World} {base n : Nat} {A : Option Addr} {c : Nat} {Q : List Sg} (h : w.ownsRow base 30 7 (.slice A n c) n (sgsC Q)) : SgB w A n Q := by
  have hl : Q.length = n := by have := h.1; rw [sgsC_len] at this; omega
  refine ⟨hl, fun hn => ?_⟩
  rcases h.2 with ⟨h1, h2⟩ | ⟨g, cap, cur, h1, _, hg, _, _, hcs, ht⟩
  · omega
  · obtain rfl : A = some ⟨g, 0, none⟩ := by injection h1
    refine ⟨g, cur, rfl, hg, fun k x hk j hj => ?_⟩
    have hkl : k < n := by rw [← hl]; exact (List.getElem?_eq_some_iff.1 hk).1
    rw [← sgsC_at Q k x hk j hj, ← ht, List.getElem?_take_of_lt (by omega), ← Array.getElem?_toList]
theorem SgB.cells {w : World} {A : Option Addr} {n : Nat} {Q : List Sg} (h : SgB w A n Q) {k : Nat} (hk : k < n) : ∃ g x, A = some ⟨g, 0, none⟩ ∧ Q[k]? = some x ∧ ∀ j, j < 7 → w.cell? ⟨g, k * 7 + j, none⟩ = (sgC x)[j]? := by
  obtain ⟨g, cs, h1, h2, h3⟩ := h.2 (by omega)
  have hl : k < Q.length := by have := h.1; omega
  exact ⟨g, Q[k], h1, List.getElem?_eq_getElem hl, fun j hj => (h2.cell _).trans (h3 k _ (List.getElem?_eq_getElem hl) j hj)⟩
/-- Mappings come in order. -/
def Ord : Nat → Int → List Sg → Prop
  | _, _, [] => True
  | l, c, g :: q => (l < g.line ∨ (l = g.line ∧ c ≤ g.col)) ∧ Ord g.line g.col q
/-- Bounds of a state: its numbers are small. -/
structure PB (p : Sg) : Prop where
  line : p.line ≤ 10000
  col : -1000000 ≤ p.col ∧ p.col ≤ 1000000
  src : -1000000 ≤ p.src ∧ p.src ≤ 1000000
  orig : -1000000 ≤ p.orig ∧ p.orig ≤ 1000000
  oc : -1000000 ≤ p.oc ∧ p.oc ≤ 1000000
  name : -1000000 ≤ p.name ∧ p.name ≤ 1000000
def FB (p : Sg) : Prop := p.f = 1 ∨ p.f = 4 ∨ p.f = 5
theorem PB.nx_ {p g : Sg} (hp : PB p) (hg : PB g) : PB (nx p g) := by
  obtain ⟨a1, a2, a3, a4, a5, a6⟩ := hp
  obtain ⟨b1, b2, b3, b4, b5, b6⟩ := hg
  refine ⟨b1, b2, ?_, ?_, ?_, ?_⟩ <;> (unfold nx; dsimp only; split <;> assumption)
theorem PB.zs_ : PB zs := ⟨by decide, by decide, by decide, by decide, by decide, by decide⟩
theorem tail_len (p g : Sg) (hp : PB p) (hg : PB g) : (tail p g).length ≤ 36 := by
  obtain ⟨a1, a2, a3, a4, a5, a6⟩ := hp
  obtain ⟨b1, b2, b3, b4, b5, b6⟩ := hg
  have h1 := put_len (g.src - p.src) (by omega)
  have h2 := put_len (g.orig - p.orig) (by omega)
  have h3 := put_len (g.oc - p.oc) (by omega)
  have h4 := put_len (g.name - p.name) (by omega)
  unfold tail tail4
  split
  · simp
  · split <;> (simp only [List.length_append]; omega)
theorem enc_len : ∀ (Q : List Sg) (o : Bool) (p : Sg), PB p → (∀ g ∈ Q, PB g) → (enc o p Q).length ≤ Q.length * 10046
  | [], o, p, _, _ => by rw [enc_nil]; simp
  | g :: q, o, p, hp, hq => by
    have hg := hq g (by simp)
    have ih := enc_len q true (nx p g) (hp.nx_ hg) (fun x hx => hq x (by simp [hx]))
    have h1 := tail_len p g hp hg
    have h2 : (put (g.col - bc p g)).length ≤ 9 := put_len _ (by
      have a2 := hp.col
      have b2 := hg.col
      unfold bc; split <;> omega)
    have h3 := hg.line
    rw [enc]
    have h4 : (if (o && (p.line == g.line)) = true then ([44] : Bt) else []).length ≤ 1 := by split <;> simp
    simp only [List.length_append, List.length_replicate, List.length_cons] at *
    omega
theorem sgn_small (n : Int) (h : -4000000 ≤ n ∧ n ≤ 4000000) : sgn n < 2 ^ 35 := by unfold sgn; split <;> omega
def putS (n : Int) : ByteArray := ⟨(put n).toArray⟩
theorem putS_list (n : Int) : (putS n).data.toList = put n := by unfold putS; simp
theorem putS_size (n : Int) : (putS n).size = (put n).length := by rw [size_list, putS_list]
def PutEq (n : Int) (w : World) (e : Ending) (w' : World) : Prop := e = .returned (.string (putS n)) ∧ w' = w
theorem zput_eq (n : Int) (w : World) (h : -4000000 ≤ n ∧ n ≤ 4000000) : Calls Tryd.prog 8 #[.int .i64 n] w (PutEq n w) := by
  refine (zput_any n w (by omega)).mono ?_
  rintro e w' ⟨s, rfl, hs, rfl⟩
  refine ⟨?_, rfl⟩
  have : s = putS n := by
    apply ByteArray.ext
    apply Array.toList_inj.1
    rw [hs, putS_list]
  rw [this]
end Go.Proofs.YthbmffocgccniaaDoor
