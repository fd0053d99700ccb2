/- Rows of entries of six cells (version ranges): as lists, read behind an address, in a block of the call's own. -/
import Derived.Test.YtldhoaefnekknaaWords
import Derived.WalkKit
import Derived.ProofKit
import Derived.Deep.Slices
import Derived.Deep.Fields
import Derived.ChangeSame
namespace Go.Proofs.Ytldhoaefnekknaa
open Go.RowKit
set_option linter.unusedVariables false
set_option linter.unusedSimpArgs false

/-- One range: start and end, three numbers each. -/
structure Rng where
  a : Int
  b : Int
  c : Int
  d : Int
  e : Int
  f : Int
def Rng.ok (r : Rng) : Prop := (0 ≤ r.a ∧ r.a ≤ 65535) ∧ (0 ≤ r.b ∧ r.b ≤ 255) ∧ (0 ≤ r.c ∧ r.c ≤ 255) ∧ (0 ≤ r.d ∧ r.d ≤ 65535) ∧ (0 ≤ r.e ∧ r.e ≤ 255) ∧ (0 ≤ r.f ∧ r.f ≤ 255)
def cells6 (r : Rng) : List Value := [.int .u16 r.a, .int .u8 r.b, .int .u8 r.c, .int .u16 r.d, .int .u8 r.e, .int .u8 r.f]
def row6 (l : List Rng) : List Value := l.flatMap cells6
theorem row6_len : ∀ l : List Rng, (row6 l).length = l.length * 6
  | [] => rfl
  | r :: l => by
    have := row6_len l
    unfold row6 at this ⊢
    rw [List.flatMap_cons, List.length_append, this, List.length_cons]
    show 6 + _ = _
    omega
theorem row6_at : ∀ (l : List Rng) (i : Nat) (x : Rng), l[i]? = some x → ∀ j, j < 6 → (row6 l)[i * 6 + j]? = (cells6 x)[j]?
  | [], i, x, h, j, hj => by simp at h
  | r :: l, 0, x, h, j, hj => by
    obtain rfl : r = x := by simpa using h
    unfold row6
    rw [List.flatMap_cons, List.getElem?_append_left (by show _ < 6; omega)]
    congr 1; omega
  | r :: l, i + 1, x, h, j, hj => by
    have h' : l[i]? = some x := by simpa using h
    have := row6_at l i x h' j hj
    unfold row6 at this ⊢
    rw [List.flatMap_cons, List.getElem?_append_right (by show 6 ≤ _; omega), ← this]
    congr 1
    show _ - 6 = _
    omega
theorem row6_one (l : List Rng) : ∀ u ∈ row6 l, u.oneCell' = true := by
  intro u hu
  unfold row6 at hu
  rw [List.mem_flatMap] at hu
  obtain ⟨r, _, hu⟩ := hu
  unfold cells6 at hu
  simp only [List.mem_cons, List.not_mem_nil, or_false] at hu
  rcases hu with rfl | rfl | rfl | rfl | rfl | rfl <;> rfl
theorem row6_snoc (l : List Rng) (r : Rng) : row6 (l ++ [r]) = row6 l ++ cells6 r := by unfold row6; rw [List.flatMap_append]; simp
/-- The six cells of an entry at an address. -/
def At6 (w : World) (b k : Nat) (r : Rng) : Prop :=
  w.cell? ⟨b, k, none⟩ = some (.int .u16 r.a) ∧ w.cell? ⟨b, k + 1, none⟩ = some (.int .u8 r.b) ∧ w.cell? ⟨b, k + 2, none⟩ = some (.int .u8 r.c) ∧
  w.cell? ⟨b, k + 3, none⟩ = some (.int .u16 r.d) ∧ w.cell? ⟨b, k + 4, none⟩ = some (.int .u8 r.e) ∧ w.cell? ⟨b, k + 5, none⟩ = some (.int .u8 r.f)
theorem reads6 {w : World} {B : Nat} {A : Option Addr} {n : Nat} {Z : List Rng} (h : Reads w B 6 A n (row6 Z)) (hn : 0 < n) :
    ∃ b off, A = some ⟨b, off, none⟩ ∧ b < B ∧ ∀ i r, Z[i]? = some r → At6 w b (off + i * 6) r := by
  obtain ⟨ad, rfl, hb, hc⟩ := h.2 hn
  obtain ⟨b, off, spot⟩ := ad
  have hl := h.1
  rw [row6_len] at hl
  have hs : spot = none := by
    have h0 : (0 : Nat) < (row6 Z).length := by rw [row6_len]; omega
    have := hc 0 _ (List.getElem?_eq_getElem h0)
    exact World.cell?_spot (show w.cell? ⟨b, off, spot⟩ = some _ from this)
  subst hs
  refine ⟨b, off, rfl, hb, fun i r hr => ?_⟩
  have key : ∀ j u, j < 6 → (cells6 r)[j]? = some u → w.cell? ⟨b, off + i * 6 + j, none⟩ = some u := by
    intro j u hj hu
    have := hc (i * 6 + j) u (by rw [row6_at Z i r hr j hj]; exact hu)
    rw [← this]
    unfold Addr.add
    split
    · rename_i h0
      show _ = w.cell? ⟨b, off, none⟩
      congr 2; omega
    · show _ = w.cell? ⟨b, off + (i * 6 + j), none⟩
      congr 2; omega
  exact ⟨key 0 _ (by omega) rfl, key 1 _ (by omega) rfl, key 2 _ (by omega) rfl, key 3 _ (by omega) rfl, key 4 _ (by omega) rfl, key 5 _ (by omega) rfl⟩

section
open Go.ChangeShapes Go.WideShapes Go.Deep
variable {H : Type} {enc : TypeId × Value → H} {P : Program} {w : World} {spare : Nat → Bool} {held : Bool}
/-- What the walk is told of a slice of ranges that came in. -/
def IsRngs (w : World) (A : Option Addr) (n : Nat) (Z : List Rng) : Prop := Reads w w.heap.size 6 A n (row6 Z) ∧ (A = none → n = 0) ∧ n ≤ maxLen ∧ Z.length = n ∧ ∀ r ∈ Z, r.ok
theorem wf_u16 {n : Int} (h : (Lit.int .u16 n).wf = true) : 0 ≤ n ∧ n ≤ 65535 := by
  simp [Lit.wf, IntKind.min, IntKind.max, IntKind.signed, IntKind.bits] at h; omega
theorem wf_u8 {n : Int} (h : (Lit.int .u8 n).wf = true) : 0 ≤ n ∧ n ≤ 255 := by
  simp [Lit.wf, IntKind.min, IntKind.max, IntKind.signed, IntKind.bits] at h; omega
theorem open_rngs {t e : TypeId} {f0 f1 f2 f3 f4 f5 : Field} {fuel : Nat} {A : Option Addr} {len cap : Nat} {x : DataW H × List MemPlace}
    (ht : P.underlying t = some (.slice e)) (he : P.underlying e = some (.struct #[f0, f1, f2, f3, f4, f5])) (hone : oneCellFields P #[f0, f1, f2, f3, f4, f5] = true) (hC : P.cellsOf e = 6)
    (u0 : P.underlying f0.type = some (.int .u16)) (u1 : P.underlying f1.type = some (.int .u8)) (u2 : P.underlying f2.type = some (.int .u8))
    (u3 : P.underlying f3.type = some (.int .u16)) (u4 : P.underlying f4.type = some (.int .u8)) (u5 : P.underlying f5.type = some (.int .u8))
    (h : DataW.trod enc P w 0 spare held fuel t [.slice A len cap] = some x) : ∃ Z, IsRngs w A len Z := by
  rcases open_slice ht h with ⟨h0, _⟩ | ⟨a, l, c, m, n, D, Pl, hcs, hb, hl, hm, hmm, hx, hi⟩
  · simp at h0
    obtain ⟨rfl, rfl, rfl⟩ := h0
    exact ⟨[], Reads.none_, fun _ => rfl, by unfold maxLen; omega, rfl, fun r hr => by simp at hr⟩
  · simp at hcs
    obtain ⟨rfl, rfl, rfl⟩ := hcs
    have hml : len ≤ m := by rw [hmm]; split <;> omega
    have key : ∀ i, i < len → ∃ r : Rng, r.ok ∧ ∀ j, j < 6 → w.cell? (a.add (i * 6 + j)) = (cells6 r)[j]? := by
      intro i hil
      obtain ⟨cs', hc, ht'⟩ := hi i (by omega)
      rw [hC] at hc
      obtain ⟨ys, n', hn', hy, hlen, hyl, hf⟩ := DataW.trod_struct he ht'
      obtain ⟨_, hcl, hat⟩ := World.cells?_some hc
      match cs', hcl with
      | [c0, c1, c2, c3, c4, c5], _ =>
        match ys, hyl with
        | [y0, y1, y2, y3, y4, y5], _ =>
          obtain ⟨o0, k0⟩ := hone_of hone 0 f0 rfl
          obtain ⟨o1, k1⟩ := hone_of hone 1 f1 rfl
          obtain ⟨o2, k2⟩ := hone_of hone 2 f2 rfl
          obtain ⟨o3, k3⟩ := hone_of hone 3 f3 rfl
          obtain ⟨o4, k4⟩ := hone_of hone 4 f4 rfl
          obtain ⟨o5, k5⟩ := hone_of hone 5 f5 rfl
          obtain ⟨n0, e0, _, q0⟩ := DataW.trod_int u0 (by simpa [o0, k0] using hf 0 f0 rfl)
          obtain ⟨n1, e1, _, q1⟩ := DataW.trod_int u1 (by simpa [o1, k1] using hf 1 f1 rfl)
          obtain ⟨n2, e2, _, q2⟩ := DataW.trod_int u2 (by simpa [o2, k2] using hf 2 f2 rfl)
          obtain ⟨n3, e3, _, q3⟩ := DataW.trod_int u3 (by simpa [o3, k3] using hf 3 f3 rfl)
          obtain ⟨n4, e4, _, q4⟩ := DataW.trod_int u4 (by simpa [o4, k4] using hf 4 f4 rfl)
          obtain ⟨n5, e5, _, q5⟩ := DataW.trod_int u5 (by simpa [o5, k5] using hf 5 f5 rfl)
          simp only [List.cons.injEq, and_true] at e0 e1 e2 e3 e4 e5
          refine ⟨⟨n0, n1, n2, n3, n4, n5⟩, ⟨wf_u16 q0, wf_u8 q1, wf_u8 q2, wf_u16 q3, wf_u8 q4, wf_u8 q5⟩, fun j hj => ?_⟩
          rw [← add_of_add, hat j hj, e0, e1, e2, e3, e4, e5]
          rfl
    have key' : ∀ i : Nat, ∃ r : Rng, i < len → (r.ok ∧ ∀ j, j < 6 → w.cell? (a.add (i * 6 + j)) = (cells6 r)[j]?) := by
      intro i
      by_cases hil : i < len
      · obtain ⟨r, hr⟩ := key i hil
        exact ⟨r, fun _ => hr⟩
      · exact ⟨⟨0, 0, 0, 0, 0, 0⟩, fun h => absurd h hil⟩
    obtain ⟨f, hf⟩ := Classical.axiomOfChoice key'
    have hZ : ((List.range len).map f).length = len := by simp
    refine ⟨(List.range len).map f, ⟨by rw [row6_len, hZ], fun hn => ⟨a, rfl, ?_, fun j u hu => ?_⟩⟩, (fun h => by cases h), by omega, hZ, fun r hr => ?_⟩
    · have := (hf 0 hn).2 0 (by omega)
      exact World.block_lt_of_cell? w a (u := .int .u16 (f 0).a) (by simpa [Addr.add, cells6] using this)
    · have hj : j < (row6 ((List.range len).map f)).length := (List.getElem?_eq_some_iff.1 hu).1
      rw [row6_len, hZ] at hj
      have h1 := (hf (j / 6) (by omega)).2 (j % 6) (by omega)
      have h2 := row6_at ((List.range len).map f) (j / 6) (f (j / 6)) (by rw [List.getElem?_map, List.getElem?_range (by omega)]; rfl) (j % 6) (by omega)
      rw [show j / 6 * 6 + j % 6 = j by omega] at h1 h2
      rw [h1, ← h2, hu]
    · rw [List.mem_map] at hr
      obtain ⟨i, hi, rfl⟩ := hr
      exact (hf i (List.mem_range.1 hi)).1
end
end Go.Proofs.Ytldhoaefnekknaa
