/- Rows of steps (start, cut, name): as lists, read behind an address; an argument of that kind opened. -/
import Derived.Test.YtgdcpladehcegaaDoorWords
import Derived.WalkKit
import Derived.ProofKit
import Derived.Deep.Slices
import Derived.Deep.Fields
import Derived.ChangeSame
namespace Go.Proofs.YtgdcpladehcegaaDoor
open Go.RowKit
set_option linter.unusedVariables false
set_option linter.unusedSimpArgs false
structure Stp where
  a : Int
  b : Int
  nm : ByteArray
def Stp.ok (r : Stp) : Prop := (-2147483648 ≤ r.a ∧ r.a ≤ 2147483647) ∧ (-2147483648 ≤ r.b ∧ r.b ≤ 2147483647) ∧ r.nm.size ≤ maxLen
def cells3 (r : Stp) : List Value := [.int .i32 r.a, .int .i32 r.b, .string r.nm]
def row3 (l : List Stp) : List Value := l.flatMap cells3
theorem row3_len : ∀ l : List Stp, (row3 l).length = l.length * 3
  | [] => rfl
  | r :: l => by
    have := row3_len l
    unfold row3 at this ⊢
    rw [List.flatMap_cons, List.length_append, this, List.length_cons]
    show 3 + _ = _
    omega
theorem row3_at : ∀ (l : List Stp) (i : Nat) (x : Stp), l[i]? = some x → ∀ j, j < 3 → (row3 l)[i * 3 + j]? = (cells3 x)[j]?
  | [], i, x, h, j, hj => by simp at h
  | r :: l, 0, x, h, j, hj => by
    obtain rfl : r = x := by simpa using h
    unfold row3
    rw [List.flatMap_cons, List.getElem?_append_left (by show _ < 3; omega)]
    congr 1; omega
  | r :: l, i + 1, x, h, j, hj => by
    have h' : l[i]? = some x := by simpa using h
    have := row3_at l i x h' j hj
    unfold row3 at this ⊢
    rw [List.flatMap_cons, List.getElem?_append_right (by show 3 ≤ _; omega), ← this]
    congr 1
    show _ - 3 = _
    omega
theorem row3_one (l : List Stp) : ∀ u ∈ row3 l, u.oneCell' = true := by
  intro u hu
  unfold row3 at hu
  rw [List.mem_flatMap] at hu
  obtain ⟨r, _, hu⟩ := hu
  unfold cells3 at hu
  simp only [List.mem_cons, List.not_mem_nil, or_false] at hu
  rcases hu with rfl | rfl | rfl <;> rfl
def At3 (w : World) (b k : Nat) (r : Stp) : Prop :=
  w.cell? ⟨b, k, none⟩ = some (.int .i32 r.a) ∧ w.cell? ⟨b, k + 1, none⟩ = some (.int .i32 r.b) ∧ w.cell? ⟨b, k + 2, none⟩ = some (.string r.nm)
theorem reads3 {w : World} {B : Nat} {A : Option Addr} {n : Nat} {Z : List Stp} (h : Reads w B 3 A n (row3 Z)) (hn : 0 < n) :
    ∃ b off, A = some ⟨b, off, none⟩ ∧ b < B ∧ ∀ i r, Z[i]? = some r → At3 w b (off + i * 3) r := by
  obtain ⟨ad, rfl, hb, hc⟩ := h.2 hn
  obtain ⟨b, off, spot⟩ := ad
  have hl := h.1
  rw [row3_len] at hl
  have hs : spot = none := by
    have h0 : (0 : Nat) < (row3 Z).length := by rw [row3_len]; omega
    have := hc 0 _ (List.getElem?_eq_getElem h0)
    exact World.cell?_spot (show w.cell? ⟨b, off, spot⟩ = some _ from this)
  subst hs
  refine ⟨b, off, rfl, hb, fun i r hr => ?_⟩
  have key : ∀ j u, j < 3 → (cells3 r)[j]? = some u → w.cell? ⟨b, off + i * 3 + j, none⟩ = some u := by
    intro j u hj hu
    have := hc (i * 3 + j) u (by rw [row3_at Z i r hr j hj]; exact hu)
    rw [← this]
    unfold Addr.add
    split
    · rename_i h0
      show _ = w.cell? ⟨b, off, none⟩
      congr 2; omega
    · show _ = w.cell? ⟨b, off + (i * 3 + j), none⟩
      congr 2; omega
  exact ⟨key 0 _ (by omega) rfl, key 1 _ (by omega) rfl, key 2 _ (by omega) rfl⟩
section
open Go.ChangeShapes Go.WideShapes Go.Deep
variable {H : Type} {enc : TypeId × Value → H} {P : Program} {w : World} {spare : Nat → Bool} {held : Bool}
def IsStps (w : World) (A : Option Addr) (n : Nat) (Z : List Stp) : Prop := Reads w w.heap.size 3 A n (row3 Z) ∧ (A = none → n = 0) ∧ n ≤ maxLen ∧ Z.length = n ∧ ∀ r ∈ Z, r.ok
theorem wf_i32 {n : Int} (h : (Lit.int .i32 n).wf = true) : -2147483648 ≤ n ∧ n ≤ 2147483647 := by
  simp [Lit.wf, IntKind.min, IntKind.max, IntKind.signed, IntKind.bits] at h; omega
theorem open_stps {t e : TypeId} {f0 f1 f2 : Field} {fuel : Nat} {A : Option Addr} {len cap : Nat} {x : DataW H × List MemPlace}
    (ht : P.underlying t = some (.slice e)) (he : P.underlying e = some (.struct #[f0, f1, f2])) (hone : oneCellFields P #[f0, f1, f2] = true) (hC : P.cellsOf e = 3)
    (u0 : P.underlying f0.type = some (.int .i32)) (u1 : P.underlying f1.type = some (.int .i32)) (u2 : P.underlying f2.type = some .string)
    (h : DataW.trod enc P w 0 spare held fuel t [.slice A len cap] = some x) : ∃ Z, IsStps w A len Z := by
  rcases open_slice ht h with ⟨h0, _⟩ | ⟨a, l, c, m, n, D, Pl, hcs, hb, hl, hm, hmm, hx, hi⟩
  · simp at h0
    obtain ⟨rfl, rfl, rfl⟩ := h0
    exact ⟨[], Reads.none_, fun _ => rfl, by unfold maxLen; omega, rfl, fun r hr => by simp at hr⟩
  · simp at hcs
    obtain ⟨rfl, rfl, rfl⟩ := hcs
    have hml : len ≤ m := by rw [hmm]; split <;> omega
    have key : ∀ i, i < len → ∃ r : Stp, r.ok ∧ ∀ j, j < 3 → w.cell? (a.add (i * 3 + j)) = (cells3 r)[j]? := by
      intro i hil
      obtain ⟨cs', hc, ht'⟩ := hi i (by omega)
      rw [hC] at hc
      obtain ⟨ys, n', hn', hy, hlen, hyl, hf⟩ := DataW.trod_struct he ht'
      obtain ⟨_, hcl, hat⟩ := World.cells?_some hc
      match cs', hcl with
      | [c0, c1, c2], _ =>
        match ys, hyl with
        | [y0, y1, y2], _ =>
          obtain ⟨o0, k0⟩ := hone_of hone 0 f0 rfl
          obtain ⟨o1, k1⟩ := hone_of hone 1 f1 rfl
          obtain ⟨o2, k2⟩ := hone_of hone 2 f2 rfl
          obtain ⟨n0, e0, _, q0⟩ := DataW.trod_int u0 (by simpa [o0, k0] using hf 0 f0 rfl)
          obtain ⟨n1, e1, _, q1⟩ := DataW.trod_int u1 (by simpa [o1, k1] using hf 1 f1 rfl)
          obtain ⟨n2, e2, _, q2⟩ := DataW.trod_string u2 (by simpa [o2, k2] using hf 2 f2 rfl)
          simp only [List.cons.injEq, and_true] at e0 e1 e2
          refine ⟨⟨n0, n1, n2⟩, ⟨wf_i32 q0, wf_i32 q1, q2⟩, fun j hj => ?_⟩
          rw [← add_of_add, hat j hj, e0, e1, e2]
          rfl
    have key' : ∀ i : Nat, ∃ r : Stp, i < len → (r.ok ∧ ∀ j, j < 3 → w.cell? (a.add (i * 3 + j)) = (cells3 r)[j]?) := by
      intro i
      by_cases hil : i < len
      · obtain ⟨r, hr⟩ := key i hil
        exact ⟨r, fun _ => hr⟩
      · exact ⟨⟨0, 0, ByteArray.empty⟩, fun h => absurd h hil⟩
    obtain ⟨f, hf⟩ := Classical.axiomOfChoice key'
    have hZ : ((List.range len).map f).length = len := by simp
    refine ⟨(List.range len).map f, ⟨by rw [row3_len, hZ], fun hn => ⟨a, rfl, ?_, fun j u hu => ?_⟩⟩, (fun h => by cases h), by omega, hZ, fun r hr => ?_⟩
    · have := (hf 0 hn).2 0 (by omega)
      exact World.block_lt_of_cell? w a (u := .int .i32 (f 0).a) (by simpa [Addr.add, cells3] using this)
    · have hj : j < (row3 ((List.range len).map f)).length := (List.getElem?_eq_some_iff.1 hu).1
      rw [row3_len, hZ] at hj
      have h1 := (hf (j / 3) (by omega)).2 (j % 3) (by omega)
      have h2 := row3_at ((List.range len).map f) (j / 3) (f (j / 3)) (by rw [List.getElem?_map, List.getElem?_range (by omega)]; rfl) (j % 3) (by omega)
      rw [show j / 3 * 3 + j % 3 = j by omega] at h1 h2
      rw [h1, ← h2, hu]
    · rw [List.mem_map] at hr
      obtain ⟨i, hi, rfl⟩ := hr
      exact (hf i (List.mem_range.1 hi)).1
end
end Go.Proofs.YtgdcpladehcegaaDoor
