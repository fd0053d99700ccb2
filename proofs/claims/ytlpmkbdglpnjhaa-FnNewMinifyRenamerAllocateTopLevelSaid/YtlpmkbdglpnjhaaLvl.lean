/- Slices of slices of strings that came in (levels of names): as lists. -/
import Derived.Test.YtlpmkbdglpnjhaaWords
import Derived.WalkKit
import Derived.ProofKit
import Derived.Deep.Slices
import Derived.SliceStrings
import Derived.ChangeSame
namespace Go.Proofs.Ytlpmkbdglpnjhaa
open Go.RowKit
set_option linter.unusedVariables false
set_option linter.unusedSimpArgs false

/-- One level: its slice and its names. -/
structure Lv where
  a : Option Addr
  n : Nat
  c : Nat
  ss : List ByteArray
def Lv.val (l : Lv) : Value := .slice l.a l.n l.c
def Lv.ok (w : World) (B : Nat) (l : Lv) : Prop := Reads w B 1 l.a l.n (l.ss.map Value.string) ∧ (l.a = none → l.n = 0) ∧ l.n ≤ maxLen ∧ l.ss.length = l.n ∧ ∀ s ∈ l.ss, s.size ≤ maxLen
def IsLvls (w : World) (A : Option Addr) (n : Nat) (L : List Lv) : Prop :=
  Reads w w.heap.size 1 A n (L.map Lv.val) ∧ n ≤ maxLen ∧ L.length = n ∧ ∀ l ∈ L, l.ok w w.heap.size
theorem Lv.ok.below {w w' : World} {B : Nat} {l : Lv} (h : l.ok w B) (hb : Below B w w') : l.ok w' B := ⟨h.1.below hb, h.2⟩
theorem Lv.ok.more {w : World} {B B' : Nat} {l : Lv} (h : l.ok w B) (hB : B ≤ B') : l.ok w B' := ⟨h.1.more hB, h.2⟩
theorem reads_any {α : Type} {f : α → Value} {w : World} {B : Nat} {A : Option Addr} {n : Nat} {L : List α} (h : Reads w B 1 A n (L.map f)) (hn : 0 < n) :
    ∃ b off, A = some ⟨b, off, none⟩ ∧ b < B ∧ ∀ i l, L[i]? = some l → w.cell? ⟨b, off + i, none⟩ = some (f l) := by
  have hlen : L.length = n := by have := h.1; simpa using this
  obtain ⟨ad, u, rfl, hb, _, hc⟩ := h.at_ hn
  obtain ⟨b, off, spot⟩ := ad
  have hs : spot = none := World.cell?_spot (show w.cell? ⟨b, off, spot⟩ = some u from hc)
  subst hs
  refine ⟨b, off, rfl, hb, fun i l hl => ?_⟩
  obtain ⟨ad', e1, _, hc'⟩ := h.2 hn
  obtain rfl := Option.some.inj e1
  have := hc' i (f l) (by rw [List.getElem?_map, hl]; rfl)
  rw [← this]
  unfold Addr.add
  split
  · rename_i h0; subst h0; rfl
  · rfl
section
open Go.ChangeShapes Go.WideShapes Go.Deep
variable {H : Type} {enc : TypeId × Value → H} {P : Program} {w : World} {spare : Nat → Bool} {held : Bool}
theorem lv_of {t e : TypeId} {fuel : Nat} {v : Value} {x : DataW H × List MemPlace}
    (ht : P.underlying t = some (.slice e)) (he : P.underlying e = some .string) (hC : P.cellsOf e = 1)
    (h : DataW.trod enc P w 0 spare held fuel t [v] = some x) : ∃ l : Lv, v = l.val ∧ l.ok w w.heap.size := by
  rcases open_strings ht he hC h with ⟨hcs, _⟩ | ⟨a, len, cap, ss, hcs, _, hl, hm, hz, _, hcell, hwz⟩
  · simp at hcs
    subst hcs
    exact ⟨⟨none, 0, 0, []⟩, rfl, Reads.none_, fun _ => rfl, Nat.zero_le _, rfl, fun s hs => by simp at hs⟩
  · simp at hcs
    subst hcs
    have hlen : len ≤ ss.length := by rw [hz]; split <;> omega
    refine ⟨⟨some a, len, cap, ss.take len⟩, rfl, ⟨by simp; omega, fun hn => ⟨a, rfl, ?_, fun j u hu => ?_⟩⟩, (fun h => by cases h), by show len ≤ _; omega, by simp; omega, fun s hs => hwz s (List.mem_of_mem_take hs)⟩
    · have := hcell 0 (by have : 0 < len := hn; omega)
      exact World.block_lt_of_cell? w a (u := .string (ss.getD 0 ByteArray.empty)) (by simpa [Addr.add] using this)
    · have hj : j < len := by
        have := (List.getElem?_eq_some_iff.1 hu).1
        simp at this; omega
      rw [hcell j (by omega)]
      rw [List.getElem?_map, List.getElem?_take_of_lt hj, List.getElem?_eq_getElem (by omega)] at hu
      rw [List.getD_eq_getElem?_getD, List.getElem?_eq_getElem (by omega)]
      exact hu
theorem open_lvls {t e s : TypeId} {fuel : Nat} {A : Option Addr} {len cap : Nat} {x : DataW H × List MemPlace}
    (ht : P.underlying t = some (.slice e)) (he : P.underlying e = some (.slice s)) (hs : P.underlying s = some .string) (hC : P.cellsOf e = 1) (hCs : P.cellsOf s = 1)
    (h : DataW.trod enc P w 0 spare held fuel t [.slice A len cap] = some x) : ∃ L, IsLvls w A len L := by
  rcases open_slice ht h with ⟨h0, _⟩ | ⟨a, l, c, m, n, D, Pl, hcs, hb, hl, hm, hmm, hx, hi⟩
  · simp at h0
    obtain ⟨rfl, rfl, rfl⟩ := h0
    exact ⟨[], Reads.none_, by unfold maxLen; omega, rfl, fun r hr => by simp at hr⟩
  · simp at hcs
    obtain ⟨rfl, rfl, rfl⟩ := hcs
    have hml : len ≤ m := by rw [hmm]; split <;> omega
    have key : ∀ i, i < len → ∃ l : Lv, l.ok w w.heap.size ∧ w.cell? (a.add i) = some l.val := by
      intro i hil
      obtain ⟨cs', hc, ht'⟩ := hi i (by omega)
      rw [hC] at hc
      obtain ⟨_, hcl, hat⟩ := World.cells?_some hc
      match cs', hcl with
      | [v], _ =>
        obtain ⟨l, rfl, hl⟩ := lv_of he hs hCs ht'
        have := hat 0 (by omega)
        rw [add_of_add, Nat.mul_one, Nat.add_zero] at this
        exact ⟨l, hl, this⟩
    have key' : ∀ i : Nat, ∃ l : Lv, i < len → (l.ok w w.heap.size ∧ w.cell? (a.add i) = some l.val) := by
      intro i
      by_cases hil : i < len
      · obtain ⟨l, hl⟩ := key i hil
        exact ⟨l, fun _ => hl⟩
      · exact ⟨⟨none, 0, 0, []⟩, fun h => absurd h hil⟩
    obtain ⟨f, hf⟩ := Classical.axiomOfChoice key'
    have hZ : ((List.range len).map f).length = len := by simp
    refine ⟨(List.range len).map f, ⟨by simp, fun hn => ⟨a, rfl, ?_, fun j u hu => ?_⟩⟩, by omega, hZ, fun r hr => ?_⟩
    · have := (hf 0 hn).2
      exact World.block_lt_of_cell? w a (u := (f 0).val) (by simpa [Addr.add] using this)
    · have hj : j < len := by have := (List.getElem?_eq_some_iff.1 hu).1; simpa using this
      rw [(hf j hj).2, ← hu, List.getElem?_map, List.getElem?_map, List.getElem?_range hj]
      rfl
    · rw [List.mem_map] at hr
      obtain ⟨i, hi, rfl⟩ := hr
      exact (hf i (List.mem_range.1 hi)).1
end
end Go.Proofs.Ytlpmkbdglpnjhaa
