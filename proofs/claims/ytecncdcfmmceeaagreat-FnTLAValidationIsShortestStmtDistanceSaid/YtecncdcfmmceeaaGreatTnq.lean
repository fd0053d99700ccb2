/- Slices of bools that came in; the copies as columns (n011_92). -/
import Derived.Test.YtecncdcfmmceeaaGreatTnb
import Derived.Test.YtecncdcfmmceeaaGreatTnd
import Derived.Test.YtecncdcfmmceeaaGreatTne
import Derived.Test.YtecncdcfmmceeaaGreatTlz
import Derived.Test.YtecncdcfmmceeaaGreatTnc
import Derived.Test.YtecncdcfmmceeaaGreatClo
import Derived.Test.YtecncdcfmmceeaaGreatClw
import Derived.Test.YtecncdcfmmceeaaGreatClb
import Derived.Deep.Slices
import Derived.ChangeArms
namespace Go.Proofs.YtecncdcfmmceeaaGreat
open Go.RowKit
set_option linter.unusedVariables false
set_option linter.unusedSimpArgs false
def IsBools (w : World) (A : Option Addr) (len cap : Nat) (zs : List Bool) : Prop := Reads w w.heap.size 1 A len (zs.map Value.bool) ∧ (A = none → len = 0) ∧ len ≤ maxLen
section
open Go.Deep
variable {H : Type} {enc : TypeId × Value → H} {P : Program} {w : World} {spare : Nat → Bool} {held : Bool}
theorem open_bools {t e : TypeId} {fuel : Nat} {A : Option Addr} {len cap : Nat} {x : DataW H × List MemPlace} (ht : P.underlying t = some (.slice e)) (he : P.underlying e = some .bool) (hC : P.cellsOf e = 1)
    (h : DataW.trod enc P w 0 spare held fuel t [.slice A len cap] = some x) : ∃ zs, IsBools w A len cap zs := by
  rcases open_slice1 ht hC h with ⟨h0, _⟩ | ⟨a, l, c, m, n, V, D, Pl, hcs, hb, hl, hm, hmm, hx, hi⟩
  · simp at h0
    obtain ⟨rfl, rfl, rfl⟩ := h0
    exact ⟨[], Reads.none_, fun _ => rfl, by unfold maxLen; omega⟩
  · simp at hcs
    obtain ⟨rfl, rfl, rfl⟩ := hcs
    have hml : len ≤ m := by rw [hmm]; split <;> omega
    have key : ∀ i, i < len → ∃ b, w.cell? (a.add i) = some (.bool b) := fun i hil => by
      obtain ⟨h1, h2⟩ := hi i (by omega)
      obtain ⟨b, h3, _⟩ := DataW.trod_bool he h2
      simp only [List.cons.injEq, and_true] at h3
      exact ⟨b, by rw [h1, h3]⟩
    have key' : ∀ i : Nat, ∃ b, i < len → w.cell? (a.add i) = some (.bool b) := fun i => by
      by_cases hil : i < len
      · obtain ⟨b, hb⟩ := key i hil
        exact ⟨b, fun _ => hb⟩
      · exact ⟨false, fun h => absurd h hil⟩
    obtain ⟨f, hf⟩ := Classical.axiomOfChoice key'
    refine ⟨(List.range len).map f, ⟨by simp, fun hn => ⟨a, rfl, ?_, fun j u hu => ?_⟩⟩, (fun h => by cases h), by omega⟩
    · exact World.block_lt_of_cell? w a (by simpa [Addr.add] using hf 0 hn)
    · have hj : j < len := by
        have := (List.getElem?_eq_some_iff.1 hu).1
        simpa using this
      rw [hf j hj]
      simpa [hj] using hu
end
theorem Arr.congr {w : World} {E : TypeId} {A : Option Addr} {n : Nat} {f g : Nat → Value} (h : Arr w E A n f) (hfg : ∀ j, j < n → f j = g j) : Arr w E A n g := fun hn => by
  obtain ⟨b, cs, h1, h2, h3⟩ := h hn
  exact ⟨b, cs, h1, h2, fun k hk => by rw [← hfg k hk]; exact h3 k hk⟩
def natOf (zs : List Int) (j : Nat) : Nat := (zs.getD j 0).toNat
def boolOf (zs : List Bool) (j : Nat) : Bool := zs.getD j false
def CopPost (E : TypeId) (n : Nat) (f : Nat → Value) (w : World) (e : Ending) (w' : World) : Prop := ∃ A c, e = .returned (.slice A n c) ∧ Arr w' E A n f ∧ Below w.heap.size w w'
theorem cop_w (A : Option Addr) (n cap : Nat) (zs : List Int) (w : World) (hr : Reads w w.heap.size 1 A n (zs.map (Value.int .u16))) (hA : A = none → n = 0) (hn : n ≤ 16777216) (hp : ∀ z ∈ zs, 0 ≤ z) :
    Calls Tryz.prog 7 #[.slice A n cap] w (CopPost 40 n (fun j => .int .u16 (natOf zs j : Int)) w) := by
  have hlen : zs.length = n := by have := hr.1; simpa using this
  refine (cloneW A n cap zs w hr hn).mono ?_
  rintro e w' (⟨h1, rfl, rfl⟩ | ⟨g, _, rfl, _, hb, hbw⟩)
  · obtain rfl := hA h1
    exact ⟨none, 0, rfl, Arr.nil _ _ _ _, Below.refl _ _⟩
  · refine ⟨_, _, rfl, Arr.of_blk hb (fun k hk => ?_), hbw⟩
    have hk' : k < zs.length := by omega
    have := hp zs[k] (List.getElem_mem hk')
    simp [natOf, List.getD_eq_getElem?_getD, List.getElem?_eq_getElem hk']
    omega
theorem cop_b (A : Option Addr) (n cap : Nat) (zs : List Int) (w : World) (hr : Reads w w.heap.size 1 A n (zs.map (Value.int .u8))) (hA : A = none → n = 0) (hn : n ≤ 16777216) (hp : ∀ z ∈ zs, 0 ≤ z) :
    Calls Tryz.prog 8 #[.slice A n cap] w (CopPost 5 n (fun j => .int .u8 (natOf zs j : Int)) w) := by
  have hlen : zs.length = n := by have := hr.1; simpa using this
  refine (cloneB A n cap zs w hr hn).mono ?_
  rintro e w' (⟨h1, rfl, rfl⟩ | ⟨g, _, rfl, _, hb, hbw⟩)
  · obtain rfl := hA h1
    exact ⟨none, 0, rfl, Arr.nil _ _ _ _, Below.refl _ _⟩
  · refine ⟨_, _, rfl, Arr.of_blk hb (fun k hk => ?_), hbw⟩
    have hk' : k < zs.length := by omega
    have := hp zs[k] (List.getElem_mem hk')
    simp [natOf, List.getD_eq_getElem?_getD, List.getElem?_eq_getElem hk']
    omega
theorem cop_o (A : Option Addr) (n cap : Nat) (zs : List Bool) (w : World) (hr : Reads w w.heap.size 1 A n (zs.map Value.bool)) (hA : A = none → n = 0) (hn : n ≤ 16777216) :
    Calls Tryz.prog 6 #[.slice A n cap] w (CopPost 4 n (fun j => .bool (boolOf zs j)) w) := by
  have hlen : zs.length = n := by have := hr.1; simpa using this
  refine (cloneO A n cap zs w hr hn).mono ?_
  rintro e w' (⟨h1, rfl, rfl⟩ | ⟨g, _, rfl, _, hb, hbw⟩)
  · obtain rfl := hA h1
    exact ⟨none, 0, rfl, Arr.nil _ _ _ _, Below.refl _ _⟩
  · refine ⟨_, _, rfl, Arr.of_blk hb (fun k hk => ?_), hbw⟩
    have hk' : k < zs.length := by omega
    simp [boolOf, List.getD_eq_getElem?_getD, List.getElem?_eq_getElem hk']
theorem below_tr {a b c : World} (h : Below a.heap.size a b) (k : Below b.heap.size b c) : Below a.heap.size a c := ⟨k.os.trans h.os, k.tape.trans h.tape, k.output.trans h.output, Nat.le_trans h.size k.size, fun i hi => (k.block i (Nat.lt_of_lt_of_le hi h.size)).trans (h.block i hi)⟩
end Go.Proofs.YtecncdcfmmceeaaGreat
