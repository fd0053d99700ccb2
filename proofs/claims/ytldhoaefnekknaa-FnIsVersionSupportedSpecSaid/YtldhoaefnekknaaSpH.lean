/- Head of the proof: what comes in, the law's own helpers, the plain facts. -/
import Derived.Test.YtldhoaefnekknaaRows
import Derived.WalkKit
import Derived.ProofKit
import Derived.Outline
import Derived.LoopTactic
import Derived.WalkSpells
import Derived.Deep.CutBlock
import Derived.Deep.DeepCutAuto
import Derived.Deep.Light
import Derived.Test.YtldhoaefnekknaaCli
import Derived.Test.YtldhoaefnekknaaRngW
import Derived.Test.YtldhoaefnekknaaSup
import Derived.OpenShut
import Derived.ShutString
import Derived.ChangeOld
import Derived.Below
import Derived.Carry
namespace Go.Proofs.Ytldhoaefnekknaa.fnIsVersionSupportedSpec
open Go.ChangeShapes Go.WideShapes Go.ChangeAt Go.RowKit
open Go.ChangeMaps (open_string shut_string)
set_option linter.unusedVariables false
set_option linter.unusedSimpArgs false

theorem own : ownKnob Try.prog.godebug = none := by kernel_rfl
theorem laidOut : laidOutB Try.pinned.checked.prog = true := by kernel_rfl

/-- What the walk is told of a slice of integers that came in. -/
def IsRow (k : IntKind) (w : World) (a : Option Addr) (len cap : Nat) (zs : List Int) : Prop :=
  (a = none ∧ len = 0 ∧ cap = 0 ∧ zs = []) ∨
  ∃ x, a = some x ∧ len ≤ cap ∧ cap ≤ maxLen ∧ zs.length = cap ∧ (∀ i, i < zs.length → w.cell? (x.add i) = some (.int k (zs.getD i 0))) ∧ ∀ n ∈ zs, (Lit.int k n).wf = true
theorem isrow_reads {k : IntKind} {w : World} {a : Option Addr} {len cap : Nat} {zs : List Int} (h : IsRow k w a len cap zs) : Reads w w.heap.size 1 a len ((zs.take len).map (Value.int k)) ∧ (a = none → len = 0) ∧ len ≤ maxLen := by
  rcases h with ⟨rfl, rfl, rfl, rfl⟩ | ⟨x, rfl, hl, hm, hz, hc, _⟩
  · exact ⟨Reads.none_, fun _ => rfl, by unfold maxLen; omega⟩
  · refine ⟨⟨by simp; omega, fun hn => ⟨x, rfl, ?_, fun j u hu => ?_⟩⟩, (fun h => by cases h), by omega⟩
    · have := hc 0 (by omega)
      exact World.block_lt_of_cell? w x (by simpa [Addr.add] using this)
    · have hj : j < len := by
        have := (List.getElem?_eq_some_iff.1 hu).1
        simp at this; omega
      rw [hc j (by omega)]
      rw [List.getElem?_map, List.getElem?_take_of_lt hj, List.getElem?_eq_getElem (by omega)] at hu
      rw [List.getD_eq_getElem?_getD, List.getElem?_eq_getElem (by omega)]
      exact hu



def AnyBool (w : World) (e : Ending) (w' : World) : Prop := ∃ b, e = .returned (.bool b) ∧ w = w'
set_option maxRecDepth 100000 in
theorem zb (A : Option Addr) (n c : Nat) (C : Option Addr) (k f : Nat) (s : ByteArray) (w : World) (hn : n ≤ maxLen) (hk : k ≤ maxLen) (hs : s.size ≤ maxLen) :
    Calls Try.prog 11 #[.slice A n c, .slice C k f, .string s] w (AnyBool w) := by
  unfold maxLen at hn hk hs
  go_enter Try.func11, Try.ntmps11
  go_wp2
  all_goals
    go_ret
    exact ⟨_, rfl, rfl⟩
set_option maxRecDepth 100000 in
theorem noR (w : World) : Calls Try.prog 8 #[] w fun e w' => e = .returned (.slice none 0 0) ∧ w = w' := by
  go_enter Try.func8, Try.ntmps8
  go_wp2
  go_ret
  exact ⟨rfl, rfl⟩
def CloneI (w : World) (n : Nat) (xs : List Value) (e : Ending) (w' : World) : Prop :=
  ∃ A c, e = .returned (.slice A n c) ∧ Reads w' w'.heap.size 1 A n xs ∧ Below w.heap.size w w'
theorem cloneIR (A : Option Addr) (n cap : Nat) (zs : List Int) (w : World) (hr : Reads w w.heap.size 1 A n (zs.map (Value.int .i64))) (hA : A = none → n = 0) (hn : n ≤ 16777216) :
    Calls Try.prog 7 #[.slice A n cap] w (CloneI w n (zs.map (Value.int .i64))) := by
  refine (cloneI A n cap zs w hr hn).mono ?_
  rintro e w' (⟨hn0, rfl, rfl⟩ | ⟨g, _, rfl, hge, hbk, hb⟩)
  · obtain rfl := hA hn0
    exact ⟨none, 0, rfl, by have := hr.1; obtain rfl : zs = [] := List.eq_nil_of_length_eq_zero (by simpa using this); exact Reads.none_, Below.refl _ _⟩
  · refine ⟨_, _, rfl, ⟨hr.1, fun hn => ⟨_, rfl, hbk.lt, fun j u hu => ?_⟩⟩, hb⟩
    have := hbk.cell j
    rw [List.getElem?_toArray, hu] at this
    rw [← this]
    unfold Addr.add
    split
    · rename_i h0; subst h0; rfl
    · show World.cell? _ ⟨g, 0 + j, none⟩ = _
      rw [Nat.zero_add]
theorem take_step {Z : List Rng} {k : Nat} {r : Rng} (h : Z[k]? = some r) : Z.take (k + 1) = Z.take k ++ [r] := by
  rw [List.take_add_one, h]; rfl

def sg (x y : Int) : Int := if x = y then 0 else if x < y then -1 else 1
def sg3 (M m p p0 p1 p2 : Int) : Int := if M ≠ p0 then (if M < p0 then -1 else 1) else if m ≠ p1 then (if m < p1 then -1 else 1) else if p ≠ p2 then (if p < p2 then -1 else 1) else 0
def IntB (c : Int) (w : World) (e : Ending) (w' : World) : Prop := e = .returned (.int .i64 c) ∧ w = w'
set_option maxHeartbeats 1000000 in
set_option maxRecDepth 100000 in
theorem cmpB (M m p p0 p1 p2 : Int) (h : (0 ≤ M ∧ M ≤ 65535) ∧ (0 ≤ m ∧ m ≤ 255) ∧ (0 ≤ p ∧ p ≤ 255)) (w : World) (c : Int) (hc : sg3 M m p p0 p1 p2 = c) :
    Calls Try.prog 12 #[.int .u16 M, .int .u8 m, .int .u8 p, .int .i64 p0, .int .i64 p1, .int .i64 p2] w (IntB c w) := by
  subst hc
  obtain ⟨⟨h1, h2⟩, ⟨h3, h4⟩, ⟨h5, h6⟩⟩ := h
  go_enter Try.func12, Try.ntmps12
  go_wp2
  all_goals
    go_ret
    refine ⟨ret_int ?_, rfl⟩
    go_light
    try simp only [beq_iff_eq, beq_eq_false_iff_ne, bne_iff_ne, bne_eq_false_iff_eq, ne_eq] at *
    unfold sg3
    repeat' split
    all_goals first | rfl | omega
def spec1 (p0 p1 p2 : Int) (k : Nat) (r : Rng) : Bool :=
  (decide (sg3 r.a r.b r.c p0 p1 p2 < 0) || (sg3 r.a r.b r.c p0 p1 p2 == 0 && decide (k = 0))) && (openEnd r || decide (0 < sg3 r.d r.e r.f p0 p1 p2) || (sg3 r.d r.e r.f p0 p1 p2 == 0 && decide (k ≠ 0)))
theorem cv_sign (M m p : Int) (h : (0 ≤ M ∧ M ≤ 65535) ∧ (0 ≤ m ∧ m ≤ 255) ∧ (0 ≤ p ∧ p ≤ 255)) (zs : List Int) (k : Nat)
    (hz : ∀ i, i < 3 → -1073741824 ≤ zs.getD i 0 ∧ zs.getD i 0 ≤ 1073741824) :
    (cv M m p zs k ≤ 0 ↔ sg3 M m p (zs.getD 0 0) (zs.getD 1 0) (zs.getD 2 0) < 0 ∨ (sg3 M m p (zs.getD 0 0) (zs.getD 1 0) (zs.getD 2 0) = 0 ∧ k = 0)) ∧
    (0 < cv M m p zs k ↔ 0 < sg3 M m p (zs.getD 0 0) (zs.getD 1 0) (zs.getD 2 0) ∨ (sg3 M m p (zs.getD 0 0) (zs.getD 1 0) (zs.getD 2 0) = 0 ∧ k ≠ 0)) := by
  have b0 := hz 0 (by omega)
  have b1 := hz 1 (by omega)
  have b2 := hz 2 (by omega)
  unfold cv
  generalize zs.getD 0 0 = x0 at *
  generalize zs.getD 1 0 = x1 at *
  generalize zs.getD 2 0 = x2 at *
  have e0 : wrap64 (M - x0) = M - x0 := by unfold wrap64; omega
  have e1 : wrap64 (m - x1) = m - x1 := by unfold wrap64; omega
  have e2 : wrap64 (p - x2) = p - x2 := by unfold wrap64; omega
  rw [e0, e1, e2]
  clear e0 e1 e2 hz
  unfold cmp3 sg3
  constructor
  · repeat' split
    all_goals omega
  · repeat' split
    all_goals omega
theorem spec1_eq (zs : List Int) (k : Nat) (hz : ∀ i, i < 3 → -1073741824 ≤ zs.getD i 0 ∧ zs.getD i 0 ≤ 1073741824) (r : Rng) (hr : r.ok) :
    holds1 zs k r = spec1 (zs.getD 0 0) (zs.getD 1 0) (zs.getD 2 0) k r := by
  obtain ⟨ha, hb, hc, hd, he, hf⟩ := hr
  have h1 := (cv_sign r.a r.b r.c ⟨ha, hb, hc⟩ zs k hz).1
  have h2 := (cv_sign r.d r.e r.f ⟨hd, he, hf⟩ zs k hz).2
  unfold holds1 spec1
  rw [Bool.eq_iff_iff]
  simp only [Bool.and_eq_true, Bool.or_eq_true, decide_eq_true_eq, beq_iff_eq, h1, h2, or_assoc]
theorem any_congr {Z : List Rng} {p q : Rng → Bool} (h : ∀ r ∈ Z, p r = q r) : Z.any p = Z.any q := by
  induction Z with
  | nil => rfl
  | cons a l ih => rw [List.any_cons, List.any_cons, h a (by simp), ih fun r hr => h r (by simp [hr])]
theorem any_take {Z : List Rng} {k : Nat} {r : Rng} {p : Rng → Bool} (h : Z.take (k + 1) = Z.take k ++ [r]) : (Z.take (k + 1)).any p = ((Z.take k).any p || p r) := by
  rw [h, List.any_append]; simp

end Go.Proofs.Ytldhoaefnekknaa.fnIsVersionSupportedSpec
