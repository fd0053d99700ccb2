/- n011_254: the map of glob indexes: its numbers lie between 1 and a bound. -/
import Derived.Test.YtlkicobpfbgloaaRows
import Derived.Test.YtlkicobpfbgloaaWords
import Derived.Maps.OwnSet
import Derived.Maps.Views
import Derived.WalkKit
namespace Go.Proofs.Ytlkicobpfbgloaa
open Go.RowKit Go.Maps Go.WideMaps
set_option linter.unusedVariables false
set_option linter.unusedSimpArgs false

theorem lawG : Keyed Try.prog 84 := int_keyed Try.underlying84
theorem zeroU (w : World) : (zeroValue 29).run Try.prog w = .ok (.int .u32 0) w := by kernel_rfl
abbrev MapIs (w : World) (b n : Nat) (D : DataW Unit) : Prop := w.ownsMap (H := Unit) Try.prog 84 (plainElem Try.prog 29) b n D
theorem MapIs.lt {w : World} {b n : Nat} {D : DataW Unit} (h : MapIs w b n D) : b < w.heap.size := World.ownsMap.lt h
theorem MapIs.not_cells {w : World} {b n : Nat} {D : DataW Unit} (h : MapIs w b n D) {g : Nat} {t : TypeId} {cs : Array Value} (hg : Blk w g t cs) : b ≠ g := by
  rintro rfl
  obtain ⟨es, cl, h1, _⟩ := h
  unfold Blk at hg
  rw [hg] at h1
  cases h1
/-- Every number in the map lies between 1 and c. -/
def InC (D : DataW Unit) (c : Nat) : Prop := ∀ k : Int, has D (.int .u64 k) = true → ∃ v : Nat, D.atKey (.int .u64 k) (.lit (.int .u32 0)) = .lit (.int .u32 v) ∧ 1 ≤ v ∧ v ≤ c
theorem inC_nil : InC (.map []) 0 := fun k h => by simp [has] at h
theorem inC_put {D : DataW Unit} (hD : IsMap D) {c : Nat} (h : InC D c) (x : Int) : InC (D.put (.int .u64 x) (.lit (.int .u32 ((c + 1 : Nat) : Int)))) (c + 1) := by
  intro k hk
  by_cases e : x = k
  · subst e
    exact ⟨c + 1, atKey_put_same hD (by simp [WideAt.IsKeyLit]) _ _, by omega, by omega⟩
  · have e1 : (Lit.int .u64 x) ≠ .int .u64 k := fun h => e (by injection h)
    rw [has_put_other (fun h => e1 h.symm)] at hk
    obtain ⟨v, h1, h2, h3⟩ := h k hk
    exact ⟨v, by rw [atKey_put_other (fun h => e1 h.symm)]; exact h1, h2, by omega⟩
theorem mp_look {w : World} {b n c : Nat} {D : DataW Unit} (h3 : MapIs w b n D) (h4 : InC D c) (k : Int) (hk : (Lit.int .u64 k).wf = true) :
    ∃ (v : Nat) (h : Bool), (Instr.lookup 107 (.map (some b)) (.int .u64 k) true).run Try.prog w = .ok (.tuple #[.int .u32 v, .bool h]) w ∧ v ≤ 4294967295 ∧ (h = true → 1 ≤ v ∧ v ≤ c) := by
  obtain ⟨x, ps, hrun, hx⟩ := h3.look_ok lawG Try.underlying107 (zeroU w) (plainElem_int Try.underlying29 (by decide)) (keyOf_int_mk Try.underlying84 hk)
  obtain ⟨a, rfl, hz, hwf⟩ := plainElem_int_inv Try.underlying29 hx
  simp [Lit.wf, IntKind.min, IntKind.max, IntKind.signed, IntKind.bits] at hwf
  obtain ⟨a, rfl⟩ := Int.eq_ofNat_of_zero_le hwf.1
  refine ⟨a, has D (.int .u64 k), hrun, by omega, fun hh => ?_⟩
  obtain ⟨v, e, h1, h2⟩ := h4 k hh
  rw [e] at hz
  have hz' : (DataW.lit (.int .u32 (v : Int)) : DataW Unit) = .lit (.int .u32 a) := congrArg Prod.fst hz
  have hz2 : (Lit.int .u32 (v : Int)) = .int .u32 a := by injection hz'
  have hz3 : (v : Int) = a := by injection hz2
  omega
end Go.Proofs.Ytlkicobpfbgloaa
