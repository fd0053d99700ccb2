/- ast.Ref as a map's key: what it reads as; the law of such keys. -/
import Derived.Test.YtlpmkbdglpnjhaaWords
import Derived.Test.YtlpmkbdglpnjhaaRows
import Derived.WalkKit
import Derived.DeepKeys5
import Derived.Maps.OwnSet
import Derived.Maps.Views
import Derived.Carry
namespace Go.Proofs.Ytlpmkbdglpnjhaa
open Go.RowKit Go.Maps Go.WideMaps
set_option linter.unusedVariables false
set_option linter.unusedSimpArgs false
def refV (s i : Int) : Value := .agg #[.int .u32 s, .int .u32 i]
theorem laidOutP : laidOutB Try.prog = true := by kernel_rfl
theorem refWide : (match Try.prog.underlying 40 with | some (.array _ _) | some (.struct _) => true | _ => false) = true := by kernel_rfl
theorem tszR : decide (Try.prog.types.size + 2 ≤ 10000) = true := by kernel_rfl
theorem rowR : decide (40 < Try.prog.types.size) = true := by kernel_rfl
theorem ktR : Try.prog.keyType 40 = true := by kernel_rfl
set_option maxRecDepth 100000 in
theorem lawR : Keyed Try.prog 40 := Keyed.of_law (deep_law_gate laidOutP (of_decide_eq_true tszR) (of_decide_eq_true rowR) ktR refWide)
theorem cellsR : Try.prog.cellsOf 40 = 2 := by kernel_rfl
theorem cellsU : Try.prog.cellsOf 24 = 1 := by kernel_rfl
theorem u32wf {i : Int} (h0 : 0 ≤ i) (h1 : i ≤ 4294967295) : (Lit.int .u32 i).wf = true := by simp [Lit.wf, IntKind.min, IntKind.max, IntKind.signed, IntKind.bits]; omega
theorem ref_lits (d : Nat) (s i : Int) (hs : (Lit.int .u32 s).wf = true) (hi : (Lit.int .u32 i).wf = true) : Try.prog.keyLits (d + 2) 40 [.int .u32 s, .int .u32 i] = some [.int .u32 s, .int .u32 i] := by
  simp [Program.keyLits, Try.underlying40, Try.underlying24, cellsR, cellsU, hs, hi]
theorem ref_key (s i : Int) (hs : (Lit.int .u32 s).wf = true) (hi : (Lit.int .u32 i).wf = true) : keyOf Try.prog 40 (refV s i) = some (.string (keyBytes [.int .u32 s, .int .u32 i])) := by
  have h1 : Try.prog.keyType 40 = true := by kernel_rfl
  have h2 : (refV s i).formed Try.prog 40 = true := by
    simp [refV, Value.formed, Try.underlying40, cellsR]
  obtain ⟨d, hd⟩ : ∃ d, Try.prog.types.size = d + 1 := ⟨Try.prog.types.size - 1, by have : 0 < Try.prog.types.size := of_decide_eq_true (by kernel_rfl); omega⟩
  unfold keyOf
  rw [Try.underlying40]
  simp only
  rw [h1, h2, hd]
  simp only [Bool.and_self, if_true]
  show Option.map _ (Try.prog.keyLits (d + 2) 40 [.int .u32 s, .int .u32 i]) = _
  rw [ref_lits d s i hs hi]
  rfl
/-- The key of symbol r of source 0. -/
def refK (r : Nat) : Lit := .string (keyBytes [.int .u32 0, .int .u32 r])
theorem refK_key (r : Nat) (h : r ≤ 4294967295) : keyOf Try.prog 40 (.agg #[.int .u32 0, .int .u32 r]) = some (refK r) := ref_key 0 r (u32wf (by omega) (by omega)) (u32wf (by omega) (by omega))
theorem refK_inj {r s : Nat} (hr : r ≤ 4294967295) (hs : s ≤ 4294967295) (h : refK r = refK s) : r = s := by
  have h1 := refK_key r hr
  rw [h] at h1
  have e := lawR.inj h1 (refK_key s hs)
  simp only [Value.agg.injEq, Array.mk.injEq, List.cons.injEq, Value.int.injEq, true_and, and_true] at e
  omega
end Go.Proofs.Ytlpmkbdglpnjhaa
