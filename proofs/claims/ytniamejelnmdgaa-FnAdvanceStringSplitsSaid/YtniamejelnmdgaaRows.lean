/-
  No cell of these rows narrows 'for every input' (looked for: loops, veiled, ifaces, maps, wideKeys, modest, calm, conditions, laid).
  DERIVED. THE GIVEN ROWS OF THIS SEAT. 9 by the template 'for every input the law returns true; each argument reads behind the call as it read before'; 0 by the template 'total and deterministic' (their statements: YtniamejelnmdgaaTotals.lean).
  GIVEN WITH THE SEED: the statements are not yours to turn. If you find one false, say at which input.
  Laid BY PROGRAM, IN A SANDBOX (cutbox-rows.mjs): the forced cells as the released guide's own fill.sh prints them over the translation 21e7e4fc3c943894… (all of the seat's roots in one cut). By AI agents, Wed Nov 11 2026. No macro, syntax, notation, axiom, sorry.
-/
import Derived.Test.YtniamejelnmdgaaChecked
import GoSem.Claim
import GoSem.ClaimJoined
import GoSem.ClaimMapViews
import Derived.JoinedTies
import Derived.KernelRfl
namespace Go.Proofs.Ytniamejelnmdgaa
/- THE CELL 'sum', in the pinned program and in every row, IS THE sha256 OF THE DUMP (.gsa) THAT YtniamejelnmdgaaProg.lean LOADS. Nothing in Lean hashes anything: it is a label: what it is worth is what the hold of that sum in a sandbox is worth. -/
noncomputable def Try.pinned : Pinned := { name := "ytniamejelnmdgaa", sum := "21e7e4fc3c943894219d26bfa4423badb367582155b8a15f7ea09b66482058e0", checked := Try.checked }
namespace Rows
def none {H : Type} : Left H := { results := [], args := [] }

/-- 'n011_291.FnEngineStringParsesBack': WHATEVER THE INPUT: true; the input reads as it did. -/
def fnEngineStringParsesBackSpec : ChangeSpec := { name := "fnEngineStringParsesBack", fn := fun _ => fun
  | [d] => { results := [.lit (.bool true)], args := [d] }
  | _ => none }
def fnEngineStringParsesBackRow : OpenClaim := { program := "ytniamejelnmdgaa", sum := "21e7e4fc3c943894219d26bfa4423badb367582155b8a15f7ea09b66482058e0", func := "github.com/evanw/esbuild/n011_291.FnEngineStringParsesBack", spec := "fnEngineStringParsesBack", apart := false }
def FnEngineStringParsesBackSaid : Prop := fnEngineStringParsesBackRow.holds Try.pinned (OpenSpec.ofChange fnEngineStringParsesBackSpec)

/-- ITS FALSE NEIGHBOUR: 'it returns false'. Refute it at one input. -/
def fnEngineStringParsesBackWrong : ChangeSpec := { name := "fnEngineStringParsesBack", fn := fun _ => fun
  | [d] => { results := [.lit (.bool false)], args := [d] }
  | _ => none }
def FnEngineStringParsesBackWrongFalsely : Prop := fnEngineStringParsesBackRow.holds Try.pinned (OpenSpec.ofChange fnEngineStringParsesBackWrong)

/-- 'n011_146.FnHasMatchesBitModel': WHATEVER THE INPUT: true; the input reads as it did. -/
def fnHasMatchesBitModelSpec : ChangeSpec := { name := "fnHasMatchesBitModel", fn := fun _ => fun
  | [d1, d2] => { results := [.lit (.bool true)], args := [d1, d2] }
  | _ => none }
def fnHasMatchesBitModelRow : OpenClaim := { program := "ytniamejelnmdgaa", sum := "21e7e4fc3c943894219d26bfa4423badb367582155b8a15f7ea09b66482058e0", func := "github.com/evanw/esbuild/n011_146.FnHasMatchesBitModel", spec := "fnHasMatchesBitModel", apart := false }
def FnHasMatchesBitModelSaid : Prop := fnHasMatchesBitModelRow.holds Try.pinned (OpenSpec.ofChange fnHasMatchesBitModelSpec)

/-- ITS FALSE NEIGHBOUR: 'it returns false'. Refute it at one input. -/
def fnHasMatchesBitModelWrong : ChangeSpec := { name := "fnHasMatchesBitModel", fn := fun _ => fun
  | [d1, d2] => { results := [.lit (.bool false)], args := [d1, d2] }
  | _ => none }
def FnHasMatchesBitModelWrongFalsely : Prop := fnHasMatchesBitModelRow.holds Try.pinned (OpenSpec.ofChange fnHasMatchesBitModelWrong)

/-- 'n011_287.FnStableSymbolCountLessIsKeyOrder': WHATEVER THE INPUT: true; the input reads as it did. -/
def fnStableSymbolCountLessIsKeyOrderSpec : ChangeSpec := { name := "fnStableSymbolCountLessIsKeyOrder", fn := fun _ => fun
  | [d1, d2, d3, d4, d5, d6, d7, d8] => { results := [.lit (.bool true)], args := [d1, d2, d3, d4, d5, d6, d7, d8] }
  | _ => none }
def fnStableSymbolCountLessIsKeyOrderRow : OpenClaim := { program := "ytniamejelnmdgaa", sum := "21e7e4fc3c943894219d26bfa4423badb367582155b8a15f7ea09b66482058e0", func := "github.com/evanw/esbuild/n011_287.FnStableSymbolCountLessIsKeyOrder", spec := "fnStableSymbolCountLessIsKeyOrder", apart := false }
def FnStableSymbolCountLessIsKeyOrderSaid : Prop := fnStableSymbolCountLessIsKeyOrderRow.holds Try.pinned (OpenSpec.ofChange fnStableSymbolCountLessIsKeyOrderSpec)

/-- ITS FALSE NEIGHBOUR: 'it returns false'. Refute it at one input. -/
def fnStableSymbolCountLessIsKeyOrderWrong : ChangeSpec := { name := "fnStableSymbolCountLessIsKeyOrder", fn := fun _ => fun
  | [d1, d2, d3, d4, d5, d6, d7, d8] => { results := [.lit (.bool false)], args := [d1, d2, d3, d4, d5, d6, d7, d8] }
  | _ => none }
def FnStableSymbolCountLessIsKeyOrderWrongFalsely : Prop := fnStableSymbolCountLessIsKeyOrderRow.holds Try.pinned (OpenSpec.ofChange fnStableSymbolCountLessIsKeyOrderWrong)

/-- 'n011_291.FnCSSFeatureApplyOverridesUndoAndIdempotent': WHATEVER THE INPUT: true; the input reads as it did. -/
def fnCSSFeatureApplyOverridesUndoAndIdempotentSpec : ChangeSpec := { name := "fnCSSFeatureApplyOverridesUndoAndIdempotent", fn := fun _ => fun
  | [d1, d2, d3] => { results := [.lit (.bool true)], args := [d1, d2, d3] }
  | _ => none }
def fnCSSFeatureApplyOverridesUndoAndIdempotentRow : OpenClaim := { program := "ytniamejelnmdgaa", sum := "21e7e4fc3c943894219d26bfa4423badb367582155b8a15f7ea09b66482058e0", func := "github.com/evanw/esbuild/n011_291.FnCSSFeatureApplyOverridesUndoAndIdempotent", spec := "fnCSSFeatureApplyOverridesUndoAndIdempotent", apart := false }
def FnCSSFeatureApplyOverridesUndoAndIdempotentSaid : Prop := fnCSSFeatureApplyOverridesUndoAndIdempotentRow.holds Try.pinned (OpenSpec.ofChange fnCSSFeatureApplyOverridesUndoAndIdempotentSpec)

/-- ITS FALSE NEIGHBOUR: 'it returns false'. Refute it at one input. -/
def fnCSSFeatureApplyOverridesUndoAndIdempotentWrong : ChangeSpec := { name := "fnCSSFeatureApplyOverridesUndoAndIdempotent", fn := fun _ => fun
  | [d1, d2, d3] => { results := [.lit (.bool false)], args := [d1, d2, d3] }
  | _ => none }
def FnCSSFeatureApplyOverridesUndoAndIdempotentWrongFalsely : Prop := fnCSSFeatureApplyOverridesUndoAndIdempotentRow.holds Try.pinned (OpenSpec.ofChange fnCSSFeatureApplyOverridesUndoAndIdempotentWrong)

/-- 'n011_146.FnIsBrowserAgreesWithName': WHATEVER THE INPUT: true; the input reads as it did. -/
def fnIsBrowserAgreesWithNameSpec : ChangeSpec := { name := "fnIsBrowserAgreesWithName", fn := fun _ => fun
  | [d] => { results := [.lit (.bool true)], args := [d] }
  | _ => none }
def fnIsBrowserAgreesWithNameRow : OpenClaim := { program := "ytniamejelnmdgaa", sum := "21e7e4fc3c943894219d26bfa4423badb367582155b8a15f7ea09b66482058e0", func := "github.com/evanw/esbuild/n011_146.FnIsBrowserAgreesWithName", spec := "fnIsBrowserAgreesWithName", apart := false }
def FnIsBrowserAgreesWithNameSaid : Prop := fnIsBrowserAgreesWithNameRow.holds Try.pinned (OpenSpec.ofChange fnIsBrowserAgreesWithNameSpec)

/-- ITS FALSE NEIGHBOUR: 'it returns false'. Refute it at one input. -/
def fnIsBrowserAgreesWithNameWrong : ChangeSpec := { name := "fnIsBrowserAgreesWithName", fn := fun _ => fun
  | [d] => { results := [.lit (.bool false)], args := [d] }
  | _ => none }
def FnIsBrowserAgreesWithNameWrongFalsely : Prop := fnIsBrowserAgreesWithNameRow.holds Try.pinned (OpenSpec.ofChange fnIsBrowserAgreesWithNameWrong)

/-- 'n011_146.FnApplyOverridesScript': WHATEVER THE INPUT: true; the input reads as it did. -/
def fnApplyOverridesScriptSpec : ChangeSpec := { name := "fnApplyOverridesScript", fn := fun _ => fun
  | [d1, d2, d3, d4, d5] => { results := [.lit (.bool true)], args := [d1, d2, d3, d4, d5] }
  | _ => none }
def fnApplyOverridesScriptRow : OpenClaim := { program := "ytniamejelnmdgaa", sum := "21e7e4fc3c943894219d26bfa4423badb367582155b8a15f7ea09b66482058e0", func := "github.com/evanw/esbuild/n011_146.FnApplyOverridesScript", spec := "fnApplyOverridesScript", apart := false }
def FnApplyOverridesScriptSaid : Prop := fnApplyOverridesScriptRow.holds Try.pinned (OpenSpec.ofChange fnApplyOverridesScriptSpec)

/-- ITS FALSE NEIGHBOUR: 'it returns false'. Refute it at one input. -/
def fnApplyOverridesScriptWrong : ChangeSpec := { name := "fnApplyOverridesScript", fn := fun _ => fun
  | [d1, d2, d3, d4, d5] => { results := [.lit (.bool false)], args := [d1, d2, d3, d4, d5] }
  | _ => none }
def FnApplyOverridesScriptWrongFalsely : Prop := fnApplyOverridesScriptRow.holds Try.pinned (OpenSpec.ofChange fnApplyOverridesScriptWrong)

/-- 'n011_23.FnAdvanceFromAnyStartIsAdd': WHATEVER THE INPUT: true; the input reads as it did. -/
def fnAdvanceFromAnyStartIsAddSpec : ChangeSpec := { name := "fnAdvanceFromAnyStartIsAdd", fn := fun _ => fun
  | [d1, d2, d3] => { results := [.lit (.bool true)], args := [d1, d2, d3] }
  | _ => none }
def fnAdvanceFromAnyStartIsAddRow : OpenClaim := { program := "ytniamejelnmdgaa", sum := "21e7e4fc3c943894219d26bfa4423badb367582155b8a15f7ea09b66482058e0", func := "github.com/evanw/esbuild/n011_23.FnAdvanceFromAnyStartIsAdd", spec := "fnAdvanceFromAnyStartIsAdd", apart := false }
def FnAdvanceFromAnyStartIsAddSaid : Prop := fnAdvanceFromAnyStartIsAddRow.holds Try.pinned (OpenSpec.ofChange fnAdvanceFromAnyStartIsAddSpec)

/-- ITS FALSE NEIGHBOUR: 'it returns false'. Refute it at one input. -/
def fnAdvanceFromAnyStartIsAddWrong : ChangeSpec := { name := "fnAdvanceFromAnyStartIsAdd", fn := fun _ => fun
  | [d1, d2, d3] => { results := [.lit (.bool false)], args := [d1, d2, d3] }
  | _ => none }
def FnAdvanceFromAnyStartIsAddWrongFalsely : Prop := fnAdvanceFromAnyStartIsAddRow.holds Try.pinned (OpenSpec.ofChange fnAdvanceFromAnyStartIsAddWrong)

/-- 'n011_23.FnAdvanceStringMovesForward': WHATEVER THE INPUT: true; the input reads as it did. -/
def fnAdvanceStringMovesForwardSpec : ChangeSpec := { name := "fnAdvanceStringMovesForward", fn := fun _ => fun
  | [d1, d2, d3] => { results := [.lit (.bool true)], args := [d1, d2, d3] }
  | _ => none }
def fnAdvanceStringMovesForwardRow : OpenClaim := { program := "ytniamejelnmdgaa", sum := "21e7e4fc3c943894219d26bfa4423badb367582155b8a15f7ea09b66482058e0", func := "github.com/evanw/esbuild/n011_23.FnAdvanceStringMovesForward", spec := "fnAdvanceStringMovesForward", apart := false }
def FnAdvanceStringMovesForwardSaid : Prop := fnAdvanceStringMovesForwardRow.holds Try.pinned (OpenSpec.ofChange fnAdvanceStringMovesForwardSpec)

/-- ITS FALSE NEIGHBOUR: 'it returns false'. Refute it at one input. -/
def fnAdvanceStringMovesForwardWrong : ChangeSpec := { name := "fnAdvanceStringMovesForward", fn := fun _ => fun
  | [d1, d2, d3] => { results := [.lit (.bool false)], args := [d1, d2, d3] }
  | _ => none }
def FnAdvanceStringMovesForwardWrongFalsely : Prop := fnAdvanceStringMovesForwardRow.holds Try.pinned (OpenSpec.ofChange fnAdvanceStringMovesForwardWrong)

/-- 'n011_23.FnAdvanceStringSplits': WHATEVER THE INPUT: true; the input reads as it did. -/
def fnAdvanceStringSplitsSpec : ChangeSpec := { name := "fnAdvanceStringSplits", fn := fun _ => fun
  | [d1, d2, d3, d4] => { results := [.lit (.bool true)], args := [d1, d2, d3, d4] }
  | _ => none }
def fnAdvanceStringSplitsRow : OpenClaim := { program := "ytniamejelnmdgaa", sum := "21e7e4fc3c943894219d26bfa4423badb367582155b8a15f7ea09b66482058e0", func := "github.com/evanw/esbuild/n011_23.FnAdvanceStringSplits", spec := "fnAdvanceStringSplits", apart := false }
def FnAdvanceStringSplitsSaid : Prop := fnAdvanceStringSplitsRow.holds Try.pinned (OpenSpec.ofChange fnAdvanceStringSplitsSpec)

/-- ITS FALSE NEIGHBOUR: 'it returns false'. Refute it at one input. -/
def fnAdvanceStringSplitsWrong : ChangeSpec := { name := "fnAdvanceStringSplits", fn := fun _ => fun
  | [d1, d2, d3, d4] => { results := [.lit (.bool false)], args := [d1, d2, d3, d4] }
  | _ => none }
def FnAdvanceStringSplitsWrongFalsely : Prop := fnAdvanceStringSplitsRow.holds Try.pinned (OpenSpec.ofChange fnAdvanceStringSplitsWrong)

/- THE SECOND FORM. 'bulk': how many values and letters a reading holds, each counted each time it is reached (what is shared counts as often as it is met; a slice's spare places count too). A statement '..UptoSaid' is the law's where the arguments, and the package variables that the reading takes, are together of bulk at most 1048576: NARROWER than '..Said'. Prove '..Said' where nothing that the law and all that it calls make is longer than what came in: it says more and counts as full. Else prove '..UptoSaid'. A law counts once. -/
mutual
def uptoBulk {H : Type} : DataW H → Nat
  | .lit (.string bytes) => bytes.length + 1
  | .lit _ => 1
  | .nil => 1
  | .ptr d => uptoBulk d + 1
  | .slice elems spare => uptoBulkAll elems + uptoBulkAll spare + 1
  | .agg parts => uptoBulkAll parts + 1
  | .iface _ d => uptoBulk d + 1
  | .map entries => uptoBulkEntries entries + 1
  | .held _ => 1
def uptoBulkAll {H : Type} : List (DataW H) → Nat
  | [] => 0
  | d :: r => uptoBulk d + uptoBulkAll r
def uptoBulkEntries {H : Type} : List (Lit × DataW H) → Nat
  | [] => 0
  | x :: r => uptoBulkEntry x + uptoBulkEntries r
def uptoBulkEntry {H : Type} : Lit × DataW H → Nat
  | (.string bytes, d) => bytes.length + uptoBulk d + 1
  | (_, d) => uptoBulk d + 1
 end
def uptoSmall : (H : Type) → List (DataW H) → Bool := fun _ ds => decide (uptoBulkAll ds ≤ 1048576)
def OpenSpec.upto (s : _root_.Go.ChangeSpec) : _root_.Go.OpenSpec := { _root_.Go.OpenSpec.ofChange s with cond := some uptoSmall }

/-- 'n011_291.FnEngineStringParsesBack', WHERE WHAT IT READS IS OF BULK AT MOST 1048576: true; the input reads as it did. -/
def fnEngineStringParsesBackUptoRow : OpenClaim := { program := "ytniamejelnmdgaa", sum := "21e7e4fc3c943894219d26bfa4423badb367582155b8a15f7ea09b66482058e0", func := "github.com/evanw/esbuild/n011_291.FnEngineStringParsesBack", spec := "fnEngineStringParsesBack", apart := false, narrowed := true }
def FnEngineStringParsesBackUptoSaid : Prop := fnEngineStringParsesBackUptoRow.holds Try.pinned (OpenSpec.upto fnEngineStringParsesBackSpec)

/-- 'n011_146.FnHasMatchesBitModel', WHERE WHAT IT READS IS OF BULK AT MOST 1048576: true; the input reads as it did. -/
def fnHasMatchesBitModelUptoRow : OpenClaim := { program := "ytniamejelnmdgaa", sum := "21e7e4fc3c943894219d26bfa4423badb367582155b8a15f7ea09b66482058e0", func := "github.com/evanw/esbuild/n011_146.FnHasMatchesBitModel", spec := "fnHasMatchesBitModel", apart := false, narrowed := true }
def FnHasMatchesBitModelUptoSaid : Prop := fnHasMatchesBitModelUptoRow.holds Try.pinned (OpenSpec.upto fnHasMatchesBitModelSpec)

/-- 'n011_287.FnStableSymbolCountLessIsKeyOrder', WHERE WHAT IT READS IS OF BULK AT MOST 1048576: true; the input reads as it did. -/
def fnStableSymbolCountLessIsKeyOrderUptoRow : OpenClaim := { program := "ytniamejelnmdgaa", sum := "21e7e4fc3c943894219d26bfa4423badb367582155b8a15f7ea09b66482058e0", func := "github.com/evanw/esbuild/n011_287.FnStableSymbolCountLessIsKeyOrder", spec := "fnStableSymbolCountLessIsKeyOrder", apart := false, narrowed := true }
def FnStableSymbolCountLessIsKeyOrderUptoSaid : Prop := fnStableSymbolCountLessIsKeyOrderUptoRow.holds Try.pinned (OpenSpec.upto fnStableSymbolCountLessIsKeyOrderSpec)

/-- 'n011_291.FnCSSFeatureApplyOverridesUndoAndIdempotent', WHERE WHAT IT READS IS OF BULK AT MOST 1048576: true; the input reads as it did. -/
def fnCSSFeatureApplyOverridesUndoAndIdempotentUptoRow : OpenClaim := { program := "ytniamejelnmdgaa", sum := "21e7e4fc3c943894219d26bfa4423badb367582155b8a15f7ea09b66482058e0", func := "github.com/evanw/esbuild/n011_291.FnCSSFeatureApplyOverridesUndoAndIdempotent", spec := "fnCSSFeatureApplyOverridesUndoAndIdempotent", apart := false, narrowed := true }
def FnCSSFeatureApplyOverridesUndoAndIdempotentUptoSaid : Prop := fnCSSFeatureApplyOverridesUndoAndIdempotentUptoRow.holds Try.pinned (OpenSpec.upto fnCSSFeatureApplyOverridesUndoAndIdempotentSpec)

/-- 'n011_146.FnIsBrowserAgreesWithName', WHERE WHAT IT READS IS OF BULK AT MOST 1048576: true; the input reads as it did. -/
def fnIsBrowserAgreesWithNameUptoRow : OpenClaim := { program := "ytniamejelnmdgaa", sum := "21e7e4fc3c943894219d26bfa4423badb367582155b8a15f7ea09b66482058e0", func := "github.com/evanw/esbuild/n011_146.FnIsBrowserAgreesWithName", spec := "fnIsBrowserAgreesWithName", apart := false, narrowed := true }
def FnIsBrowserAgreesWithNameUptoSaid : Prop := fnIsBrowserAgreesWithNameUptoRow.holds Try.pinned (OpenSpec.upto fnIsBrowserAgreesWithNameSpec)

/-- 'n011_146.FnApplyOverridesScript', WHERE WHAT IT READS IS OF BULK AT MOST 1048576: true; the input reads as it did. -/
def fnApplyOverridesScriptUptoRow : OpenClaim := { program := "ytniamejelnmdgaa", sum := "21e7e4fc3c943894219d26bfa4423badb367582155b8a15f7ea09b66482058e0", func := "github.com/evanw/esbuild/n011_146.FnApplyOverridesScript", spec := "fnApplyOverridesScript", apart := false, narrowed := true }
def FnApplyOverridesScriptUptoSaid : Prop := fnApplyOverridesScriptUptoRow.holds Try.pinned (OpenSpec.upto fnApplyOverridesScriptSpec)

/-- 'n011_23.FnAdvanceFromAnyStartIsAdd', WHERE WHAT IT READS IS OF BULK AT MOST 1048576: true; the input reads as it did. -/
def fnAdvanceFromAnyStartIsAddUptoRow : OpenClaim := { program := "ytniamejelnmdgaa", sum := "21e7e4fc3c943894219d26bfa4423badb367582155b8a15f7ea09b66482058e0", func := "github.com/evanw/esbuild/n011_23.FnAdvanceFromAnyStartIsAdd", spec := "fnAdvanceFromAnyStartIsAdd", apart := false, narrowed := true }
def FnAdvanceFromAnyStartIsAddUptoSaid : Prop := fnAdvanceFromAnyStartIsAddUptoRow.holds Try.pinned (OpenSpec.upto fnAdvanceFromAnyStartIsAddSpec)

/-- 'n011_23.FnAdvanceStringMovesForward', WHERE WHAT IT READS IS OF BULK AT MOST 1048576: true; the input reads as it did. -/
def fnAdvanceStringMovesForwardUptoRow : OpenClaim := { program := "ytniamejelnmdgaa", sum := "21e7e4fc3c943894219d26bfa4423badb367582155b8a15f7ea09b66482058e0", func := "github.com/evanw/esbuild/n011_23.FnAdvanceStringMovesForward", spec := "fnAdvanceStringMovesForward", apart := false, narrowed := true }
def FnAdvanceStringMovesForwardUptoSaid : Prop := fnAdvanceStringMovesForwardUptoRow.holds Try.pinned (OpenSpec.upto fnAdvanceStringMovesForwardSpec)

/-- 'n011_23.FnAdvanceStringSplits', WHERE WHAT IT READS IS OF BULK AT MOST 1048576: true; the input reads as it did. -/
def fnAdvanceStringSplitsUptoRow : OpenClaim := { program := "ytniamejelnmdgaa", sum := "21e7e4fc3c943894219d26bfa4423badb367582155b8a15f7ea09b66482058e0", func := "github.com/evanw/esbuild/n011_23.FnAdvanceStringSplits", spec := "fnAdvanceStringSplits", apart := false, narrowed := true }
def FnAdvanceStringSplitsUptoSaid : Prop := fnAdvanceStringSplitsUptoRow.holds Try.pinned (OpenSpec.upto fnAdvanceStringSplitsSpec)

end Rows
end Go.Proofs.Ytniamejelnmdgaa
