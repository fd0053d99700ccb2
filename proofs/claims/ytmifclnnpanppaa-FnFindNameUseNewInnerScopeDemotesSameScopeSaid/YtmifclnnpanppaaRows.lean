/-
  No cell of these rows narrows 'for every input' (looked for: loops, veiled, ifaces, maps, wideKeys, modest, calm, conditions, laid).
  DERIVED. THE GIVEN ROWS OF THIS SEAT. 2 by the template 'for every input the law returns true; each argument reads behind the call as it read before'; 0 by the template 'total and deterministic' (their statements: YtmifclnnpanppaaTotals.lean).
  GIVEN WITH THE SEED: the statements are not yours to turn. If you find one false, say at which input.
  Laid BY PROGRAM, IN A SANDBOX (cutbox-rows.mjs): the forced cells as the released guide's own fill.sh prints them over the translation 187361e4f9d97610… (all of the seat's roots in one cut). By AI agents, Wed Nov 11 2026. No macro, syntax, notation, axiom, sorry.
-/
import Derived.Test.YtmifclnnpanppaaChecked
import GoSem.Claim
import GoSem.ClaimJoined
import GoSem.ClaimMapViews
import Derived.JoinedTies
import Derived.KernelRfl
namespace Go.Proofs.Ytmifclnnpanppaa
/- THE CELL 'sum', in the pinned program and in every row, IS THE sha256 OF THE DUMP (.gsa) THAT YtmifclnnpanppaaProg.lean LOADS. Nothing in Lean hashes anything: it is a label: what it is worth is what the hold of that sum in a sandbox is worth. -/
noncomputable def Try.pinned : Pinned := { name := "ytmifclnnpanppaa", sum := "187361e4f9d976109c59e0f2b85ecc1371d5ba08c940ab2bf29df1159380d94e", checked := Try.checked }
namespace Rows
def none {H : Type} : Left H := { results := [], args := [] }

/-- 'n011_64.FnFindNameUseMatchesScopeTable': WHATEVER THE INPUT: true; the input reads as it did. -/
def fnFindNameUseMatchesScopeTableSpec : ChangeSpec := { name := "fnFindNameUseMatchesScopeTable", fn := fun _ => fun
  | [d1, d2] => { results := [.lit (.bool true)], args := [d1, d2] }
  | _ => none }
def fnFindNameUseMatchesScopeTableRow : OpenClaim := { program := "ytmifclnnpanppaa", sum := "187361e4f9d976109c59e0f2b85ecc1371d5ba08c940ab2bf29df1159380d94e", func := "github.com/evanw/esbuild/n011_64.FnFindNameUseMatchesScopeTable", spec := "fnFindNameUseMatchesScopeTable", apart := false }
def FnFindNameUseMatchesScopeTableSaid : Prop := fnFindNameUseMatchesScopeTableRow.holds Try.pinned (OpenSpec.ofChange fnFindNameUseMatchesScopeTableSpec)

/-- ITS FALSE NEIGHBOUR: 'it returns false'. Refute it at one input. -/
def fnFindNameUseMatchesScopeTableWrong : ChangeSpec := { name := "fnFindNameUseMatchesScopeTable", fn := fun _ => fun
  | [d1, d2] => { results := [.lit (.bool false)], args := [d1, d2] }
  | _ => none }
def FnFindNameUseMatchesScopeTableWrongFalsely : Prop := fnFindNameUseMatchesScopeTableRow.holds Try.pinned (OpenSpec.ofChange fnFindNameUseMatchesScopeTableWrong)

/-- 'n011_64.FnFindNameUseNewInnerScopeDemotesSameScope': WHATEVER THE INPUT: true; the input reads as it did. -/
def fnFindNameUseNewInnerScopeDemotesSameScopeSpec : ChangeSpec := { name := "fnFindNameUseNewInnerScopeDemotesSameScope", fn := fun _ => fun
  | [d1, d2] => { results := [.lit (.bool true)], args := [d1, d2] }
  | _ => none }
def fnFindNameUseNewInnerScopeDemotesSameScopeRow : OpenClaim := { program := "ytmifclnnpanppaa", sum := "187361e4f9d976109c59e0f2b85ecc1371d5ba08c940ab2bf29df1159380d94e", func := "github.com/evanw/esbuild/n011_64.FnFindNameUseNewInnerScopeDemotesSameScope", spec := "fnFindNameUseNewInnerScopeDemotesSameScope", apart := false }
def FnFindNameUseNewInnerScopeDemotesSameScopeSaid : Prop := fnFindNameUseNewInnerScopeDemotesSameScopeRow.holds Try.pinned (OpenSpec.ofChange fnFindNameUseNewInnerScopeDemotesSameScopeSpec)

/-- ITS FALSE NEIGHBOUR: 'it returns false'. Refute it at one input. -/
def fnFindNameUseNewInnerScopeDemotesSameScopeWrong : ChangeSpec := { name := "fnFindNameUseNewInnerScopeDemotesSameScope", fn := fun _ => fun
  | [d1, d2] => { results := [.lit (.bool false)], args := [d1, d2] }
  | _ => none }
def FnFindNameUseNewInnerScopeDemotesSameScopeWrongFalsely : Prop := fnFindNameUseNewInnerScopeDemotesSameScopeRow.holds Try.pinned (OpenSpec.ofChange fnFindNameUseNewInnerScopeDemotesSameScopeWrong)

/- THE SECOND FORM. 'bulk': how many values and letters a reading holds, each counted each time it is reached (what is shared counts as often as it is met; a slice's spare places count too). A statement '..UptoSaid' is the law's where the arguments, and the package variables that the reading takes, are together of bulk at most 1048576: NARROWER than '..Said'. Prove '..Said' where nothing that the law and all that it calls make is longer than what came in: it says more and counts as full. Else prove '..UptoSaid'. A law counts once. -/
mutual
def uptoBulk {H : Type} : DataW H → Nat
  | .lit (.string bytes) => bytes.length + 1
  | .lit _ => 1
  | .nil => 1
  | .ptr d => uptoBulk d + 1
  | .slice elems spare => uptoBulkAll elems + uptoBulkAll spare + 1
  | .agg parts => uptoBulkAll parts + 1
  | .iface _ d => uptoBulk d + 1
  | .map entries => uptoBulkEntries entries + 1
  | .held _ => 1
def uptoBulkAll {H : Type} : List (DataW H) → Nat
  | [] => 0
  | d :: r => uptoBulk d + uptoBulkAll r
def uptoBulkEntries {H : Type} : List (Lit × DataW H) → Nat
  | [] => 0
  | x :: r => uptoBulkEntry x + uptoBulkEntries r
def uptoBulkEntry {H : Type} : Lit × DataW H → Nat
  | (.string bytes, d) => bytes.length + uptoBulk d + 1
  | (_, d) => uptoBulk d + 1
 end
def uptoSmall : (H : Type) → List (DataW H) → Bool := fun _ ds => decide (uptoBulkAll ds ≤ 1048576)
def OpenSpec.upto (s : _root_.Go.ChangeSpec) : _root_.Go.OpenSpec := { _root_.Go.OpenSpec.ofChange s with cond := some uptoSmall }

/-- 'n011_64.FnFindNameUseMatchesScopeTable', WHERE WHAT IT READS IS OF BULK AT MOST 1048576: true; the input reads as it did. -/
def fnFindNameUseMatchesScopeTableUptoRow : OpenClaim := { program := "ytmifclnnpanppaa", sum := "187361e4f9d976109c59e0f2b85ecc1371d5ba08c940ab2bf29df1159380d94e", func := "github.com/evanw/esbuild/n011_64.FnFindNameUseMatchesScopeTable", spec := "fnFindNameUseMatchesScopeTable", apart := false, narrowed := true }
def FnFindNameUseMatchesScopeTableUptoSaid : Prop := fnFindNameUseMatchesScopeTableUptoRow.holds Try.pinned (OpenSpec.upto fnFindNameUseMatchesScopeTableSpec)

/-- 'n011_64.FnFindNameUseNewInnerScopeDemotesSameScope', WHERE WHAT IT READS IS OF BULK AT MOST 1048576: true; the input reads as it did. -/
def fnFindNameUseNewInnerScopeDemotesSameScopeUptoRow : OpenClaim := { program := "ytmifclnnpanppaa", sum := "187361e4f9d976109c59e0f2b85ecc1371d5ba08c940ab2bf29df1159380d94e", func := "github.com/evanw/esbuild/n011_64.FnFindNameUseNewInnerScopeDemotesSameScope", spec := "fnFindNameUseNewInnerScopeDemotesSameScope", apart := false, narrowed := true }
def FnFindNameUseNewInnerScopeDemotesSameScopeUptoSaid : Prop := fnFindNameUseNewInnerScopeDemotesSameScopeUptoRow.holds Try.pinned (OpenSpec.upto fnFindNameUseNewInnerScopeDemotesSameScopeSpec)

end Rows
end Go.Proofs.Ytmifclnnpanppaa
