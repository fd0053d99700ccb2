/-
  No cell of these rows narrows 'for every input' (looked for: loops, veiled, ifaces, maps, wideKeys, modest, calm, conditions, laid).
  DERIVED. THE GIVEN ROWS OF THIS SEAT. 3 by the template 'for every input the law returns true; each argument reads behind the call as it read before'; 0 by the template 'total and deterministic' (their statements: YtddjbbipmfcnaaaTotals.lean).
  GIVEN WITH THE SEED: the statements are not yours to turn. If you find one false, say at which input.
  Laid BY PROGRAM, IN A SANDBOX (cutbox-rows.mjs): the forced cells as the released guide's own fill.sh prints them over the translation 7ebf1b894a66ae1c… (all of the seat's roots in one cut). By AI agents, Wed Nov 11 2026. No macro, syntax, notation, axiom, sorry.
-/
import Derived.Test.YtddjbbipmfcnaaaChecked
import GoSem.Claim
import GoSem.ClaimJoined
import GoSem.ClaimMapViews
import Derived.JoinedTies
import Derived.KernelRfl
namespace Go.Proofs.Ytddjbbipmfcnaaa
/- THE CELL 'sum', in the pinned program and in every row, IS THE sha256 OF THE DUMP (.gsa) THAT YtddjbbipmfcnaaaProg.lean LOADS. Nothing in Lean hashes anything: it is a label: what it is worth is what the hold of that sum in a sandbox is worth. -/
noncomputable def Try.pinned : Pinned := { name := "ytddjbbipmfcnaaa", sum := "7ebf1b894a66ae1cd6581bee3d0fce3bcc6fa2a04658b2e8bbbcbcbce8ac7219", checked := Try.checked }
namespace Rows
def none {H : Type} : Left H := { results := [], args := [] }

/-- 'n011_312.FnSanitizeMatchesSplitJoinModel': WHATEVER THE INPUT: true; the input reads as it did. -/
def fnSanitizeMatchesSplitJoinModelSpec : ChangeSpec := { name := "fnSanitizeMatchesSplitJoinModel", fn := fun _ => fun
  | [d] => { results := [.lit (.bool true)], args := [d] }
  | _ => none }
def fnSanitizeMatchesSplitJoinModelRow : OpenClaim := { program := "ytddjbbipmfcnaaa", sum := "7ebf1b894a66ae1cd6581bee3d0fce3bcc6fa2a04658b2e8bbbcbcbce8ac7219", func := "github.com/evanw/esbuild/n011_312.FnSanitizeMatchesSplitJoinModel", spec := "fnSanitizeMatchesSplitJoinModel", inPlace := ["internal/abi.NoEscape"], apart := false }
def FnSanitizeMatchesSplitJoinModelSaid : Prop := fnSanitizeMatchesSplitJoinModelRow.holds Try.pinned (OpenSpec.ofChange fnSanitizeMatchesSplitJoinModelSpec)

/-- ITS FALSE NEIGHBOUR: 'it returns false'. Refute it at one input. -/
def fnSanitizeMatchesSplitJoinModelWrong : ChangeSpec := { name := "fnSanitizeMatchesSplitJoinModel", fn := fun _ => fun
  | [d] => { results := [.lit (.bool false)], args := [d] }
  | _ => none }
def FnSanitizeMatchesSplitJoinModelWrongFalsely : Prop := fnSanitizeMatchesSplitJoinModelRow.holds Try.pinned (OpenSpec.ofChange fnSanitizeMatchesSplitJoinModelWrong)

/-- 'n011_312.FnSanitizeIdempotentAndClean': WHATEVER THE INPUT: true; the input reads as it did. -/
def fnSanitizeIdempotentAndCleanSpec : ChangeSpec := { name := "fnSanitizeIdempotentAndClean", fn := fun _ => fun
  | [d] => { results := [.lit (.bool true)], args := [d] }
  | _ => none }
def fnSanitizeIdempotentAndCleanRow : OpenClaim := { program := "ytddjbbipmfcnaaa", sum := "7ebf1b894a66ae1cd6581bee3d0fce3bcc6fa2a04658b2e8bbbcbcbce8ac7219", func := "github.com/evanw/esbuild/n011_312.FnSanitizeIdempotentAndClean", spec := "fnSanitizeIdempotentAndClean", inPlace := ["internal/abi.NoEscape"], apart := false }
def FnSanitizeIdempotentAndCleanSaid : Prop := fnSanitizeIdempotentAndCleanRow.holds Try.pinned (OpenSpec.ofChange fnSanitizeIdempotentAndCleanSpec)

/-- ITS FALSE NEIGHBOUR: 'it returns false'. Refute it at one input. -/
def fnSanitizeIdempotentAndCleanWrong : ChangeSpec := { name := "fnSanitizeIdempotentAndClean", fn := fun _ => fun
  | [d] => { results := [.lit (.bool false)], args := [d] }
  | _ => none }
def FnSanitizeIdempotentAndCleanWrongFalsely : Prop := fnSanitizeIdempotentAndCleanRow.holds Try.pinned (OpenSpec.ofChange fnSanitizeIdempotentAndCleanWrong)

/-- 'n011_151.FnIsASCIIOnlyIsPrintableASCIIBytes': WHATEVER THE INPUT: true; the input reads as it did. -/
def fnIsASCIIOnlyIsPrintableASCIIBytesSpec : ChangeSpec := { name := "fnIsASCIIOnlyIsPrintableASCIIBytes", fn := fun _ => fun
  | [d] => { results := [.lit (.bool true)], args := [d] }
  | _ => none }
def fnIsASCIIOnlyIsPrintableASCIIBytesRow : OpenClaim := { program := "ytddjbbipmfcnaaa", sum := "7ebf1b894a66ae1cd6581bee3d0fce3bcc6fa2a04658b2e8bbbcbcbce8ac7219", func := "github.com/evanw/esbuild/n011_151.FnIsASCIIOnlyIsPrintableASCIIBytes", spec := "fnIsASCIIOnlyIsPrintableASCIIBytes", apart := false }
def FnIsASCIIOnlyIsPrintableASCIIBytesSaid : Prop := fnIsASCIIOnlyIsPrintableASCIIBytesRow.holds Try.pinned (OpenSpec.ofChange fnIsASCIIOnlyIsPrintableASCIIBytesSpec)

/-- ITS FALSE NEIGHBOUR: 'it returns false'. Refute it at one input. -/
def fnIsASCIIOnlyIsPrintableASCIIBytesWrong : ChangeSpec := { name := "fnIsASCIIOnlyIsPrintableASCIIBytes", fn := fun _ => fun
  | [d] => { results := [.lit (.bool false)], args := [d] }
  | _ => none }
def FnIsASCIIOnlyIsPrintableASCIIBytesWrongFalsely : Prop := fnIsASCIIOnlyIsPrintableASCIIBytesRow.holds Try.pinned (OpenSpec.ofChange fnIsASCIIOnlyIsPrintableASCIIBytesWrong)

/- THE SECOND FORM. 'bulk': how many values and letters a reading holds, each counted each time it is reached (what is shared counts as often as it is met; a slice's spare places count too). A statement '..UptoSaid' is the law's where the arguments, and the package variables that the reading takes, are together of bulk at most 1048576: NARROWER than '..Said'. Prove '..Said' where nothing that the law and all that it calls make is longer than what came in: it says more and counts as full. Else prove '..UptoSaid'. A law counts once. -/
mutual
def uptoBulk {H : Type} : DataW H → Nat
  | .lit (.string bytes) => bytes.length + 1
  | .lit _ => 1
  | .nil => 1
  | .ptr d => uptoBulk d + 1
  | .slice elems spare => uptoBulkAll elems + uptoBulkAll spare + 1
  | .agg parts => uptoBulkAll parts + 1
  | .iface _ d => uptoBulk d + 1
  | .map entries => uptoBulkEntries entries + 1
  | .held _ => 1
def uptoBulkAll {H : Type} : List (DataW H) → Nat
  | [] => 0
  | d :: r => uptoBulk d + uptoBulkAll r
def uptoBulkEntries {H : Type} : List (Lit × DataW H) → Nat
  | [] => 0
  | x :: r => uptoBulkEntry x + uptoBulkEntries r
def uptoBulkEntry {H : Type} : Lit × DataW H → Nat
  | (.string bytes, d) => bytes.length + uptoBulk d + 1
  | (_, d) => uptoBulk d + 1
 end
def uptoSmall : (H : Type) → List (DataW H) → Bool := fun _ ds => decide (uptoBulkAll ds ≤ 1048576)
def OpenSpec.upto (s : _root_.Go.ChangeSpec) : _root_.Go.OpenSpec := { _root_.Go.OpenSpec.ofChange s with cond := some uptoSmall }

/-- 'n011_312.FnSanitizeMatchesSplitJoinModel', WHERE WHAT IT READS IS OF BULK AT MOST 1048576: true; the input reads as it did. -/
def fnSanitizeMatchesSplitJoinModelUptoRow : OpenClaim := { program := "ytddjbbipmfcnaaa", sum := "7ebf1b894a66ae1cd6581bee3d0fce3bcc6fa2a04658b2e8bbbcbcbce8ac7219", func := "github.com/evanw/esbuild/n011_312.FnSanitizeMatchesSplitJoinModel", spec := "fnSanitizeMatchesSplitJoinModel", inPlace := ["internal/abi.NoEscape"], apart := false, narrowed := true }
def FnSanitizeMatchesSplitJoinModelUptoSaid : Prop := fnSanitizeMatchesSplitJoinModelUptoRow.holds Try.pinned (OpenSpec.upto fnSanitizeMatchesSplitJoinModelSpec)

/-- 'n011_312.FnSanitizeIdempotentAndClean', WHERE WHAT IT READS IS OF BULK AT MOST 1048576: true; the input reads as it did. -/
def fnSanitizeIdempotentAndCleanUptoRow : OpenClaim := { program := "ytddjbbipmfcnaaa", sum := "7ebf1b894a66ae1cd6581bee3d0fce3bcc6fa2a04658b2e8bbbcbcbce8ac7219", func := "github.com/evanw/esbuild/n011_312.FnSanitizeIdempotentAndClean", spec := "fnSanitizeIdempotentAndClean", inPlace := ["internal/abi.NoEscape"], apart := false, narrowed := true }
def FnSanitizeIdempotentAndCleanUptoSaid : Prop := fnSanitizeIdempotentAndCleanUptoRow.holds Try.pinned (OpenSpec.upto fnSanitizeIdempotentAndCleanSpec)

/-- 'n011_151.FnIsASCIIOnlyIsPrintableASCIIBytes', WHERE WHAT IT READS IS OF BULK AT MOST 1048576: true; the input reads as it did. -/
def fnIsASCIIOnlyIsPrintableASCIIBytesUptoRow : OpenClaim := { program := "ytddjbbipmfcnaaa", sum := "7ebf1b894a66ae1cd6581bee3d0fce3bcc6fa2a04658b2e8bbbcbcbce8ac7219", func := "github.com/evanw/esbuild/n011_151.FnIsASCIIOnlyIsPrintableASCIIBytes", spec := "fnIsASCIIOnlyIsPrintableASCIIBytes", apart := false, narrowed := true }
def FnIsASCIIOnlyIsPrintableASCIIBytesUptoSaid : Prop := fnIsASCIIOnlyIsPrintableASCIIBytesUptoRow.holds Try.pinned (OpenSpec.upto fnIsASCIIOnlyIsPrintableASCIIBytesSpec)

end Rows
end Go.Proofs.Ytddjbbipmfcnaaa
