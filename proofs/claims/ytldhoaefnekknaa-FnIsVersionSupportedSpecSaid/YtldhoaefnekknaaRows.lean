/-
  No cell of these rows narrows 'for every input' (looked for: loops, veiled, ifaces, maps, wideKeys, modest, calm, conditions, laid).
  DERIVED. THE GIVEN ROWS OF THIS SEAT. 2 by the template 'for every input the law returns true; each argument reads behind the call as it read before'; 0 by the template 'total and deterministic' (their statements: YtldhoaefnekknaaTotals.lean).
  GIVEN WITH THE SEED: the statements are not yours to turn. If you find one false, say at which input.
  Laid BY PROGRAM, IN A SANDBOX (cutbox-rows.mjs): the forced cells as the released guide's own fill.sh prints them over the translation 23701c175cf9f006… (all of the seat's roots in one cut). By AI agents, Wed Nov 11 2026. No macro, syntax, notation, axiom, sorry.
-/
import Derived.Test.YtldhoaefnekknaaChecked
import GoSem.Claim
import GoSem.ClaimJoined
import GoSem.ClaimMapViews
import Derived.JoinedTies
import Derived.KernelRfl
namespace Go.Proofs.Ytldhoaefnekknaa
/- THE CELL 'sum', in the pinned program and in every row, IS THE sha256 OF THE DUMP (.gsa) THAT YtldhoaefnekknaaProg.lean LOADS. Nothing in Lean hashes anything: it is a label: what it is worth is what the hold of that sum in a sandbox is worth. -/
noncomputable def Try.pinned : Pinned := { name := "ytldhoaefnekknaa", sum := "23701c175cf9f00661d8f5a1be707e67718a1630f6ea0953b2a5acba64e40845", checked := Try.checked }
namespace Rows
def none {H : Type} : Left H := { results := [], args := [] }

/-- 'n011_156.FnIsVersionSupportedUnion': WHATEVER THE INPUT: true; the input reads as it did. -/
def fnIsVersionSupportedUnionSpec : ChangeSpec := { name := "fnIsVersionSupportedUnion", fn := fun _ => fun
  | [d1, d2, d3, d4] => { results := [.lit (.bool true)], args := [d1, d2, d3, d4] }
  | _ => none }
def fnIsVersionSupportedUnionRow : OpenClaim := { program := "ytldhoaefnekknaa", sum := "23701c175cf9f00661d8f5a1be707e67718a1630f6ea0953b2a5acba64e40845", func := "github.com/evanw/esbuild/n011_156.FnIsVersionSupportedUnion", spec := "fnIsVersionSupportedUnion", apart := false }
def FnIsVersionSupportedUnionSaid : Prop := fnIsVersionSupportedUnionRow.holds Try.pinned (OpenSpec.ofChange fnIsVersionSupportedUnionSpec)

/-- ITS FALSE NEIGHBOUR: 'it returns false'. Refute it at one input. -/
def fnIsVersionSupportedUnionWrong : ChangeSpec := { name := "fnIsVersionSupportedUnion", fn := fun _ => fun
  | [d1, d2, d3, d4] => { results := [.lit (.bool false)], args := [d1, d2, d3, d4] }
  | _ => none }
def FnIsVersionSupportedUnionWrongFalsely : Prop := fnIsVersionSupportedUnionRow.holds Try.pinned (OpenSpec.ofChange fnIsVersionSupportedUnionWrong)

/-- 'n011_156.FnIsVersionSupportedSpec': WHATEVER THE INPUT: true; the input reads as it did. -/
def fnIsVersionSupportedSpecSpec : ChangeSpec := { name := "fnIsVersionSupportedSpec", fn := fun _ => fun
  | [d1, d2, d3] => { results := [.lit (.bool true)], args := [d1, d2, d3] }
  | _ => none }
def fnIsVersionSupportedSpecRow : OpenClaim := { program := "ytldhoaefnekknaa", sum := "23701c175cf9f00661d8f5a1be707e67718a1630f6ea0953b2a5acba64e40845", func := "github.com/evanw/esbuild/n011_156.FnIsVersionSupportedSpec", spec := "fnIsVersionSupportedSpec", apart := false }
def FnIsVersionSupportedSpecSaid : Prop := fnIsVersionSupportedSpecRow.holds Try.pinned (OpenSpec.ofChange fnIsVersionSupportedSpecSpec)

/-- ITS FALSE NEIGHBOUR: 'it returns false'. Refute it at one input. -/
def fnIsVersionSupportedSpecWrong : ChangeSpec := { name := "fnIsVersionSupportedSpec", fn := fun _ => fun
  | [d1, d2, d3] => { results := [.lit (.bool false)], args := [d1, d2, d3] }
  | _ => none }
def FnIsVersionSupportedSpecWrongFalsely : Prop := fnIsVersionSupportedSpecRow.holds Try.pinned (OpenSpec.ofChange fnIsVersionSupportedSpecWrong)

/- THE SECOND FORM. 'bulk': how many values and letters a reading holds, each counted each time it is reached (what is shared counts as often as it is met; a slice's spare places count too). A statement '..UptoSaid' is the law's where the arguments, and the package variables that the reading takes, are together of bulk at most 1048576: NARROWER than '..Said'. Prove '..Said' where nothing that the law and all that it calls make is longer than what came in: it says more and counts as full. Else prove '..UptoSaid'. A law counts once. -/
mutual
def uptoBulk {H : Type} : DataW H → Nat
  | .lit (.string bytes) => bytes.length + 1
  | .lit _ => 1
  | .nil => 1
  | .ptr d => uptoBulk d + 1
  | .slice elems spare => uptoBulkAll elems + uptoBulkAll spare + 1
  | .agg parts => uptoBulkAll parts + 1
  | .iface _ d => uptoBulk d + 1
  | .map entries => uptoBulkEntries entries + 1
  | .held _ => 1
def uptoBulkAll {H : Type} : List (DataW H) → Nat
  | [] => 0
  | d :: r => uptoBulk d + uptoBulkAll r
def uptoBulkEntries {H : Type} : List (Lit × DataW H) → Nat
  | [] => 0
  | x :: r => uptoBulkEntry x + uptoBulkEntries r
def uptoBulkEntry {H : Type} : Lit × DataW H → Nat
  | (.string bytes, d) => bytes.length + uptoBulk d + 1
  | (_, d) => uptoBulk d + 1
 end
def uptoSmall : (H : Type) → List (DataW H) → Bool := fun _ ds => decide (uptoBulkAll ds ≤ 1048576)
def OpenSpec.upto (s : _root_.Go.ChangeSpec) : _root_.Go.OpenSpec := { _root_.Go.OpenSpec.ofChange s with cond := some uptoSmall }

/-- 'n011_156.FnIsVersionSupportedUnion', WHERE WHAT IT READS IS OF BULK AT MOST 1048576: true; the input reads as it did. -/
def fnIsVersionSupportedUnionUptoRow : OpenClaim := { program := "ytldhoaefnekknaa", sum := "23701c175cf9f00661d8f5a1be707e67718a1630f6ea0953b2a5acba64e40845", func := "github.com/evanw/esbuild/n011_156.FnIsVersionSupportedUnion", spec := "fnIsVersionSupportedUnion", apart := false, narrowed := true }
def FnIsVersionSupportedUnionUptoSaid : Prop := fnIsVersionSupportedUnionUptoRow.holds Try.pinned (OpenSpec.upto fnIsVersionSupportedUnionSpec)

/-- 'n011_156.FnIsVersionSupportedSpec', WHERE WHAT IT READS IS OF BULK AT MOST 1048576: true; the input reads as it did. -/
def fnIsVersionSupportedSpecUptoRow : OpenClaim := { program := "ytldhoaefnekknaa", sum := "23701c175cf9f00661d8f5a1be707e67718a1630f6ea0953b2a5acba64e40845", func := "github.com/evanw/esbuild/n011_156.FnIsVersionSupportedSpec", spec := "fnIsVersionSupportedSpec", apart := false, narrowed := true }
def FnIsVersionSupportedSpecUptoSaid : Prop := fnIsVersionSupportedSpecUptoRow.holds Try.pinned (OpenSpec.upto fnIsVersionSupportedSpecSpec)

end Rows
end Go.Proofs.Ytldhoaefnekknaa
