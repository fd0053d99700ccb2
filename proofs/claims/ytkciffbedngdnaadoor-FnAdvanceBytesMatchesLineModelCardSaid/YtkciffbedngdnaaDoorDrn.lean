/- utf8.DecodeRune at this dump: the shelf's contract, its record filled. -/
import Derived.Test.YtkciffbedngdnaaDoorRows
import Derived.Test.YtkciffbedngdnaaDoorWords
import Derived.Shelf.Spec.DecodeRune
import Derived.WalkKit
namespace Go.Proofs.YtkciffbedngdnaaDoor
open Go.RowKit Go.Shelf
set_option linter.unusedVariables false
set_option linter.unusedSimpArgs false
def ren32 : Go.Shelf.Ren := ⟨fun | 32 => 8 | 49 => 10 | n => n, fun | 25 => 37 | 30 => 22 | 33 => 31 | 66 => 36 | 68 => 39 | 69 => 40 | n => n, fun | 2 => 0 | 3 => 1 | n => n⟩
theorem lays32 : Go.Proofs.Lays7.n32 Tryd.prog ren32 := {
  mixed := by kernel_rfl
  f32 := Tryd.func8.trans (congrArg some (by kernel_rfl))
  f49 := Tryd.func10.trans (congrArg some (by kernel_rfl))
  t0 := Tryd.underlying0
  a0 := Tryd.isAgg0
  z0 := Tryd.sizeOf0
  v0 := Tryd.zeroValue0
  i0 := by kernel_rfl
  t3 := Tryd.underlying3
  a3 := Tryd.isAgg3
  z3 := Tryd.sizeOf3
  v3 := Tryd.zeroValue3
  i3 := by kernel_rfl
  t4 := Tryd.underlying4
  a4 := Tryd.isAgg4
  z4 := Tryd.sizeOf4
  v4 := Tryd.zeroValue4
  i4 := by kernel_rfl
  t5 := Tryd.underlying5
  a5 := Tryd.isAgg5
  z5 := Tryd.sizeOf5
  v5 := Tryd.zeroValue5
  i5 := by kernel_rfl
  t21 := Tryd.underlying21
  a21 := Tryd.isAgg21
  z21 := Tryd.sizeOf21
  v21 := Tryd.zeroValue21
  i21 := by kernel_rfl
  t25 := Tryd.underlying37
  a25 := Tryd.isAgg37
  z25 := Tryd.sizeOf37
  v25 := Tryd.zeroValue37
  i25 := by kernel_rfl
  t30 := Tryd.underlying22
  a30 := Tryd.isAgg22
  z30 := Tryd.sizeOf22
  v30 := Tryd.zeroValue22
  i30 := by kernel_rfl
  t33 := Tryd.underlying31
  a33 := Tryd.isAgg31
  z33 := Tryd.sizeOf31
  v33 := Tryd.zeroValue31
  i33 := by kernel_rfl
  t66 := Tryd.underlying36
  a66 := Tryd.isAgg36
  z66 := Tryd.sizeOf36
  t68 := Tryd.underlying39
  a68 := Tryd.isAgg39
  z68 := Tryd.sizeOf39
  v68 := Tryd.zeroValue39
  i68 := by kernel_rfl
  t69 := Tryd.underlying40
  a69 := Tryd.isAgg40
  z69 := Tryd.sizeOf40
  v69 := Tryd.zeroValue40
  i69 := by kernel_rfl
  g2 := by kernel_rfl
  g3 := by kernel_rfl }
theorem decodeR (s : ByteArray) (b off cap : Nat) (w : World) (hT : Lib.Utf8Tabs 0 1 w) (hp : ∀ j, j < s.size → w.cell? ⟨b, off + j, none⟩ = some (.int .u8 (s.get! j).toNat)) :
    Calls Tryd.prog 8 #[.slice (some ⟨b, off, none⟩) s.size cap] w fun e w' => e = .returned (.tuple #[.int .i32 (Lib.decodeGo s).1, .int .i64 (Lib.decodeGo s).2]) ∧ Below w.heap.size w w' :=
  Any7.utf8_DecodeRune lays32 s b off cap w hT hp
end Go.Proofs.YtkciffbedngdnaaDoor
