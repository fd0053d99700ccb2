/- Find in a source map without mappings; appendMapping through such a map. -/
import Derived.Test.YtgdcpladehcegaaDoorUpd
import Derived.WalkKit
import Derived.WalkSpells
import Derived.LoopTactic
import Derived.WalkMore
import Derived.Deep.Light
import Derived.Deep.QuietTactic
import Derived.BigQuiet
import Derived.Deep.RegionWith
import Derived.Outline
import Derived.IntWalk
import Derived.ProofKit
namespace Go.Proofs.YtgdcpladehcegaaDoor
open Go.RowKit
set_option linter.unusedVariables false
set_option linter.unusedSimpArgs false
set_option maxHeartbeats 1000000 in
set_option maxRecDepth 100000 in
theorem find_nil (smb : Nat) (x y : Int) (w : World) (c2 : w.cell? ⟨smb, 2, none⟩ = some (.slice none 0 0)) : Calls Tryd.prog 30 #[.pointer (some ⟨smb, 0, none⟩), .int .i32 x, .int .i32 y] w fun e w' => e = .returned (.pointer none) ∧ w = w' := by
  go_enter Tryd.func30, Tryd.ntmps30
  go_wp2
  go_loop [8, 9] (fun c i => c = .int .i64 0 ∧ i = .int .i64 0) (fun _ _ => 0)
  case atStart => exact ⟨rfl, rfl⟩
  case round =>
    obtain ⟨rfl, rfl⟩ := hrel
    go_wp2
    go_ret
    exact ⟨rfl, rfl⟩
def AmPost (w : World) (e : Ending) (w' : World) : Prop := e = .returned (.tuple #[]) ∧ Below w.heap.size w w'
set_option maxHeartbeats 2000000 in
set_option maxRecDepth 100000 in
theorem am_any (g smb : Nat) (nm : ByteArray) (x0 x1 x2 x3 x4 x5 : Int) (b6 : Bool) (w : World) (hg : g < w.heap.size) (hs : smb < w.heap.size) (c0 : w.cell? ⟨g, 0, none⟩ = some (.pointer (some ⟨smb, 0, none⟩))) (c2 : w.cell? ⟨smb, 2, none⟩ = some (.slice none 0 0)) :
    Calls Tryd.prog 27 #[.pointer (some ⟨g, 0, none⟩), .string nm, .agg #[.int .i64 x0, .int .i64 x1, .int .i64 x2, .int .i64 x3, .int .i64 x4, .int .i64 x5, .bool b6]] w (AmPost w) := by
  go_enter Tryd.func27, Tryd.ntmps27
  go_wp2
  obtain ⟨W1, hW1⟩ : ∃ W, W = w.alloc (.cells #[.int .i64 x0, .int .i64 x1, .int .i64 x2, .int .i64 x3, .int .i64 x4, .int .i64 x5, .bool b6] 31) := ⟨_, rfl⟩
  rw [← hW1]
  have hc2 : W1.cell? ⟨smb, 2, none⟩ = some (.slice none 0 0) := by rw [hW1]; exact (World.cell?_alloc_lt w _ ⟨smb, 2, none⟩ hs).trans c2
  have hc0 : W1.cell? ⟨g, 0, none⟩ = some (.pointer (some ⟨smb, 0, none⟩)) := by rw [hW1]; exact (World.cell?_alloc_lt w _ ⟨g, 0, none⟩ hg).trans c0
  have hB : Blk W1 w.heap.size 31 #[.int .i64 x0, .int .i64 x1, .int .i64 x2, .int .i64 x3, .int .i64 x4, .int .i64 x5, .bool b6] := by rw [hW1]; exact Blk.new _ _ _
  have hc3 : W1.cell? ⟨w.heap.size, 3, none⟩ = some (.int .i64 x3) := hB.cell 3
  have hc4 : W1.cell? ⟨w.heap.size, 4, none⟩ = some (.int .i64 x4) := hB.cell 4
  have HBE : Hid (Below w.heap.size w W1) := Lib.hid (by rw [hW1]; exact (Below.refl _ _).alloc (Nat.le_refl _) _)
  have HF : Hid (∀ n x y, Calls Tryd.prog 30 #[.pointer (some ⟨smb, 0, none⟩), .int .i32 x, .int .i32 y] (W1.drewN n) fun e w' => e = .returned (.pointer none) ∧ w' = W1.drewN n) := Lib.hid (fun n x y => (find_nil smb x y (W1.drewN n) hc2).mono fun e w' h => ⟨h.1, h.2.symm⟩)
  clear hW1 hB c0 c2
  go_quiet ((go_at_call 30; exact Calls.quiet_of_same (HF.out _ _ _)))
  go_wp2
  go_end0
  exact ⟨rfl, below_drewN HBE.out _⟩
end Go.Proofs.YtgdcpladehcegaaDoor
