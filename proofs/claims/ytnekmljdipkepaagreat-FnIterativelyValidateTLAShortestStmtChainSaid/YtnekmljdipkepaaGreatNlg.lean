/- logger.NewDeferLog, by what it hands back alone. -/
import Derived.Test.YtnekmljdipkepaaGreatRows
import Derived.Test.YtnekmljdipkepaaGreatWords
import Derived.WalkKit
import Derived.WalkSpells
import Derived.LoopTactic
import Derived.Outline
import Derived.OneCell
import Derived.Laws.EntriesVeiled
namespace Go.Proofs.YtnekmljdipkepaaGreat
open Go.RowKit
set_option linter.unusedVariables false
set_option linter.unusedSimpArgs false
def logC (s : Nat) : Array Value := #[.func (.func 19) #[] #[.pointer (some ⟨s, 0, none⟩), .pointer (some ⟨s + 3, 0, none⟩), .pointer (some ⟨s + 4, 0, none⟩), .pointer (some ⟨s + 2, 0, none⟩)], .func (.func 22) #[] #[.pointer (some ⟨s + 3, 0, none⟩), .pointer (some ⟨s + 4, 0, none⟩)], .func (.func 23) #[] #[.pointer (some ⟨s + 3, 0, none⟩), .pointer (some ⟨s + 2, 0, none⟩)], .func (.func 24) #[] #[.pointer (some ⟨s + 3, 0, none⟩), .pointer (some ⟨s + 2, 0, none⟩)], .int .i8 3, .map none]
theorem log_size : (Tryz.prog.info? 135).map (·.size) = some 6 := by kernel_rfl
def NewPost (w : World) (e : Ending) (w' : World) : Prop := e = .returned (.agg (logC w.heap.size)) ∧ w.grownBy w' none
set_option maxHeartbeats 1000000 in
set_option maxRecDepth 100000 in
theorem new_any (w : World) : Calls Tryz.prog 15 #[.int .u8 0, .map none] w (NewPost w) := by
  have hmf : ∀ (fn : Fn) (first cap : Array Value) (w : World), (Instr.makeFunc fn first cap).run Tryz.prog w = .ok (.func fn first cap) w := fun _ _ _ _ => rfl
  have HB1 : Hid (∀ o2 o3 o4 : Obj, Blk ((((((w.alloc (.cells #[.int .u8 0] 137)).alloc (.cells (logC w.heap.size) 135)).alloc o2).alloc o3).alloc o4)) (w.heap.size + 1) 135 (logC w.heap.size)) := Lib.hid (fun o2 o3 o4 => by
    have := Blk.new (w.alloc (.cells #[.int .u8 0] 137)) 135 (logC w.heap.size)
    have h2 := ((this.alloc o2).alloc o3).alloc o4
    simpa using h2)
  obtain ⟨X, hX⟩ : ∃ X, X = ((((w.alloc (.cells #[.int .u8 0] 137)).alloc (.cells (logC w.heap.size) 135)).alloc (.cells #[.slice none 0 0] 190)).alloc (.cells #[.int .i32 0, .int .u32 0] 196)).alloc (.cells #[.bool false] 4) := ⟨_, rfl⟩
  have HB : Hid (w.grownBy X none) := Lib.hid (by rw [hX]; exact only_alloc (only_alloc (only_alloc (only_alloc (only_alloc (World.grownBy.refl _ _) _) _) _) _) _)
  rw [hX] at HB
  clear hX
  go_enter Tryz.func15, Tryz.ntmps15
  go_wp2
  refine bodyPost_ret (results_cell_row rfl _ _ (w.heap.size + 1) _ (logC w.heap.size) (0, 0) _ rfl (HB1.out _ _ _) Tryz.underlying135 rfl log_size) rfl ?_
  exact ⟨rfl, HB.out⟩
end Go.Proofs.YtnekmljdipkepaaGreat
