/- logger.NewDeferLog, by what it hands back alone. -/
import Derived.Test.YtecncdcfmmceeaaGreatRows
import Derived.Test.YtecncdcfmmceeaaGreatWords
import Derived.WalkKit
import Derived.WalkSpells
import Derived.LoopTactic
import Derived.Outline
import Derived.OneCell
import Derived.Laws.EntriesVeiled
namespace Go.Proofs.YtecncdcfmmceeaaGreat
open Go.RowKit
set_option linter.unusedVariables false
set_option linter.unusedSimpArgs false
def logC (s : Nat) : Array Value := #[.func (.func 25) #[] #[.pointer (some ⟨s, 0, none⟩), .pointer (some ⟨s + 3, 0, none⟩), .pointer (some ⟨s + 4, 0, none⟩), .pointer (some ⟨s + 2, 0, none⟩)], .func (.func 28) #[] #[.pointer (some ⟨s + 3, 0, none⟩), .pointer (some ⟨s + 4, 0, none⟩)], .func (.func 29) #[] #[.pointer (some ⟨s + 3, 0, none⟩), .pointer (some ⟨s + 2, 0, none⟩)], .func (.func 30) #[] #[.pointer (some ⟨s + 3, 0, none⟩), .pointer (some ⟨s + 2, 0, none⟩)], .int .i8 3, .map none]
theorem log_size : (Tryz.prog.info? 94).map (·.size) = some 6 := by kernel_rfl
def NewPost (w : World) (e : Ending) (w' : World) : Prop := e = .returned (.agg (logC w.heap.size)) ∧ w.grownBy w' none
set_option maxHeartbeats 1000000 in
set_option maxRecDepth 100000 in
theorem new_any (w : World) : Calls Tryz.prog 23 #[.int .u8 0, .map none] w (NewPost w) := by
  have hmf : ∀ (fn : Fn) (first cap : Array Value) (w : World), (Instr.makeFunc fn first cap).run Tryz.prog w = .ok (.func fn first cap) w := fun _ _ _ _ => rfl
  have HB1 : Hid (∀ o2 o3 o4 : Obj, Blk ((((((w.alloc (.cells #[.int .u8 0] 156)).alloc (.cells (logC w.heap.size) 94)).alloc o2).alloc o3).alloc o4)) (w.heap.size + 1) 94 (logC w.heap.size)) := Lib.hid (fun o2 o3 o4 => by
    have := Blk.new (w.alloc (.cells #[.int .u8 0] 156)) 94 (logC w.heap.size)
    have h2 := ((this.alloc o2).alloc o3).alloc o4
    simpa using h2)
  obtain ⟨X, hX⟩ : ∃ X, X = ((((w.alloc (.cells #[.int .u8 0] 156)).alloc (.cells (logC w.heap.size) 94)).alloc (.cells #[.slice none 0 0] 195)).alloc (.cells #[.int .i32 0, .int .u32 0] 201)).alloc (.cells #[.bool false] 4) := ⟨_, rfl⟩
  have HB : Hid (w.grownBy X none) := Lib.hid (by rw [hX]; exact only_alloc (only_alloc (only_alloc (only_alloc (only_alloc (World.grownBy.refl _ _) _) _) _) _) _)
  rw [hX] at HB
  clear hX
  go_enter Tryz.func23, Tryz.ntmps23
  go_wp2
  refine bodyPost_ret (results_cell_row rfl _ _ (w.heap.size + 1) _ (logC w.heap.size) (0, 0) _ rfl (HB1.out _ _ _) Tryz.underlying94 rfl log_size) rfl ?_
  exact ⟨rfl, HB.out⟩
end Go.Proofs.YtecncdcfmmceeaaGreat
