/- SlotNamespace, GetIndex, IsValid. -/
import Derived.Test.YtlpmkbdglpnjhaaMin
namespace Go.Proofs.Ytlpmkbdglpnjhaa
open Go.RowKit
set_option linter.unusedVariables false
set_option linter.unusedSimpArgs false
/-- The namespace of a kind that is not pinned. -/
def nsU (kd : Int) : Int := if kd = 18 then 1 else 0
set_option maxHeartbeats 1000000 in
set_option maxRecDepth 100000 in
theorem slotns_pin (g m : Nat) (kd fl f1 : Int) (hk : kd = 0 ∨ ((kd = 27 ∨ kd = 18) ∧ f1 ≠ 0)) (hf : bits .and .u16 fl 1 = f1) (w : World) (c7 : w.cell? ⟨g, m * 10 + 7, none⟩ = some (.int .u16 fl)) (c8 : w.cell? ⟨g, m * 10 + 8, none⟩ = some (.int .u8 kd)) :
    Calls Try.prog 25 #[.pointer (some ⟨g, m * 10, none⟩)] w (KPost (.int .u8 4) w) := by
  rcases hk with rfl | ⟨rfl | rfl, h1⟩
  · go_enter Try.func25, Try.ntmps25
    go_wp2
    go_ret
    exact ⟨rfl, by first | exact World.grownBy.refl _ _ | exact only_alloc (World.grownBy.refl _ _) _⟩
  all_goals
    have t1 : (f1 != 0) = true := by rw [bne_iff_ne]; exact h1
    go_enter Try.func25, Try.ntmps25
    go_wp2
    go_ret
    exact ⟨rfl, by first | exact World.grownBy.refl _ _ | exact only_alloc (World.grownBy.refl _ _) _⟩
set_option maxHeartbeats 1000000 in
set_option maxRecDepth 100000 in
theorem slotns_not (g m : Nat) (kd fl : Int) (hk : kd = 27 ∨ kd = 18) (hf : bits .and .u16 fl 1 = 0) (w : World) (c7 : w.cell? ⟨g, m * 10 + 7, none⟩ = some (.int .u16 fl)) (c8 : w.cell? ⟨g, m * 10 + 8, none⟩ = some (.int .u8 kd)) :
    Calls Try.prog 25 #[.pointer (some ⟨g, m * 10, none⟩)] w (KPost (.int .u8 (nsU kd)) w) := by
  rcases hk with rfl | rfl
  all_goals
    go_enter Try.func25, Try.ntmps25
    go_wp2
    go_ret
    exact ⟨rfl, by first | exact World.grownBy.refl _ _ | exact only_alloc (World.grownBy.refl _ _) _⟩
end Go.Proofs.Ytlpmkbdglpnjhaa
