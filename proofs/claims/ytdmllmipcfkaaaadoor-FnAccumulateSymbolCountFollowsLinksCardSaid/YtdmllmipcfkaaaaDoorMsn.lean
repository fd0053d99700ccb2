/- SlotNamespace, GetIndex, IsValid. -/
import Derived.Test.YtdmllmipcfkaaaaDoorMin
namespace Go.Proofs.YtdmllmipcfkaaaaDoor
open Go.RowKit
set_option linter.unusedVariables false
set_option linter.unusedSimpArgs false
/-- The namespace of a kind that is not pinned. -/
def nsU (kd : Int) : Int := if kd = 18 then 1 else 0
set_option maxHeartbeats 1000000 in
set_option maxRecDepth 100000 in
theorem slotns_pin (g m : Nat) (kd fl f1 : Int) (hk : kd = 0 ∨ ((kd = 27 ∨ kd = 18) ∧ f1 ≠ 0)) (hf : bits .and .u16 fl 1 = f1) (w : World) (c7 : w.cell? ⟨g, m * 10 + 7, none⟩ = some (.int .u16 fl)) (c8 : w.cell? ⟨g, m * 10 + 8, none⟩ = some (.int .u8 kd)) :
    Calls Tryd.prog 20 #[.pointer (some ⟨g, m * 10, none⟩)] w (KPost (.int .u8 4) w) := by
  rcases hk with rfl | ⟨rfl | rfl, h1⟩
  · go_enter Tryd.func20, Tryd.ntmps20
    go_wp2
    go_ret
    exact ⟨rfl, by first | exact World.grownBy.refl _ _ | exact only_alloc (World.grownBy.refl _ _) _⟩
  all_goals
    have t1 : (f1 != 0) = true := by rw [bne_iff_ne]; exact h1
    go_enter Tryd.func20, Tryd.ntmps20
    go_wp2
    go_ret
    exact ⟨rfl, by first | exact World.grownBy.refl _ _ | exact only_alloc (World.grownBy.refl _ _) _⟩
set_option maxHeartbeats 1000000 in
set_option maxRecDepth 100000 in
theorem slotns_not (g m : Nat) (kd fl : Int) (hk : kd = 27 ∨ kd = 18) (hf : bits .and .u16 fl 1 = 0) (w : World) (c7 : w.cell? ⟨g, m * 10 + 7, none⟩ = some (.int .u16 fl)) (c8 : w.cell? ⟨g, m * 10 + 8, none⟩ = some (.int .u8 kd)) :
    Calls Tryd.prog 20 #[.pointer (some ⟨g, m * 10, none⟩)] w (KPost (.int .u8 (nsU kd)) w) := by
  rcases hk with rfl | rfl
  all_goals
    go_enter Tryd.func20, Tryd.ntmps20
    go_wp2
    go_ret
    exact ⟨rfl, by first | exact World.grownBy.refl _ _ | exact only_alloc (World.grownBy.refl _ _) _⟩
set_option maxHeartbeats 1000000 in
set_option maxRecDepth 100000 in
theorem getIdx (v : Int) (h0 : 0 ≤ v) (h1 : v ≤ 4294967295) (w : World) : Calls Tryd.prog 22 #[.agg #[.int .u32 v]] w (KPost (.int .u32 (4294967295 - v)) w) := by
  have hsg : IntKind.u32.signed = false := rfl
  have hx := u32_not v h0 h1
  go_enter Tryd.func22, Tryd.ntmps22
  go_wp2
  go_ret
  exact ⟨rfl, by first | exact World.grownBy.refl _ _ | exact only_alloc (World.grownBy.refl _ _) _⟩
set_option maxRecDepth 100000 in
theorem isv_any (v : Int) (b : Bool) (hb : (v != 0) = b) (w : World) : Calls Tryd.prog 21 #[.agg #[.int .u32 v]] w (KPost (.bool b) w) := by
  have HB := Lib.hid hb
  clear hb
  go_enter Tryd.func21, Tryd.ntmps21
  go_wp2
  go_ret
  exact ⟨ret_bool HB.out, by first | exact World.grownBy.refl _ _ | exact only_alloc (World.grownBy.refl _ _) _⟩
end Go.Proofs.YtdmllmipcfkaaaaDoor
