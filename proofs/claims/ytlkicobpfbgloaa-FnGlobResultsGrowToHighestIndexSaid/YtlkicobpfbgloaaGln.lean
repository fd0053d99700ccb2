/- n011_254: MakeCacheSet, the fresh scanner. -/
import Derived.Test.YtlkicobpfbgloaaGla
import Derived.Carry
namespace Go.Proofs.Ytlkicobpfbgloaa
open Go.RowKit Go.MuLone Go.Maps Go.WideMaps
set_option linter.unusedVariables false
set_option linter.unusedSimpArgs false

def McPost (w : World) (e : Ending) (w' : World) : Prop :=
  ∃ cb mb, e = .returned (.pointer (some ⟨cb, 0, none⟩)) ∧ CS w' cb mb 0 ((0 + 1 : Nat) : Int) ∧ MapIs w' mb 0 (.map []) ∧ w.heap.size ≤ cb ∧ w.heap.size ≤ mb ∧ w.grownBy w' none
set_option maxHeartbeats 4000000 in
set_option maxRecDepth 100000 in
theorem mc_any (w : World) : Calls Try.prog 10 #[] w (McPost w) := by
  have hmm := @run_makeMap Try.prog
  go_enter Try.func10, Try.ntmps10
  go_wp2
  go_ret
  refine ⟨w.heap.size + 1 + 1 + 1 + 1 + 1 + 1, w.heap.size, rfl, ⟨#[.map (some (w.heap.size + 1 + 1)), .int .i32 0, .int .u32 0, .map (some (w.heap.size + 1 + 1 + 1)), .int .i32 0, .int .u32 0, .map (some (w.heap.size + 1 + 1 + 1 + 1)), .int .i32 0, .int .u32 0, .map (some (w.heap.size + 1 + 1 + 1 + 1 + 1)), .int .i32 0, .int .u32 0, .map (some w.heap.size), .map (some (w.heap.size + 1)), .int .i32 0, .int .u32 0, .int .u32 1], ?_, rfl, rfl, rfl, rfl⟩, ?_, by omega, by omega, ?_⟩
  · have h := Blk.new ((((((w.alloc (Obj.map #[] 0)).alloc (Obj.map #[] 0)).alloc (Obj.map #[] 0)).alloc (Obj.map #[] 0)).alloc (Obj.map #[] 0)).alloc (Obj.map #[] 0)) 130 #[.map (some (w.heap.size + 1 + 1)), .int .i32 0, .int .u32 0, .map (some (w.heap.size + 1 + 1 + 1)), .int .i32 0, .int .u32 0, .map (some (w.heap.size + 1 + 1 + 1 + 1)), .int .i32 0, .int .u32 0, .map (some (w.heap.size + 1 + 1 + 1 + 1 + 1)), .int .i32 0, .int .u32 0, .map (some w.heap.size), .map (some (w.heap.size + 1)), .int .i32 0, .int .u32 0, .int .u32 1]
    simpa using h
  · exact ((((((World.ownsMap_made w _ _ _).alloc _).alloc _).alloc _).alloc _).alloc _).alloc _
  · exact only_alloc (only_alloc (only_alloc (only_alloc (only_alloc (only_alloc (only_alloc (World.grownBy.refl _ _) _) _) _) _) _) _) _
theorem GS.grown {w w' : World} {B sb cb mb sz c n : Nat} {D : DataW Unit} {v : Value} {len cap : Nat} (h : GS w B sb cb mb sz c n D v len cap) (hg : w.grownBy w' none) : GS w' B sb cb mb sz c n D v len cap := by
  refine ⟨h.ss.grown hg (by simp), h.cs.grown hg (by simp), h.mp.kept hg (by simp), h.inc, ?_, h.lo⟩
  rcases h.rb with h | ⟨g, cur, k1, k2, k3, k4⟩
  · exact .inl h
  · exact .inr ⟨g, cur, k1, k2, k3.grown hg (by simp), k4⟩
def NgPost (w : World) (e : Ending) (w' : World) : Prop :=
  ∃ sb cb mb, e = .returned (.pointer (some ⟨sb, 0, none⟩)) ∧ Below w.heap.size w w' ∧ ∀ sz, GS w' w.heap.size sb cb mb sz 0 0 (.map []) (.slice none 0 0) 0 0
set_option maxHeartbeats 8000000 in
set_option maxRecDepth 100000 in
theorem ng_any (w : World) : Calls Try.prog 7 #[] w (NgPost w) := by
  go_enter Try.func7, Try.ntmps7
  go_wp2_with (go_at_call 10; refine (mc_any _).mono ?_)
  rintro e w1 ⟨cb, mb, rfl, hcs, hmp, hcb, hmb, hgr⟩
  have HCS := Lib.hid hcs; have HMP := Lib.hid hmp; have HGR := Lib.hid hgr
  clear hcs hmp hgr
  go_wp2
  go_ret
  have h1 : Try.zeroCells105[11]? = some (.slice none 0 0) := by kernel_rfl
  have h2 : decide (12 ≤ Try.zeroCells105.size) = true := by kernel_rfl
  have h2' := of_decide_eq_true h2
  have hb := Blk.new w1 105 (Try.zeroCells105.setIfInBounds 8 (.pointer (some ⟨cb, 0, none⟩)))
  refine ⟨w1.heap.size, cb, mb, rfl, ((Below.refl _ w).grown HGR.out (Nat.le_refl _) (fun k hk => by cases hk)).alloc HGR.out.size _, fun sz => ⟨⟨_, hb, by simp, ?_, ?_⟩, HCS.out.grown (row := none) (only_alloc (World.grownBy.refl _ _) _) (by simp), HMP.out.alloc _, inC_nil, .inl ⟨rfl, rfl, rfl⟩, HGR.out.size, hcb, hmb⟩⟩
  · rw [Array.getElem?_setIfInBounds_self_of_lt (by omega)]
  · rw [Array.getElem?_setIfInBounds_ne (by omega)]; exact h1
end Go.Proofs.Ytlkicobpfbgloaa
