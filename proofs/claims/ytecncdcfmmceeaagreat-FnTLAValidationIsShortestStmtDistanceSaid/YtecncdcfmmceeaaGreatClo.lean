/- The contract of the law's own copy of a slice of integers (function 6). -/
import Derived.Test.YtecncdcfmmceeaaGreatRows
import Derived.Test.YtecncdcfmmceeaaGreatWords
import Derived.WalkKit
import Derived.WalkSpells
import Derived.LoopTactic
import Derived.Laws.MakeOwn
import Derived.Outline
namespace Go.Proofs.YtecncdcfmmceeaaGreat
open Go.RowKit
set_option linter.unusedVariables false
set_option linter.unusedSimpArgs false

theorem cloneO_info : (Tryz.prog.info? 4).map (fun i => (i.zero, i.size, i.bytes)) = some (some (.bool false), 1, 1) := by kernel_rfl
theorem cloneO_made (n : Nat) : (madeCells #[Value.bool false] n).size = n := by simp [madeCells]
/-- What the copy hands back: nil for nil, else a block of its own with just the elements. -/
def cloneOPost (w : World) (A : Option Addr) (n : Nat) (xs : List Value) (e : Ending) (w' : World) : Prop :=
  (A = none ∧ e = .returned (.slice none 0 0) ∧ w = w') ∨
  ∃ g, A ≠ none ∧ e = .returned (.slice (some ⟨g, 0, none⟩) n n) ∧ w.heap.size ≤ g ∧ Blk w' g 4 xs.toArray ∧ Below w.heap.size w w'
set_option maxHeartbeats 1000000 in
set_option maxRecDepth 100000 in
theorem cloneO (A : Option Addr) (n cap : Nat) (zs : List Bool) (w : World) (hr : Reads w w.heap.size 1 A n (zs.map (Value.bool))) (hn : n ≤ 16777216) :
    Calls Tryz.prog 6 #[.slice A n cap] w (cloneOPost w A n (zs.map (Value.bool))) := by
  have heq : ∀ (W : World) (a : Option Addr) (l c : Nat), (binOp .eql 22 (.slice a l c) (.slice none 0 0)).run Tryz.prog W = .ok (.bool a.isNone) W := fun W a l c => Lib.run_eql_slice_nil W 22 4 a l c 0 0 Tryz.underlying22
  cases A with
  | none =>
    go_enter Tryz.func6, Tryz.ntmps6
    go_wp2
    go_ret
    exact .inl ⟨rfl, rfl, rfl⟩
  | some ad =>
    obtain ⟨i0, hi, hz0, hz1, hz2⟩ := info_parts cloneO_info
    have hlen : zs.length = n := by have := hr.1; simpa using this
    have hmk : ∀ W : World, (Instr.makeSlice 22 (.int .i64 (n : Int)) (.int .i64 (n : Int))).run Tryz.prog W = .ok (.slice (some ⟨W.heap.size, 0, none⟩) n n) (W.alloc (.cells (madeCells #[.bool false] n) 4)) := fun W => by
      have := run_make (P := Tryz.prog) W 22 4 i0 (.bool false) Tryz.underlying22 hi hz0 .i64 .i64 n n (by omega) (by omega) (by rw [hz2]; omega) (by omega)
      simpa [hz1, Value.cells] using this
    have HM0 := Lib.hid (Blk.new w 4 (madeCells #[Value.bool false] n))
    have HMS := Lib.hid (cloneO_made n)
    have HR := Lib.hid hr; have HLEN := Lib.hid hlen
    clear hr hlen
    go_enter Tryz.func6, Tryz.ntmps6
    go_wp2
    clear hmk heq
    go_loopw [4] (fun i wr => ∃ (k : Nat) (cs : Array Value), i = .int .i64 k ∧ k ≤ n ∧ Blk wr w.heap.size 4 cs ∧ cs.size = n ∧ (∀ j, j < k → cs[j]? = some (.bool (zs.getD j false))) ∧ Below w.heap.size w wr) (fun i _ => n - (intOf i).toNat)
    case atStart => exact ⟨0, _, rfl, by omega, HM0.out, HMS.out, fun j hj => by omega, (Below.refl _ _).alloc (Nat.le_refl _) _⟩
    case round =>
      obtain ⟨k, cs, rfl, hk, hb, hcs, hj, hbw⟩ := hrel
      have HB := Lib.hid hb; have HCS := Lib.hid hcs; have HJ := Lib.hid hj
      have hlt0 := hb.lt
      clear hb hcs hj
      by_cases hlt : k < n
      · obtain ⟨ad', u, e1, hbk, hx, hc⟩ := (HR.out.below hbw).at_ hlt
        obtain rfl := Option.some.inj e1
        have hu : u = .bool (zs.getD k false) := by
          rw [List.getElem?_map, List.getElem?_eq_getElem (by have := HLEN.out; omega)] at hx
          rw [List.getD_eq_getElem?_getD, List.getElem?_eq_getElem (by have := HLEN.out; omega)]
          exact (Option.some.inj hx).symm
        subst hu
        obtain ⟨b, off, spot⟩ := ad
        have hspot : spot = none := by
          obtain ⟨ad2, u2, e2, _, _, hc2⟩ := (HR.out.below hbw).at_ (show 0 < n by omega)
          obtain rfl := Option.some.inj e2
          exact World.cell?_spot (show wr.cell? ⟨b, off, spot⟩ = some u2 from hc2)
        subst hspot
        have hc1 : wr.cell? ⟨b, off + k, none⟩ = some (.bool (zs.getD k false)) := by
          rw [← hc]; unfold Addr.add; split
          · rename_i h0; subst h0; rfl
          · rfl
        have c0 : wr.cell? ⟨w.heap.size, k, none⟩ = some (cs[k]'(by have := HCS.out; omega)) := by
          rw [HB.out.cell k, Array.getElem?_eq_getElem]
        have z0 : wr.frozen? ⟨w.heap.size, k, none⟩ = false := HB.out.frozen k
        generalize (cs[k]'(by have := HCS.out; omega)) = v at c0
        generalize hzk : zs.getD k false = z at hc1
        have HZK := Lib.hid hzk
        clear hx hc hzk e1
        go_wp2
        go_roundw
        case rel =>
          refine ⟨k + 1, cs.setIfInBounds k (.bool z), by go_num, by omega, HB.out.set_ k _, by rw [Array.size_setIfInBounds]; exact HCS.out, fun j hj => ?_, hbw.setCell (p := ⟨w.heap.size, k, none⟩) (Nat.le_refl _) _⟩
          rw [Array.getElem?_setIfInBounds]
          by_cases e : k = j
          · subst e
            rw [if_pos rfl, if_pos (by have := HCS.out; omega), HZK.out]
          · rw [if_neg e]; exact HJ.out j (by omega)
        case measure => simp [intOf]; omega
      · obtain rfl : k = n := by omega
        go_wp2
        go_ret
        refine .inr ⟨w.heap.size, by simp, rfl, Nat.le_refl _, ?_, hbw⟩
        have : cs = (zs.map (Value.bool)).toArray := by
          apply Array.ext_getElem?
          intro j
          by_cases hj : j < k
          · rw [HJ.out j hj]
            simp [List.getElem?_eq_getElem (show j < zs.length by have := HLEN.out; omega)]
          · rw [Array.getElem?_eq_none (by have := HCS.out; omega), Array.getElem?_eq_none (by simp; have := HLEN.out; omega)]
        rw [← this]
        exact HB.out
end Go.Proofs.YtecncdcfmmceeaaGreat
