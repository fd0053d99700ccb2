/- zzOnlyLineBreaks of a chunk of line breaks alone. -/
import Derived.Test.YtgdcpladehcegaaDoorGch
import Derived.Test.YtgdcpladehcegaaDoorZln
import Derived.WalkKit
import Derived.WalkSpells
import Derived.LoopTactic
import Derived.WalkMore
import Derived.Deep.Light
import Derived.Outline
import Derived.IntWalk
import Derived.ProofKit
import Derived.BigCall
namespace Go.Proofs.YtgdcpladehcegaaDoor
open Go.RowKit
set_option linter.unusedVariables false
set_option linter.unusedSimpArgs false
def OlbPost (w : World) (e : Ending) (w' : World) : Prop := e = .returned (.bool true) ∧ Below w.heap.size w w'
set_option maxHeartbeats 4000000 in
set_option maxRecDepth 100000 in
theorem olb_any (s : ByteArray) (B : Nat) (A : Option Addr) (c : Nat) (w : World) (hs : s.size ≤ 1048576) (hown : w.ownsRow B 5 1 (.slice A (lcEnd s).1 c) (lcEnd s).1 (semis (lcEnd s).1)) :
    Calls Tryd.prog 10 #[.agg (CH (.slice A (lcEnd s).1 c) (lcEnd s).1 (lcEnd s).2), .string s] w (OlbPost w) := by
  have hll := lcEnd_le s
  have HZ := Lib.hid (fun W => zln_any s hs W)
  obtain ⟨l, hl⟩ : ∃ l, l = (lcEnd s).1 := ⟨_, rfl⟩
  obtain ⟨cl, hcl⟩ : ∃ l, l = (lcEnd s).2 := ⟨_, rfl⟩
  rw [← hl, ← hcl] at hll
  rw [← hl] at hown
  rw [← hl, ← hcl]
  have HZ2 : Hid (∀ W, Calls Tryd.prog 17 #[.string s] W fun e w' => e = .returned (.tuple #[.int .i64 (l : Int), .int .i64 (cl : Int)]) ∧ ∃ q, w' = W.drewN q) := Lib.hid (fun W => by rw [hl, hcl]; exact HZ.out W)
  have hrd : ∀ i, i < l → ∃ ob, A = some ⟨ob, 0, none⟩ ∧ ob < w.heap.size ∧ w.cell? ⟨ob, i, none⟩ = some (.int .u8 59) := fun i hi => by
    obtain ⟨ob, cap, hv, _, hlt⟩ := hown.form (by omega)
    injection hv with e1 e2 e3
    subst e1
    refine ⟨ob, rfl, hlt, (hown.cellAt i (by omega)).trans ?_⟩
    unfold semis
    simp [hi]
  have HRD := Lib.hid hrd
  clear hl hcl hown hrd HZ
  go_enter Tryd.func10, Tryd.ntmps10
  go_wp2_with (go_at_call 17; refine (HZ2.out _).mono ?_)
  rintro e w1 ⟨rfl, q, hw1⟩
  have HB : Hid (Blk w1 w.heap.size 43 (CH (.slice A l c) l cl)) := Lib.hid (by rw [hw1]; exact (Blk.new w 43 (CH (.slice A l c) l cl)).drewN q)
  have HBE : Hid (Below w.heap.size w w1) := Lib.hid (by rw [hw1]; exact below_drewN ((Below.refl _ _).alloc (Nat.le_refl _) _) q)
  have HRD1 : Hid (∀ i, i < l → ∃ ob, A = some ⟨ob, 0, none⟩ ∧ w1.cell? ⟨ob, i, none⟩ = some (.int .u8 59)) := Lib.hid (fun i hi => by
    obtain ⟨ob, h1, h2, h3⟩ := HRD.out i hi
    exact ⟨ob, h1, (HBE.out.cell (p := ⟨ob, i, none⟩) h2).trans h3⟩)
  clear hw1
  have hblt : w.heap.size < w1.heap.size := HB.out.lt
  have c0 : w1.cell? ⟨w.heap.size, 0, none⟩ = some (.slice A l c) := HB.out.cell 0
  have c1 : w1.cell? ⟨w.heap.size, 1, none⟩ = some (.int .u32 0) := HB.out.cell 1
  have c2 : w1.cell? ⟨w.heap.size, 2, none⟩ = some (.slice none 0 0) := HB.out.cell 2
  have c3 : w1.cell? ⟨w.heap.size, 3, none⟩ = some (.int .i64 (l : Int)) := HB.out.cell 3
  have c4 : w1.cell? ⟨w.heap.size, 4, none⟩ = some (.int .i64 0) := HB.out.cell 4
  have c5 : w1.cell? ⟨w.heap.size, 5, none⟩ = some (.int .i64 0) := HB.out.cell 5
  have c6 : w1.cell? ⟨w.heap.size, 6, none⟩ = some (.int .i64 0) := HB.out.cell 6
  have c7 : w1.cell? ⟨w.heap.size, 7, none⟩ = some (.int .i64 0) := HB.out.cell 7
  have c8 : w1.cell? ⟨w.heap.size, 8, none⟩ = some (.int .i64 0) := HB.out.cell 8
  have c9 : w1.cell? ⟨w.heap.size, 9, none⟩ = some (.bool false) := HB.out.cell 9
  have c10 : w1.cell? ⟨w.heap.size, 10, none⟩ = some (.int .i64 (cl : Int)) := HB.out.cell 10
  have c11 : w1.cell? ⟨w.heap.size, 11, none⟩ = some (.bool true) := HB.out.cell 11
  go_wp2
  go_loop [7] (fun t => ∃ k : Nat, t = .int .i64 (k : Int) ∧ k ≤ l) (fun t => l - (intOf t).toNat)
  case atStart => exact ⟨0, rfl, Nat.zero_le _⟩
  case round =>
    obtain ⟨k, rfl, hk⟩ := hrel
    by_cases hlt : k < l
    · obtain ⟨ob, hSA, hc⟩ := HRD1.out k hlt
      subst hSA
      have hlt' : (k : Int) < (l : Int) := by omega
      have hw : IntKind.i64.wrap ((k : Int) + 1) = ((k + 1 : Nat) : Int) := by rw [IntKind.wrap_i64]; omega
      go_wp2
      go_round
      case rel => exact ⟨k + 1, rfl, by omega⟩
      case measure => simp [intOf]; omega
    · obtain rfl : k = l := by omega
      have hlt' : ¬ ((k : Int) < (k : Int)) := by omega
      go_wp2
      go_ret
      exact ⟨rfl, HBE.out.alloc (by omega) _⟩
end Go.Proofs.YtgdcpladehcegaaDoor
