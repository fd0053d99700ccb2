/- printIdent of the empty text: nothing is printed. -/
import Derived.Test.YtmkkocjhbclibaaFmtPsi
import Derived.WalkMore
import Derived.Lib.OthersKept
namespace Go.Proofs.YtmkkocjhbclibaaFmt
open Go.RowKit
set_option linter.unusedVariables false
set_option linter.unusedSimpArgs false
set_option maxRecDepth 100000 in
theorem would_empty (s : ByteArray) (hs : s.size = 0) (w : World) :
    Calls Tryf.prog 27 #[.string s] w fun e w' => e = .returned (.bool false) ∧ w = w' := by
  go_enter Tryf.func27, Tryf.ntmps27
  go_wp2_with (go_at_call 36; (with_reducible refine (dec_empty s hs _).mono ?_); rintro e w' ⟨rfl, rfl⟩)
  go_ret
  exact ⟨rfl, rfl⟩
set_option maxHeartbeats 2000000 in
set_option maxRecDepth 100000 in
theorem ident_empty {B b : Nat} {K : Array Value} {A : Option Addr} {cap : Nat} {bs : List Value} (s : ByteArray) (hs : s.size = 0) (ws : Int) (w : World) (h : IsP B b K A cap bs w) (hB : B ≤ w.heap.size) :
    Calls Tryf.prog 23 #[.pointer (some ⟨b, 0, none⟩), .string s, .int .u8 0, .int .u8 ws] w (Printed B b K A bs w) := by
  have H := Lib.hid h
  have HP0 : Hid (∀ W : World, Below w.heap.size w W → Printed B b K A bs w (.returned (.tuple #[])) W) := Lib.hid (fun W hW => ⟨rfl, ⟨A, cap, h.below hW (Nat.le_refl _), .inl rfl⟩, hW.mono hB, Kept.of_below hW⟩)
  clear h
  go_enter Tryf.func23, Tryf.ntmps23
  go_wp2_with (go_at_call 27; (with_reducible refine (would_empty s hs _).mono ?_); rintro e w' ⟨rfl, rfl⟩)
  have HIT := Lib.hid (World.iter_heap w s 0)
  have HBW : Hid (Below w.heap.size w (w.iter s 0)) := Lib.hid ((Below.refl _ _).alloc (Nat.le_refl _) _)
  go_loopw [13, 14, 15, 16] (fun a1 a2 a3 a4 wr => wr.heap[w.heap.size]? = some (.stringIter s 0) ∧ Below w.heap.size w wr) (fun a1 a2 a3 a4 wr => 0)
  case atStart => exact ⟨HIT.out, HBW.out⟩
  case round =>
    obtain ⟨hit, hbw⟩ := hrel
    have hnx : ∀ ty, (Instr.next (.pointer (some ⟨w.heap.size, 0, none⟩)) true ty).run Tryf.prog wr = .ok (.tuple #[.bool false]) wr := fun ty => Lib.run_next_end_at wr w.heap.size s 0 ty hit (by omega)
    have HB := Lib.hid hbw
    clear hit hbw
    go_wp2_with fail
    (try rw [Exit.noGoto_ret])
    go_end0
    exact HP0.out _ HB.out
end Go.Proofs.YtmkkocjhbclibaaFmt
