/- The walks of Add and ComesBefore on line and column offsets. -/
import Derived.Test.YtniamejelnmdgaaAdvW
import Derived.RegionTactic
import Derived.ChangeAlike
import Derived.BigRegion
namespace Go.Proofs.Ytniamejelnmdgaa
open Go.RowKit
set_option linter.unusedVariables false

set_option maxRecDepth 100000 in
theorem add_zero (b : Nat) (L C dl dc : Int) (w : World) (hb : Blk w b 50 #[.int .i64 L, .int .i64 C]) (hd : (dl == 0) = true) :
    Calls Try.prog 21 #[.pointer (some ⟨b, 0, none⟩), .agg #[.int .i64 dl, .int .i64 dc]] w fun e w' => e = .returned (.tuple #[]) ∧ Blk w' b 50 #[.int .i64 L, .int .i64 (wrap64 (C + dc))] ∧ w.grownBy w' (some b) := by
  have hlt := hb.lt
  have c0 : w.cell? ⟨b, 0, none⟩ = some (.int .i64 L) := hb.cell 0
  have c1 : w.cell? ⟨b, 1, none⟩ = some (.int .i64 C) := hb.cell 1
  have z0 : w.frozen? ⟨b, 0, none⟩ = false := hb.frozen 0
  have z1 : w.frozen? ⟨b, 1, none⟩ = false := hb.frozen 1
  have HB := Lib.hid hb
  clear hb
  go_enter Try.func21, Try.ntmps21
  go_wp2
  go_region
  go_end0
  refine ⟨rfl, ?_, ?_⟩
  · have := ((HB.out.set_ 1 (.int .i64 (wrap64 (C + dc)))).alloc (.cells #[.int .i64 dl, .int .i64 dc] 50)).drew
    simpa using this
  · exact only_drew (only_alloc (only_setCell (p := ⟨b, 1, none⟩) (World.grownBy.refl w _) (.inl rfl) _) _)
set_option maxRecDepth 100000 in
theorem add_more (b : Nat) (L C dl dc : Int) (w : World) (hb : Blk w b 50 #[.int .i64 L, .int .i64 C]) (hd : (dl == 0) = false) :
    Calls Try.prog 21 #[.pointer (some ⟨b, 0, none⟩), .agg #[.int .i64 dl, .int .i64 dc]] w fun e w' => e = .returned (.tuple #[]) ∧ Blk w' b 50 #[.int .i64 (wrap64 (L + dl)), .int .i64 dc] ∧ w.grownBy w' (some b) := by
  have hlt := hb.lt
  have c0 : w.cell? ⟨b, 0, none⟩ = some (.int .i64 L) := hb.cell 0
  have c1 : w.cell? ⟨b, 1, none⟩ = some (.int .i64 C) := hb.cell 1
  have z0 : w.frozen? ⟨b, 0, none⟩ = false := hb.frozen 0
  have z1 : w.frozen? ⟨b, 1, none⟩ = false := hb.frozen 1
  have HB := Lib.hid hb
  clear hb
  go_enter Try.func21, Try.ntmps21
  go_wp2
  go_region
  go_wp2
  go_end0
  refine ⟨rfl, ?_, ?_⟩
  · have := (((HB.out.set_ 0 (.int .i64 (wrap64 (L + dl)))).set_ 1 (.int .i64 dc)).alloc (.cells #[.int .i64 dl, .int .i64 dc] 50)).drew
    simpa using this
  · exact only_drew (only_alloc (only_setCell (p := ⟨b, 1, none⟩) (only_setCell (p := ⟨b, 0, none⟩) (World.grownBy.refl w _) (.inl rfl) _) (.inl rfl) _) _)
def before (al ac bl bc : Int) : Bool := decide (al < bl ∨ al = bl ∧ ac < bc)
set_option maxRecDepth 100000 in
theorem comes (al ac bl bc : Int) (w : World) :
    Calls Try.prog 23 #[.agg #[.int .i64 al, .int .i64 ac], .agg #[.int .i64 bl, .int .i64 bc]] w fun e w' => e = .returned (.bool (before al ac bl bc)) ∧ w.grownBy w' none := by
  rcases Int.lt_trichotomy al bl with h | h | h
  · have hd : decide (al < bl) = true := by simpa using h
    have HF := Lib.hid (show before al ac bl bc = true by unfold before; simp; omega)
    go_enter Try.func23, Try.ntmps23
    go_wp2
    go_ret
    exact ⟨ret_bool HF.out.symm, only_alloc (only_alloc (World.grownBy.refl w _) _) _⟩
  · subst h
    have hd : decide (al < al) = false := by simp
    have he : (al == al) = true := by simp
    have HF := Lib.hid (show before al ac al bc = decide (ac < bc) by unfold before; simp)
    go_enter Try.func23, Try.ntmps23
    go_wp2
    go_ret
    exact ⟨ret_bool HF.out.symm, only_alloc (only_alloc (World.grownBy.refl w _) _) _⟩
  · have hd : decide (al < bl) = false := by simp; omega
    have he : (al == bl) = false := by simp; omega
    have HF := Lib.hid (show before al ac bl bc = false by unfold before; simp; omega)
    go_enter Try.func23, Try.ntmps23
    go_wp2
    go_ret
    exact ⟨ret_bool HF.out.symm, only_alloc (only_alloc (World.grownBy.refl w _) _) _⟩
end Go.Proofs.Ytniamejelnmdgaa
