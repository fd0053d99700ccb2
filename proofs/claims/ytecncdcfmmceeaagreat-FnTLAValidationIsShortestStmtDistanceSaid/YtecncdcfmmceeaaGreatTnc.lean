/- ZZtlaCheck: the check of one file. -/
import Derived.Test.YtecncdcfmmceeaaGreatTnk
import Derived.Deep.RegionHeld3
import Derived.Handy
namespace Go.Proofs.YtecncdcfmmceeaaGreat
open Go.RowKit
set_option linter.unusedVariables false
set_option linter.unusedSimpArgs false
/-- The check of one file. -/
def ChkPost (σ : TS) (i : Nat) (w : World) (e : Ending) (w' : World) : Prop := e = .returned (.tuple #[.bool (decide (σ.par i ≠ INV)), .int .u32 (σ.par i : Int), .int .u32 (σ.dep i : Int), .int .u32 (σ.ri i : Int)]) ∧ w.grownBy w' none
set_option maxHeartbeats 4000000 in
set_option maxRecDepth 100000 in
theorem chk_any (G : TG) (rb sb : Nat) (jb : Nat → Nat) (σ : TS) (i : Nat) (w : World) (hG : GOk G) (ht : TW1 G rb sb jb σ w) (hi : i < G.n) (hp : σ.par i ≤ INV) (hd : σ.dep i ≤ INV) :
    Calls Tryz.prog 14 #[.pointer (some ⟨sb, 0, none⟩), .int .i64 (i : Int)] w (ChkPost σ i w) := by
  have hn16 := hG.n
  obtain ⟨⟨cs, hbr, hres⟩, ⟨css, cap, hsb, h11, hcap⟩, _⟩ := ht
  obtain ⟨_, r22, r23, r24, r25, _⟩ := hres.row i hi
  have c11 : w.cell? ⟨sb, 11, none⟩ = some (.slice (some ⟨rb, 0, none⟩) G.n cap) := (hsb.cell 11).trans h11
  have c22 := (hbr.cell (i * 27 + 22)).trans r22
  have c23 := (hbr.cell (i * 27 + 23)).trans r23
  have c24 := (hbr.cell (i * 27 + 24)).trans r24
  have c25 := (hbr.cell (i * 27 + 25)).trans r25
  obtain ⟨x, hx⟩ : ∃ x, x = σ.par i := ⟨_, rfl⟩
  obtain ⟨y, hy⟩ : ∃ y, y = σ.dep i := ⟨_, rfl⟩
  rw [← hx] at c22 hp
  rw [← hy] at c23 hd
  have hi1 := fun W => isIx x (decide (x ≠ INV)) hp rfl W
  have hg1 := fun W => gtIx x hp W
  have hg2 := fun W => gtIx y hd W
  obtain ⟨v22, e22⟩ : ∃ v : Nat, v = INV - x := ⟨_, rfl⟩
  obtain ⟨v23, e23⟩ : ∃ v : Nat, v = INV - y := ⟨_, rfl⟩
  obtain ⟨v24, e24⟩ : ∃ v : Nat, v = σ.pas i := ⟨_, rfl⟩
  obtain ⟨v25, e25⟩ : ∃ v : Nat, v = σ.ri i := ⟨_, rfl⟩
  rw [← e22] at c22 hi1 hg1
  rw [← e23] at c23 hg2
  rw [← e24] at c24
  rw [← e25] at c25
  obtain ⟨bv, hbv⟩ : ∃ b, b = decide (x ≠ INV) := ⟨_, rfl⟩
  rw [← hbv] at hi1
  have HI1 := Lib.hid hi1; have HG1 := Lib.hid hg1; have HG2 := Lib.hid hg2
  have HEND : Hid (∀ w', w.grownBy w' none → ChkPost σ i w (.returned (.tuple #[.bool bv, .int .u32 (x : Int), .int .u32 (y : Int), .int .u32 (v25 : Int)])) w') := Lib.hid (fun w' h => ⟨by rw [hbv, hx, hy, e25], h⟩)
  have hii : (i : Int) < (G.n : Int) := by omega
  obtain ⟨W1, hW1⟩ : ∃ W, W = w.alloc (.cells #[.int .u32 (v22 : Int), .int .u32 (v23 : Int), .int .u32 (v24 : Int), .int .u32 (v25 : Int)] 85) := ⟨_, rfl⟩
  have HB := Lib.hid (show Blk W1 w.heap.size 85 #[.int .u32 (v22 : Int), .int .u32 (v23 : Int), .int .u32 (v24 : Int), .int .u32 (v25 : Int)] by rw [hW1]; exact Blk.new _ _ _)
  have HGW := Lib.hid (show w.grownBy W1 none by rw [hW1]; exact only_alloc (World.grownBy.refl _ _) _)
  have f0 : W1.cell? ⟨w.heap.size, 0, none⟩ = some (.int .u32 (v22 : Int)) := HB.out.cell 0
  have f3 : W1.cell? ⟨w.heap.size, 3, none⟩ = some (.int .u32 (v25 : Int)) := HB.out.cell 3
  have f1 : W1.cell? ⟨w.heap.size, 1, none⟩ = some (.int .u32 (v23 : Int)) := HB.out.cell 1
  have HX := Lib.hid (World.grownBy.refl W1 none)
  have HKEEP : Hid (∀ wg : World, W1.grownBy wg none → wg.cell? ⟨w.heap.size, 0, none⟩ = some (.int .u32 (v22 : Int)) ∧ wg.cell? ⟨w.heap.size, 1, none⟩ = some (.int .u32 (v23 : Int)) ∧ wg.cell? ⟨w.heap.size, 3, none⟩ = some (.int .u32 (v25 : Int))) := Lib.hid (fun wg hg => ⟨(HB.out.grown hg (by simp)).cell 0, (HB.out.grown hg (by simp)).cell 1, (HB.out.grown hg (by simp)).cell 3⟩)
  clear hx hy e22 e23 e24 e25 hbv hi1 hg1 hg2 hp hd hres hbr hsb h11 r22 r23 r24 r25
  go_enter Tryz.func14, Tryz.ntmps14
  go_upto_region 2 with fail
  first | rw [← hW1] | skip
  clear hW1 c11 c22 c23 c24 c25
  go_region_held3 (fun w' => w'.cell? ⟨w.heap.size, 0, none⟩ = some (.int .u32 (v22 : Int)) ∧ w'.cell? ⟨w.heap.size, 1, none⟩ = some (.int .u32 (v23 : Int)) ∧ w'.cell? ⟨w.heap.size, 3, none⟩ = some (.int .u32 (v25 : Int)) ∧ W1.grownBy w' none)
    (first | exact ⟨q0, q1, q3, HX.out⟩ | exact ⟨f0, f1, f3, HX.out⟩ | exact ⟨f0, f1, f3, ⟨rfl, rfl, rfl, Nat.le_refl _, fun _ _ _ => rfl⟩⟩ | go_keep)
    (first
      | (go_at_call 22; (first | (with_reducible refine (HG1.out _).mono ?_) | (with_reducible refine (HG2.out _).mono ?_)); rintro e wg ⟨rfl, hg⟩; have HX := Lib.hid (grown_acc HX.out ⟨hg.os, hg.tape, hg.output, hg.size, hg.block⟩); obtain ⟨q0, q1, q3⟩ := HKEEP.out _ HX.out; clear hg)
      | (go_at_call 21; (with_reducible refine (HI1.out _).mono ?_); rintro e wg ⟨rfl, hg⟩; have HX := Lib.hid (grown_acc HX.out ⟨hg.os, hg.tape, hg.output, hg.size, hg.block⟩); obtain ⟨q0, q1, q3⟩ := HKEEP.out _ HX.out; clear hg))
  all_goals
    go_wp2
    go_returns
    exact HEND.out _ (grownBy_acc HGW.out HX.out)
end Go.Proofs.YtecncdcfmmceeaaGreat
