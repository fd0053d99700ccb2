/- StableSymbolCountArray: the law's maker of it, and its Swap. -/
import Derived.Test.YtmgiffcdnhapmaaRows
import Derived.Test.YtmgiffcdnhapmaaWords
import Derived.Test.YtmgiffcdnhapmaaQd
import Derived.WalkKit
import Derived.WalkSpells
import Derived.LoopTactic
import Derived.Laws.MakeOwn
import Derived.BigRegion
import Derived.Deep.Light
import Derived.Outline
namespace Go.Proofs.Ytmgiffcdnhapmaa
open Go.RowKit
set_option linter.unusedVariables false
set_option linter.unusedSimpArgs false

theorem ent_info : (Try.prog.info? 35).map (fun i => (i.zero, i.size, i.bytes)) = some (some (.agg #[.int .u32 0, .int .u32 0, .int .u32 0, .int .u32 0]), 4, 16) := by kernel_rfl
def mk4 (n : Nat) : Array Value := madeCells #[.int .u32 0, .int .u32 0, .int .u32 0, .int .u32 0] (n * 4)
theorem made4 (n : Nat) : (mk4 n).size = n * 4 := by simp [mk4, madeCells]
def SwapPost (w : World) (g n : Nat) (E : Nat → Ent) (e : Ending) (w' : World) : Prop := e = .returned (.tuple #[]) ∧ Quads w' g 35 n n E ∧ w.grownBy w' (some g)
set_option maxHeartbeats 2000000 in
set_option maxRecDepth 100000 in
theorem swap4 (g n cap : Nat) (E : Nat → Ent) (i j : Nat) (hi : i < n) (hj : j < n) (hn : n ≤ 16777216) (w : World) (h : Quads w g 35 n n E) :
    Calls Try.prog 8 #[.slice (some ⟨g, 0, none⟩) n cap, .int .i64 i, .int .i64 j] w (SwapPost w g n (exE E i j)) := by
  obtain ⟨ci0, ci1, ci2, ci3⟩ := h.cell hi
  obtain ⟨cj0, cj1, cj2, cj3⟩ := h.cell hj
  have zi0 := h.frozen (i * 4)
  have zi1 := h.frozen (i * 4 + 1)
  have zi2 := h.frozen (i * 4 + 2)
  have zi3 := h.frozen (i * 4 + 3)
  have zj0 := h.frozen (j * 4)
  have zj1 := h.frozen (j * 4 + 1)
  have zj2 := h.frozen (j * 4 + 2)
  have zj3 := h.frozen (j * 4 + 3)
  have hfin : ∀ W : World, W = ((((((((w.setCell ⟨g, i * 4, none⟩ (.int .u32 (E j).a)).setCell ⟨g, i * 4 + 1, none⟩ (.int .u32 (E j).b)).setCell ⟨g, i * 4 + 2, none⟩ (.int .u32 (E j).c)).setCell ⟨g, i * 4 + 3, none⟩ (.int .u32 (E j).d)).setCell ⟨g, j * 4, none⟩ (.int .u32 (E i).a)).setCell ⟨g, j * 4 + 1, none⟩ (.int .u32 (E i).b)).setCell ⟨g, j * 4 + 2, none⟩ (.int .u32 (E i).c)).setCell ⟨g, j * 4 + 3, none⟩ (.int .u32 (E i).d)).drew → Quads W g 35 n n (exE E i j) ∧ w.grownBy W (some g) := fun W hW => by
    subst hW
    have h2 := (h.put hi (E j) n (fun m hm => Or.inl hm)).put hj (E i) n (fun m hm => Or.inl hm)
    refine ⟨Quads.drew (h2.ext (fun m _ => upd_upd E i j m)), only_drew ?_⟩
    refine only_setCell (p := ⟨g, j * 4 + 3, none⟩) ?_ (Or.inl rfl) _
    refine only_setCell (p := ⟨g, j * 4 + 2, none⟩) ?_ (Or.inl rfl) _
    refine only_setCell (p := ⟨g, j * 4 + 1, none⟩) ?_ (Or.inl rfl) _
    refine only_setCell (p := ⟨g, j * 4, none⟩) ?_ (Or.inl rfl) _
    refine only_setCell (p := ⟨g, i * 4 + 3, none⟩) ?_ (Or.inl rfl) _
    refine only_setCell (p := ⟨g, i * 4 + 2, none⟩) ?_ (Or.inl rfl) _
    refine only_setCell (p := ⟨g, i * 4 + 1, none⟩) ?_ (Or.inl rfl) _
    refine only_setCell (p := ⟨g, i * 4, none⟩) ?_ (Or.inl rfl) _
    exact World.grownBy.refl w (some g)
  have HFIN := Lib.hid hfin
  clear hfin h
  by_cases e : i = j
  · subst e
    go_enter Try.func8, Try.ntmps8
    go_wp2
    go_region
    go_wp2
    go_end0
    exact ⟨rfl, HFIN.out _ rfl⟩
  · have e' : ¬ j = i := fun h => e h.symm
    have n1 : ¬ j * 4 = i * 4 := by omega
    have n2 : ¬ i * 4 = j * 4 := by omega
    go_enter Try.func8, Try.ntmps8
    go_wp2
    go_region
    go_wp2
    go_end0
    exact ⟨rfl, HFIN.out _ rfl⟩
def ArrPost (w : World) (n : Nat) (E : Nat → Ent) (e : Ending) (w' : World) : Prop := ∃ g, e = .returned (.slice (some ⟨g, 0, none⟩) n n) ∧ w.heap.size ≤ g ∧ Quads w' g 35 n n E ∧ Below w.heap.size w w'
def ent4 (S I C T : Nat → Int) (m : Nat) : Ent := ⟨T m, S m, I m, C m⟩
set_option maxHeartbeats 2000000 in
set_option maxRecDepth 100000 in
theorem arr4 (gs gi gc gt n c0 c1 c2 c3 : Nat) (S I C T : Nat → Int) (w : World) (hs : ColA w gs n S) (hI : ColA w gi n I) (hc : ColA w gc n C) (ht : ColA w gt n T) (hn : n ≤ 16777216) :
    Calls Try.prog 7 #[.slice (some ⟨gs, 0, none⟩) n c0, .slice (some ⟨gi, 0, none⟩) n c1, .slice (some ⟨gc, 0, none⟩) n c2, .slice (some ⟨gt, 0, none⟩) n c3] w (ArrPost w n (ent4 S I C T)) := by
  obtain ⟨i1, hi1, hz0, hz1, hz2⟩ := info_parts ent_info
  have hmk : ∀ W : World, (Instr.makeSlice 26 (.int .i64 (n : Int)) (.int .i64 (n : Int))).run Try.prog W = .ok (.slice (some ⟨W.heap.size, 0, none⟩) n n) (W.alloc (.cells (mk4 n) 35)) := fun W => by
    have := run_make (P := Try.prog) W 26 35 i1 (.agg #[.int .u32 0, .int .u32 0, .int .u32 0, .int .u32 0]) Try.underlying26 hi1 hz0 .i64 .i64 n n (by omega) (by omega) (by rw [hz2]; omega) (by omega)
    simpa [hz1, Value.cells, mk4] using this
  have H0 := Lib.hid (Quads.new w 35 n (mk4 n) (made4 n) (ent4 S I C T))
  have HS := Lib.hid hs; have HI := Lib.hid hI; have HC := Lib.hid hc; have HT := Lib.hid ht
  have ls := hs.1; have li := hI.1; have lc := hc.1; have lt := ht.1
  clear hs hI hc ht
  go_enter Try.func7, Try.ntmps7
  go_wp2
  clear hmk
  go_loopw [10] (fun i wr => ∃ k : Nat, i = .int .i64 k ∧ k ≤ n ∧ Quads wr w.heap.size 35 n k (ent4 S I C T) ∧ Below w.heap.size w wr) (fun i _ => n - (intOf i).toNat)
  case atStart => exact ⟨0, rfl, by omega, H0.out, (Below.refl _ _).alloc (Nat.le_refl _) _⟩
  case round =>
    obtain ⟨k, rfl, hk, hp, hb⟩ := hrel
    have hsz := hb.size
    by_cases hlt : k < n
    · have c1 := (HS.out.below hb (Nat.le_refl _)).2 k hlt
      have c2 := (HI.out.below hb (Nat.le_refl _)).2 k hlt
      have c3 := (HC.out.below hb (Nat.le_refl _)).2 k hlt
      have c4 := (HT.out.below hb (Nat.le_refl _)).2 k hlt
      obtain ⟨v0, d0⟩ := hp.old (show k * 4 < n * 4 by omega)
      obtain ⟨v1, d1⟩ := hp.old (show k * 4 + 1 < n * 4 by omega)
      obtain ⟨v2, d2⟩ := hp.old (show k * 4 + 2 < n * 4 by omega)
      obtain ⟨v3, d3⟩ := hp.old (show k * 4 + 3 < n * 4 by omega)
      have z0 := hp.frozen (k * 4)
      have z1 := hp.frozen (k * 4 + 1)
      have z2 := hp.frozen (k * 4 + 2)
      have z3 := hp.frozen (k * 4 + 3)
      have hfin : ∀ W : World, W = ((((wr.setCell ⟨w.heap.size, k * 4, none⟩ (.int .u32 (T k))).setCell ⟨w.heap.size, k * 4 + 1, none⟩ (.int .u32 (S k))).setCell ⟨w.heap.size, k * 4 + 2, none⟩ (.int .u32 (I k))).setCell ⟨w.heap.size, k * 4 + 3, none⟩ (.int .u32 (C k))).drew →
          Quads W w.heap.size 35 n (k + 1) (ent4 S I C T) ∧ Below w.heap.size w W := fun W hW => by
        subst hW
        refine ⟨((hp.put hlt (ent4 S I C T k) (k + 1) (fun m hm => by omega)).ext (fun m _ => ?_)).drew,
          ((((hb.setCell (p := ⟨w.heap.size, _, none⟩) (Nat.le_refl _) _).setCell (p := ⟨w.heap.size, _, none⟩) (Nat.le_refl _) _).setCell (p := ⟨w.heap.size, _, none⟩) (Nat.le_refl _) _).setCell (p := ⟨w.heap.size, _, none⟩) (Nat.le_refl _) _).drew⟩
        unfold upd
        split
        · rename_i h; rw [h]
        · rfl
      have HFIN := Lib.hid hfin
      clear hfin hp hb
      go_wp2
      go_region
      go_wp2
      go_roundw
      case rel => exact ⟨k + 1, by go_num, by omega, (HFIN.out _ rfl).1, (HFIN.out _ rfl).2⟩
      case measure => simp [intOf]; omega
    · obtain rfl : n = k := by omega
      have HP := Lib.hid hp; have HB := Lib.hid hb
      clear hp hb
      go_wp2
      go_ret
      exact ⟨_, rfl, Nat.le_refl _, HP.out, HB.out⟩
end Go.Proofs.Ytmgiffcdnhapmaa
