/- Finalize where there is no shift: the three pieces behind each other. -/
import Derived.Test.YthbmffocgccniaaDoorVfm
import Derived.Deep.Cut
import Derived.Deep.DeepCutAuto
namespace Go.Proofs.YthbmffocgccniaaDoor
open Go.RowKit
set_option linter.unusedVariables false
set_option linter.unusedSimpArgs false
def Fin1Post (TQ : Bt) (w : World) (e : Ending) (w' : World) : Prop := ∃ A n c, e = .returned (.slice A n c) ∧ TxB w' A n (60 :: (TQ ++ [62])) ∧ w.grownBy w' none
theorem srcTx {w : World} {A : Option Addr} {n cap : Nat} {T : Bt} (h : TxB w A n T) : Src Tryd.prog 1 22 (.slice A n cap) n (T.map u8V) w := by
  cases A with
  | none =>
    have h0 : n = 0 := by
      rcases Nat.eq_zero_or_pos n with h0 | h0
      · exact h0
      · obtain ⟨_, _, _, e, _⟩ := h.2 h0; cases e
    subst h0
    obtain rfl : T = [] := List.eq_nil_of_length_eq_zero h.1
    exact Src.ofNil w Tryd.underlying22 cap
  | some a =>
    refine Src.ofSlice w Tryd.underlying22 a n cap (T.map u8V) (by simp [h.1]) (fun j u hj => ?_) (fun u hu => ?_)
    · have hn : 0 < n := by have := (List.getElem?_eq_some_iff.1 hj).1; simp at this; have := h.1; omega
      obtain ⟨ad, e, _, hc⟩ := h.txt.2 hn
      obtain rfl := Option.some.inj e
      exact hc j u hj
    · obtain ⟨_, _, rfl⟩ := List.mem_map.1 hu
      rfl
/-- The finished row so far. -/
structure OF (w : World) (pv : Array Value) (T : Bt) (v : Value) (wr : World) : Prop where
  own : wr.ownsRow (w.heap.size + 1) 5 1 v T.length (T.map u8V)
  pbk : Blk wr w.heap.size 38 pv
  gr : w.grownBy wr none
theorem OF.app {w : World} {pv : Array Value} {T X : Bt} {n : Nat} {v v' : Value} {wr w' : World} (h : OF w pv T v wr) (hn : X.length = n) (h1 : w'.ownsRow (w.heap.size + 1) 5 1 v' (T.length + n) (T.map u8V ++ X.map u8V)) (h2 : wr.grownBy w' v.ownBlock) : OF w pv (T ++ X) v' w' := by
  obtain ⟨a1, a2, a3⟩ := h
  refine ⟨by rw [List.length_append, hn, List.map_append]; exact h1, a2.grown h2 (fun e => own_blk_ne a1 a2 (by decide) e.symm), ⟨h2.os.trans a3.os, h2.tape.trans a3.tape, h2.output.trans a3.output, Nat.le_trans a3.size h2.size, fun i hi _ => ?_⟩⟩
  have hne : some i ≠ v.ownBlock := by
    rcases a1.2 with ⟨e, _⟩ | ⟨g, cap, cur, e, hb, _⟩
    · rw [e]; simp [Value.ownBlock]
    · rw [e]; simp [Value.ownBlock]; omega
  exact (h2.block i (Nat.lt_of_lt_of_le hi a3.size) hne).trans (a3.block i hi (by simp))
set_option maxHeartbeats 4000000 in
set_option maxRecDepth 100000 in
theorem fin_one (PA MA SA : Option Addr) (mn mc sc hg hc : Nat) (T : Bt) (w : World) (hP : TxB w PA 1 [60]) (hM : TxB w MA mn T) (hSx : TxB w SA 1 [62]) (hmn : mn ≤ 1004600) :
    Calls Tryd.prog 6 #[.agg #[.slice PA 1 1, .slice MA mn mc, .slice SA 1 sc], .slice (some ⟨hg, 0, none⟩) 1 hc] w (Fin1Post T w) := by
  obtain ⟨i0, hi, hz0, hz1, hz2⟩ := info_parts u8_info
  have hwm : IntKind.i64.wrap (1 + (mn : Int)) = ((mn + 1 : Nat) : Int) := by rw [IntKind.wrap_i64]; omega
  obtain ⟨m1, hm1⟩ : ∃ x, x = mn + 1 := ⟨_, rfl⟩
  rw [← hm1] at hwm
  have hwm2 : IntKind.i64.wrap ((m1 : Int) + 1) = ((mn + 2 : Nat) : Int) := by rw [IntKind.wrap_i64]; omega
  obtain ⟨m2, hm2⟩ : ∃ x, x = mn + 2 := ⟨_, rfl⟩
  rw [← hm2] at hwm2
  have hmk : ∀ W : World, (Instr.makeSlice 22 (.int .i64 0) (.int .i64 (m2 : Int))).run Tryd.prog W = .ok (.slice (some ⟨W.heap.size, 0, none⟩) 0 m2) (W.alloc (.cells (madeCells #[.int .u8 0] m2) 5)) := fun W => by
    have := run_make (P := Tryd.prog) W 22 5 i0 (.int .u8 0) Tryd.underlying22 hi hz0 .i64 .i64 0 m2 (by omega) (by omega) (by rw [hz2]; omega) (by omega)
    simpa [hz1, Value.cells] using this
  have hcap : (1 : Int) < (m2 : Int) := by omega
  have HM := Lib.hid hM; have HS := Lib.hid hSx; have HP := Lib.hid hP
  have hm2b : m2 ≤ 2000000 := by omega
  clear hM hSx hP hm1 hm2
  go_enter Tryd.func6, Tryd.ntmps6
  obtain ⟨W1, hW1⟩ : ∃ W, W = (w.alloc (.cells #[.slice PA 1 1, .slice MA mn mc, .slice SA 1 sc] 38)).alloc (.cells (madeCells #[.int .u8 0] m2) 5) := ⟨_, rfl⟩
  have HO1 : Hid (OF w #[.slice PA 1 1, .slice MA mn mc, .slice SA 1 sc] [] (.slice (some ⟨w.heap.size + 1, 0, none⟩) 0 m2) W1) := Lib.hid (by
    have b1 := (Blk.new w 38 #[.slice PA 1 1, .slice MA mn mc, .slice SA 1 sc]).alloc (.cells (madeCells #[.int .u8 0] m2) 5)
    have b2 := Blk.new (w.alloc (.cells #[.slice PA 1 1, .slice MA mn mc, .slice SA 1 sc] 38)) 5 (madeCells #[.int .u8 0] m2)
    have e1 : (w.alloc (.cells #[.slice PA 1 1, .slice MA mn mc, .slice SA 1 sc] 38)).heap.size = w.heap.size + 1 := by simp
    rw [e1] at b2
    rw [hW1]
    exact ⟨⟨rfl, .inr ⟨w.heap.size + 1, m2, _, rfl, Nat.le_refl _, b2, Nat.zero_le _, by unfold maxLen; omega, by simp [madeCells], by simp⟩⟩, b1, only_alloc (only_alloc (World.grownBy.refl _ _) _) _⟩)
  have HB1 : Hid (w.heap.size + 1 ≤ W1.heap.size) := Lib.hid (by rw [hW1]; simp)
  subst hW1
  go_upto_region 5 with fail
  go_wp2_with (at_builtin; refine wpList_append_own_src _ rfl (.tmp 39) (.tmp 40) 22 22 rfl (w.heap.size + 1) 5 i0 (.int .u8 0) 1 1 Tryd.underlying22 hi hz0 hz1 hz2 rfl (.slice (some ⟨w.heap.size + 1, 0, none⟩) 0 m2) 0 [] rfl HO1.out.own _ 1 _ rfl (srcTx (HP.out.grown HO1.out.gr)) (by unfold maxLen; omega) (by omega) HB1.out ?_)
  intro v2 w2 h1 h2 h3
  have HO2 := Lib.hid (HO1.out.app (X := [60]) rfl h1 h2)
  have HB2 : Hid (w.heap.size + 1 ≤ w2.heap.size) := Lib.hid (Nat.le_trans HB1.out h2.size)
  obtain ⟨A2, c2, rfl⟩ : ∃ A c, v2 = .slice A 1 c := by
    rcases h1.2 with ⟨e1, e2⟩ | ⟨g, cap, cur, e1, _⟩
    · simp at e2
    · exact ⟨_, cap, e1⟩
  have p1 : w2.cell? ⟨w.heap.size, 1, none⟩ = some (.slice MA mn mc) := HO2.out.pbk.cell 1
  clear h1 h2 h3 hmk
  go_upto_region 6 with fail
  go_wp2_with (at_builtin; refine wpList_append_own_src _ rfl (.tmp 42) (.tmp 44) 22 22 rfl (w.heap.size + 1) 5 i0 (.int .u8 0) 1 1 Tryd.underlying22 hi hz0 hz1 hz2 rfl (.slice A2 1 c2) 1 _ rfl HO2.out.own _ mn _ rfl (srcTx (HM.out.grown HO2.out.gr)) (by unfold maxLen; omega) (by omega) HB2.out ?_)
  intro v3 w3 h1 h2 h3
  have HO3 := Lib.hid (HO2.out.app (X := T) HM.out.1 h1 h2)
  have HB3 : Hid (w.heap.size + 1 ≤ w3.heap.size) := Lib.hid (Nat.le_trans HB2.out h2.size)
  obtain ⟨A3, c3, rfl⟩ : ∃ A c, v3 = .slice A (1 + mn) c := by
    rcases h1.2 with ⟨e1, e2⟩ | ⟨g, cap, cur, e1, _⟩
    · omega
    · exact ⟨_, cap, e1⟩
  have p2 : w3.cell? ⟨w.heap.size, 2, none⟩ = some (.slice SA 1 sc) := HO3.out.pbk.cell 2
  have HOW3 : Hid (w3.ownsRow (w.heap.size + 1) 5 1 (.slice A3 (1 + mn) c3) (1 + mn) (([60] ++ T : Bt).map u8V)) := Lib.hid (by
    have := HO3.out.own
    have e : ([] ++ [60] ++ T : Bt).length = 1 + mn := by simp; have := HM.out.1; omega
    rw [e] at this
    exact this)
  clear h1 h2 h3 p1
  go_upto_region 7 with fail
  go_wp2_with (at_builtin; refine wpList_append_own_src _ rfl (.tmp 46) (.tmp 48) 22 22 rfl (w.heap.size + 1) 5 i0 (.int .u8 0) 1 1 Tryd.underlying22 hi hz0 hz1 hz2 rfl (.slice A3 (1 + mn) c3) (1 + mn) _ rfl HOW3.out _ 1 _ rfl (srcTx (HS.out.grown HO3.out.gr)) (by unfold maxLen; omega) (by omega) HB3.out ?_)
  intro v4 w4 h1 h2 h3
  have HFIN : Hid (Fin1Post T w (.returned v4) w4) := Lib.hid (by
    have hle : ([] ++ [60] ++ T : Bt).length = 1 + mn := by simp; have := HM.out.1; omega
    have HO4 := HO3.out.app (X := [62]) rfl (by rw [hle]; exact h1) h2
    obtain ⟨A4, c4, rfl⟩ : ∃ A c, v4 = .slice A (1 + mn + 1) c := by
      rcases h1.2 with ⟨e1, e2⟩ | ⟨g, cap, cur, e1, _⟩
      · omega
      · exact ⟨_, cap, e1⟩
    have ho := HO4.own
    have e : ([] ++ [60] ++ T ++ [62] : Bt).length = 1 + mn + 1 := by simp; have := HM.out.1; omega
    rw [e] at ho
    have := TxB.of_own ho
    exact ⟨A4, _, c4, rfl, by simpa using this, HO4.gr⟩)
  clear h1 h2 h3 p2
  go_wp2
  go_ret
  exact HFIN.out
end Go.Proofs.YthbmffocgccniaaDoor
