/- The joiner is done: one row of bytes, the pieces behind each other. -/
import Derived.Test.YthbmffocgccniaaDoorVjn
import Derived.Laws.CopyOwn
import Derived.Deep.QuietTactic
import Derived.BigQuiet
namespace Go.Proofs.YthbmffocgccniaaDoor
open Go.RowKit
set_option linter.unusedVariables false
set_option linter.unusedSimpArgs false
def DonePost (T : Bt) (w : World) (e : Ending) (w' : World) : Prop := ∃ g, e = .returned (.slice (some ⟨g, 0, none⟩) T.length T.length) ∧ TxB w' (some ⟨g, 0, none⟩) T.length T ∧ w.grownBy w' none
theorem cutb (g L c : Nat) (hc : c ≤ L) : ∃ SA, (∀ W : World, (Instr.slice 22 (.slice (some ⟨g, 0, none⟩) L L) (some (.int .u32 (c : Int))) none none).run Tryd.prog W = .ok (.slice SA (L - c) (L - c)) W) ∧ (c < L → SA = some ⟨g, c, none⟩) := by
  have he : Tryd.prog.elem 22 = 5 := by kernel_rfl
  have hu : Tryd.prog.underlying 22 = some (.slice (Tryd.prog.elem 22)) := by kernel_rfl
  refine ⟨if L = c then some ⟨g, 0, none⟩ else (some (⟨g, 0, none⟩ : Addr)).map (·.add (c * 1)), fun W => ?_, fun h => ?_⟩
  · rw [run_slice_l W 22 (some ⟨g, 0, none⟩) L L hu .u32 (c : Int) (by omega) (by omega), he, Tryd.sizeOf5]
    simp [sliced]
  · rw [if_neg (by omega)]
    simp [Addr.add]
    try omega
/-- The buffer: k pieces are in their places. -/
structure BU (its : List It) (L k g : Nat) (w : World) : Prop where
  buf : ∃ cs : List Value, w.heap[g]? = some (.cells cs.toArray 5 (0, 0)) ∧ cs.length = L ∧ ∀ (j : Nat) (c : UInt8), (cat (its.take k))[j]? = some c → cs[j]? = some (u8V c)
theorem cat_takeS {its : List It} {k : Nat} {x : It} (h : its[k]? = some x) : cat (its.take (k + 1)) = cat (its.take k) ++ x.T := by
  rw [List.take_add_one, h]
  exact cat_snoc _ _
theorem cat_le (its : List It) (k : Nat) : (cat (its.take k)).length ≤ (cat its).length := by
  have : cat its = cat (its.take k) ++ cat (its.drop k) := by
    unfold cat
    rw [← List.flatMap_append, List.take_append_drop]
  rw [this, List.length_append]; omega
theorem grownBy_acc {a b c : World} {row : Option Nat} (h : a.grownBy b row) (k : b.grownBy c row) : a.grownBy c row :=
  ⟨k.os.trans h.os, k.tape.trans h.tape, k.output.trans h.output, Nat.le_trans h.size k.size, fun i hi hne => (k.block i (Nat.lt_of_lt_of_le hi h.size) hne).trans (h.block i hi hne)⟩
theorem BU.step {its : List It} {L k g : Nat} {w' : World} {x : It} {cs : List Value} (hL : L = (cat its).length) (hx : its[k]? = some x) (ho : x.off = (cat (its.take k)).length) (hl : cs.length = L) (hc : ∀ (j : Nat) (c : UInt8), (cat (its.take k))[j]? = some c → cs[j]? = some (u8V c)) (hg : w'.heap[g]? = some (.cells (splice cs x.off (x.T.map u8V)).toArray 5 (0, 0))) : BU its L (k + 1) g w' := by
  have hle := cat_le its (k + 1)
  rw [cat_takeS hx, List.length_append, ← ho, ← hL] at hle
  refine ⟨_, hg, by rw [length_splice _ _ _ (by simp; omega)]; exact hl, fun j c hj => ?_⟩
  rw [cat_takeS hx] at hj
  unfold splice
  rcases Nat.lt_or_ge j x.off with h1 | h1
  · rw [List.getElem?_append_left (by rw [← ho]; exact h1)] at hj
    rw [List.getElem?_append_left (by rw [List.length_take]; omega), List.getElem?_take_of_lt h1]
    exact hc j c hj
  · rw [List.getElem?_append_right (by omega), ← ho] at hj
    have hjl := (List.getElem?_eq_some_iff.1 hj).1
    have hm : min x.off cs.length = x.off := by omega
    rw [List.getElem?_append_right (by rw [List.length_take]; omega), List.length_take, hm, List.getElem?_append_left (by rw [List.length_map]; exact hjl), List.getElem?_map, hj]
    rfl
set_option maxHeartbeats 4000000 in
set_option maxRecDepth 100000 in
theorem done_any (B jb : Nat) (its : List It) (w : World) (h : JI B jb its (cat its).length w) (hc : (cat its).length ≤ 16777216) (hl : its.length ≤ 1000) (h2 : 2 ≤ its.length) :
    Calls Tryd.prog 13 #[.pointer (some ⟨jb, 0, none⟩)] w (DonePost (cat its) w) := by
  obtain ⟨L, hL⟩ : ∃ l, l = (cat its).length := ⟨_, rfl⟩
  rw [← hL] at h hc
  obtain ⟨N, hN⟩ : ∃ l, l = its.length := ⟨_, rfl⟩
  have HJ := Lib.hid h
  obtain ⟨⟨bv, lb, hb, hown⟩, hmem, hoff, hB⟩ := h
  obtain ⟨q, bc, rfl⟩ : ∃ q c, bv = .slice (some ⟨q, 0, none⟩) its.length c := by
    obtain ⟨g, c, h1, _⟩ := hown.form (by omega)
    exact ⟨g, c, h1⟩
  have HROW : Hid (∀ k x, its[k]? = some x → w.cell? ⟨q, k * 2, none⟩ = some (.slice x.A x.n x.cap) ∧ w.cell? ⟨q, k * 2 + 1, none⟩ = some (.int .u32 (x.off : Int))) := Lib.hid (fun k x hx => by
    have hk := (List.getElem?_eq_some_iff.1 hx).1
    obtain ⟨h1, h2⟩ := itsC_at its k x hx
    exact ⟨(hown.cellAt _ (by omega)).trans h1, (hown.cellAt _ (by omega)).trans h2⟩)
  rw [← hN] at hb hl h2
  have c0 : w.cell? ⟨jb, 0, none⟩ = some (.slice none 0 0) := hb.cell 0
  have c1 : w.cell? ⟨jb, 1, none⟩ = some (.slice (some ⟨q, 0, none⟩) N bc) := hb.cell 1
  have c2 : w.cell? ⟨jb, 2, none⟩ = some (.int .u32 (L : Int)) := hb.cell 2
  have HB := Lib.hid hb; have HMEM := Lib.hid hmem; have HOFF := Lib.hid hoff; have HL := Lib.hid hL; have HN := Lib.hid hN
  obtain ⟨i0, hi, hz0, hz1, hz2⟩ := info_parts u8_info
  have hmk : ∀ W : World, (Instr.makeSlice 22 (.int .u32 (L : Int)) (.int .u32 (L : Int))).run Tryd.prog W = .ok (.slice (some ⟨W.heap.size, 0, none⟩) L L) (W.alloc (.cells (madeCells #[.int .u8 0] L) 5)) := fun W => by
    have := run_make (P := Tryd.prog) W 22 5 i0 (.int .u8 0) Tryd.underlying22 hi hz0 .u32 .u32 L L (by omega) (by omega) (by rw [hz2]; omega) (by omega)
    simpa [hz1, Value.cells] using this
  have n1 : ¬ (N : Int) = 1 := by omega
  have n2 : ((N : Int) == 1) = false := by simp; omega
  obtain ⟨w1, hw1⟩ : ∃ W, W = w.alloc (.cells (madeCells #[.int .u8 0] L) 5) := ⟨_, rfl⟩
  have HG1 : Hid (w.grownBy w1 none) := Lib.hid (by rw [hw1]; exact only_alloc (World.grownBy.refl _ _) _)
  have HBU : Hid (BU its L 0 w.heap.size w1) := Lib.hid ⟨(madeCells #[Value.int .u8 0] L).toList, by rw [hw1]; simpa using heap_alloc_new w _, by simp [madeCells], fun j c hj => by simp [cat] at hj⟩
  have d0 : w1.cell? ⟨jb, 0, none⟩ = some (.slice none 0 0) := (hb.grown HG1.out (by simp)).cell 0
  have d1 : w1.cell? ⟨jb, 1, none⟩ = some (.slice (some ⟨q, 0, none⟩) N bc) := (hb.grown HG1.out (by simp)).cell 1
  clear hb hown hmem hoff hL hN
  go_enter Tryd.func13, Tryd.ntmps13
  go_upto_region 4 with fail
  first | rw [← hw1] | skip
  clear hw1 hmk c0 c1 c2
  go_wp2
  go_loopw [49] (fun iv wr => iv = .int .i64 0 ∧ w1 = wr) (fun _ _ => 0)
  case atStart => exact ⟨rfl, rfl⟩
  case round =>
    obtain ⟨rfl, rfl⟩ := hrel
    go_wp2
    go_loopw [66] (fun iv wr => ∃ k : Nat, iv = .int .i64 (k : Int) ∧ k ≤ N ∧ BU its L k w.heap.size wr ∧ w.grownBy wr none) (fun iv _ => N - (intOf iv).toNat)
    case atStart => exact ⟨0, rfl, Nat.zero_le _, HBU.out, HG1.out⟩
    case round =>
      obtain ⟨k, rfl, hk, hbu, hgr⟩ := hrel
      have HGR := Lib.hid hgr; have HBK := Lib.hid hbu
      clear hgr hbu d0 d1
      by_cases hlt : k < N
      · have hlt' : (k : Int) < (N : Int) := by omega
        obtain ⟨x, hx⟩ : ∃ x, its[k]? = some x := ⟨its[k]'(by have := HN.out; omega), List.getElem?_eq_getElem _⟩
        have HX := Lib.hid hx
        obtain ⟨A, n, cap, off, T⟩ := x
        have e0 : wr.cell? ⟨q, k * 2, none⟩ = some (.slice A n cap) := by
          have := (HROW.out k _ hx).1
          exact (World.cell?_of_block (HGR.out.block q (World.block_lt_of_cell? _ _ this) (by simp))).trans this
        have e1 : wr.cell? ⟨q, k * 2 + 1, none⟩ = some (.int .u32 (off : Int)) := by
          have := (HROW.out k _ hx).2
          exact (World.cell?_of_block (HGR.out.block q (World.block_lt_of_cell? _ _ this) (by simp))).trans this
        have hwk : IntKind.i64.wrap ((k : Int) + 1) = (k : Int) + 1 := by rw [IntKind.wrap_i64]; omega
        obtain ⟨w2, hw2⟩ : ∃ W, W = wr.alloc (.cells #[.slice A n cap, .int .u32 (off : Int)] 60) := ⟨_, rfl⟩
        have HB2 := Lib.hid (show Blk w2 wr.heap.size 60 #[.slice A n cap, .int .u32 (off : Int)] by rw [hw2]; exact Blk.new _ _ _)
        have HG2 : Hid (wr.grownBy w2 none) := Lib.hid (by rw [hw2]; exact only_alloc (World.grownBy.refl _ _) _)
        have f0 : w2.cell? ⟨wr.heap.size, 0, none⟩ = some (.slice A n cap) := HB2.out.cell 0
        have f1 : w2.cell? ⟨wr.heap.size, 1, none⟩ = some (.int .u32 (off : Int)) := HB2.out.cell 1
        have hoff := HOFF.out k _ hx
        have htx := HMEM.out _ (List.mem_of_getElem? hx)
        have hTl : T.length = n := htx.1
        have hle := cat_le its (k + 1)
        rw [cat_takeS hx, List.length_append, ← hoff, ← HL.out] at hle
        have hfit : off + n ≤ L := by have : T.length = n := hTl; simp only at hle; omega
        obtain ⟨cs, hcs, hcl, hcc⟩ := HBK.out.buf
        obtain ⟨SA, hcut, hSA⟩ := cutb w.heap.size L off (by omega)
        obtain ⟨D, hD⟩ : ∃ D, D = L - off := ⟨_, rfl⟩
        rw [← hD] at hcut
        obtain ⟨X1, hX1⟩ : ∃ X, X = T.map u8V := ⟨_, rfl⟩
        have HX1 := Lib.hid hX1
        have hx1l : X1.length = n := by rw [hX1, List.length_map, hTl]
        have HSTEP : Hid (∀ W, W.heap[w.heap.size]? = some (.cells (splice cs off X1).toArray 5 (0, 0)) → Below w.heap.size w W → BU its L (k + 1) w.heap.size W ∧ w.grownBy W none) := Lib.hid (fun W h1 h2 => by
          refine ⟨BU.step HL.out HX.out hoff hcl hcc ?_, only_of_below h2 none⟩
          rw [h1, hX1])
        have HBE : Hid (∀ W, (W = w2 ∨ W = w2.drew) → W.heap[w.heap.size]? = some (.cells cs.toArray 5 (0, 0)) ∧ Below w.heap.size w W ∧ (0 < X1.length → SA = some ⟨w.heap.size, off, none⟩ ∧ ∃ ad, A = some ad ∧ ∀ j v, X1[j]? = some v → W.cell? (ad.add j) = some v)) := Lib.hid (fun W hW => by
          have hgW : wr.grownBy W none := by
            rcases hW with rfl | rfl
            · exact HG2.out
            · exact only_drew HG2.out
          have hgw : w.grownBy W none := grownBy_acc HGR.out hgW
          refine ⟨?_, ⟨hgw.os, hgw.tape, hgw.output, hgw.size, fun i hi => hgw.block i hi (by simp)⟩, fun h0 => ⟨hSA (by have : 0 < n := hx1l ▸ h0; omega), ?_⟩⟩
          · have hlt : w.heap.size < wr.heap.size := by
              rcases Nat.lt_or_ge w.heap.size wr.heap.size with h | h
              · exact h
              · rw [Array.getElem?_eq_none h] at hcs; cases hcs
            exact (hgW.block _ hlt (by simp)).trans hcs
          · obtain ⟨ad, e, _, h3⟩ := (htx.txt.grown hgw).2 (by show 0 < n; omega)
            exact ⟨ad, e, fun j v hv => h3 j v (by rw [← hX1]; exact hv)⟩)
        have HF1 : Hid (off + X1.length ≤ cs.length) := Lib.hid (by rw [hx1l, hcl]; exact hfit)
        have HF2 : Hid (X1.length = Nat.min n D) := Lib.hid (by rw [hx1l]; show n = min n D; omega)
        have HF3 : Hid (∀ v ∈ X1, v.oneCell' = true) := Lib.hid (fun v hv => by
          rw [HX1.out] at hv
          obtain ⟨_, _, rfl⟩ := List.mem_map.1 hv
          rfl)
        have hsz : (Tryd.prog.info? 5).map (·.size) = some 1 := by kernel_rfl
        clear hx hoff htx hTl hle hfit hcs hcl hcc hSA hD hX1 hx1l
        go_upto_region 12 with fail
        first | rw [← hw2] | skip
        clear hw2 e0 e1
        go_region_law (refine step_copy_splice rfl (.tmp 73) (.tmp 75) 22 22 rfl 5 Tryd.underlying22 hsz SA A D D n cap (by simp [Act.eval, Act.put]) (by simp [Act.eval, Act.put]) w.heap.size off cs 5 (HBE.out _ (by first | exact Or.inl rfl | exact Or.inr rfl)).1 X1 HF2.out (HBE.out _ (by first | exact Or.inl rfl | exact Or.inr rfl)).2.2 HF1.out HF3.out w.heap.size w (HBE.out _ (by first | exact Or.inl rfl | exact Or.inr rfl)).2.1 (Nat.le_refl _) ?_; intro w4 hg4 hb4; have H4 := Lib.hid (HSTEP.out w4 hg4.out hb4); clear hg4 hb4)
        all_goals
          go_wp2
          go_roundw
          case rel => exact ⟨k + 1, by simp, by omega, H4.out.1, H4.out.2⟩
          case measure => simp [intOf]; omega
      · obtain rfl : k = N := by omega
        have hlt' : ¬ ((k : Int) < (k : Int)) := by omega
        have HEND : Hid (DonePost (cat its) w (.returned (.slice (some ⟨w.heap.size, 0, none⟩) L L)) wr) := Lib.hid (by
          obtain ⟨cs, h1, h2, h3⟩ := HBK.out.buf
          rw [HN.out, List.take_length] at h3
          refine ⟨w.heap.size, by rw [← HL.out], ⟨rfl, fun _ => ⟨_, 0, _, rfl, ⟨_, h1⟩, fun j c hj => ?_⟩⟩, HGR.out⟩
          rw [Nat.zero_add]
          simpa using h3 j c hj)
        go_wp2
        go_ret
        exact HEND.out
end Go.Proofs.YthbmffocgccniaaDoor
