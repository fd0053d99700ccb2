/- n011_102: zzPreArray: a list of counts. -/
import Derived.Test.YtljgaldndgbcjaaDoorAct
import Derived.Test.YtljgaldndgbcjaaDoorMsm
namespace Go.Proofs.YtljgaldndgbcjaaDoor
open Go.RowKit
set_option linter.unusedVariables false
set_option linter.unusedSimpArgs false
/-- Block g holds n counts; the first k of them are laid. -/
def PreR (w : World) (g n k : Nat) (xs : List Int) : Prop :=
  ∃ cs : Array Value, Blk w g 47 cs ∧ cs.size = n * 4 ∧ ∀ m, m < k → cs[m * 4]? = some (.int .u32 m) ∧ cs[m * 4 + 1]? = some (.int .u32 0) ∧ cs[m * 4 + 2]? = some (.int .u32 m) ∧ cs[m * 4 + 3]? = some (.int .u32 (xs.getD m 0))
theorem PreR.step {w : World} {g n k : Nat} {xs : List Int} (h : PreR w g n k xs) (hk : k < n) (x : Int) (hx : xs.getD k 0 = x) :
    PreR ((((w.setCell ⟨g, k * 4, none⟩ (.int .u32 k)).setCell ⟨g, k * 4 + 1, none⟩ (.int .u32 0)).setCell ⟨g, k * 4 + 2, none⟩ (.int .u32 k)).setCell ⟨g, k * 4 + 3, none⟩ (.int .u32 x)) g n (k + 1) xs := by
  obtain ⟨cs, hb, hs, hc⟩ := h
  refine ⟨_, (((hb.set_ _ _).set_ _ _).set_ _ _).set_ _ _, by simpa using hs, fun m hm => ?_⟩
  simp only [Array.getElem?_setIfInBounds, Array.size_setIfInBounds, hs]
  by_cases e : m = k
  · subst e
    refine ⟨?_, ?_, ?_, ?_⟩
    · rw [if_neg (by omega), if_neg (by omega), if_neg (by omega), if_pos rfl, if_pos (by omega)]
    · rw [if_neg (by omega), if_neg (by omega), if_pos rfl, if_pos (by omega)]
    · rw [if_neg (by omega), if_pos rfl, if_pos (by omega)]
    · rw [if_pos rfl, if_pos (by omega), hx]
  · obtain ⟨h0, h1, h2, h3⟩ := hc m (by omega)
    refine ⟨?_, ?_, ?_, ?_⟩
    · rw [if_neg (by omega), if_neg (by omega), if_neg (by omega), if_neg (by omega)]; exact h0
    · rw [if_neg (by omega), if_neg (by omega), if_neg (by omega), if_neg (by omega)]; exact h1
    · rw [if_neg (by omega), if_neg (by omega), if_neg (by omega), if_neg (by omega)]; exact h2
    · rw [if_neg (by omega), if_neg (by omega), if_neg (by omega), if_neg (by omega)]; exact h3
theorem PreR.grown {w w' : World} {g n k : Nat} {xs : List Int} (h : PreR w g n k xs) (hg : w.grownBy w' none) : PreR w' g n k xs := by
  obtain ⟨cs, hb, h2⟩ := h
  exact ⟨cs, hb.grown hg (by simp), h2⟩
theorem PreR.cells {w : World} {g n k : Nat} {xs : List Int} (h : PreR w g n k xs) (hk : k < n) : ∃ u0 u1 u2 u3, w.cell? ⟨g, k * 4, none⟩ = some u0 ∧ w.cell? ⟨g, k * 4 + 1, none⟩ = some u1 ∧ w.cell? ⟨g, k * 4 + 2, none⟩ = some u2 ∧ w.cell? ⟨g, k * 4 + 3, none⟩ = some u3 := by
  obtain ⟨cs, hb, hs, _⟩ := h
  exact ⟨_, _, _, _, (hb.cell _).trans (Array.getElem?_eq_getElem (by omega)), (hb.cell _).trans (Array.getElem?_eq_getElem (by omega)), (hb.cell _).trans (Array.getElem?_eq_getElem (by omega)), (hb.cell _).trans (Array.getElem?_eq_getElem (by omega))⟩
theorem PreR.frozen {w : World} {g n k : Nat} {xs : List Int} (h : PreR w g n k xs) (i : Nat) : w.frozen? ⟨g, i, none⟩ = false := by obtain ⟨cs, hb, _⟩ := h; exact hb.frozen i
def PrePost (w : World) (n : Nat) (xs : List Int) (e : Ending) (w' : World) : Prop :=
  ∃ g, e = .returned (.slice (some ⟨g, 0, none⟩) n n) ∧ w.heap.size ≤ g ∧ PreR w' g n n xs ∧ Below w.heap.size w w'
set_option maxHeartbeats 8000000 in
set_option maxRecDepth 100000 in
theorem pre_any (A : Option Addr) (n c : Nat) (xs : List Int) (w : World) (hr : Reads w w.heap.size 1 A n (xs.map (Value.int .u32))) (hn : n ≤ 65536) :
    Calls Tryd.prog 11 #[.slice A n c] w (PrePost w n xs) := by
  obtain ⟨i0, hi, hz0, hz1, hz2⟩ := info_parts sscI
  have hlen : xs.length = n := by have := hr.1; simpa using this
  have hmk : ∀ W : World, (Instr.makeSlice 38 (.int .i64 (n : Int)) (.int .i64 (n : Int))).run Tryd.prog W = .ok (.slice (some ⟨W.heap.size, 0, none⟩) n n) (W.alloc (.cells (madeCells (Value.cells (.agg #[.int .u32 0, .int .u32 0, .int .u32 0, .int .u32 0])) (n * 4)) 47)) := fun W => by
    have hr := run_make (P := Tryd.prog) W 38 47 i0 (.agg #[.int .u32 0, .int .u32 0, .int .u32 0, .int .u32 0]) Tryd.underlying38 hi hz0 .i64 .i64 n n (by omega) (by omega) (by rw [hz2]; omega) (by omega)
    simp only [Int.toNat_natCast, hz1] at hr
    exact hr
  have HR := Lib.hid hr; have HL := Lib.hid hlen
  have HP0 : Hid (PreR (w.alloc (.cells (madeCells (Value.cells (.agg #[.int .u32 0, .int .u32 0, .int .u32 0, .int .u32 0])) (n * 4)) 47)) w.heap.size n 0 xs) := Lib.hid ⟨_, Blk.new _ _ _, by simp [madeCells, Value.cells], fun m hm => by omega⟩
  have HB0 : Hid (Below w.heap.size w (w.alloc (.cells (madeCells (Value.cells (.agg #[.int .u32 0, .int .u32 0, .int .u32 0, .int .u32 0])) (n * 4)) 47))) := Lib.hid ((Below.refl _ w).alloc (Nat.le_refl _) _)
  clear hr hlen
  go_enter Tryd.func11, Tryd.ntmps11
  go_wp2
  go_loopw [4] (fun c wr => ∃ k : Nat, c = .int .i64 k ∧ k ≤ n ∧ PreR wr w.heap.size n k xs ∧ Below w.heap.size w wr) (fun c _ => n - (intOf c).toNat)
  case atStart => exact ⟨0, rfl, by omega, HP0.out, HB0.out⟩
  case round =>
    obtain ⟨k, rfl, hk, hp, hb⟩ := hrel
    by_cases hlt : k < n
    · have HP := Lib.hid hp; have HB := Lib.hid hb
      obtain ⟨b2, off2, e2, hb2, hc2⟩ := reads_any (HR.out.below hb) (by omega)
      subst e2
      obtain ⟨x, hx⟩ : ∃ x, xs[k]? = some x := ⟨_, List.getElem?_eq_getElem (by have := HL.out; omega)⟩
      have cx := hc2 k x hx
      have GX : Hid (xs.getD k 0 = x) := Lib.hid (by rw [List.getD_eq_getElem?_getD, hx]; rfl)
      have hlr := hb.size
      have hwk : IntKind.u32.wrap (k : Int) = k := by rw [IntKind.wrap_u32]; omega
      have HG : Hid (∀ W w5 : World, (W = wr ∨ W = wr.drew ∨ W = wr.drew.drew) → W.grownBy w5 none → PreR w5 w.heap.size n k xs ∧ Below w.heap.size w w5 ∧ w5.cell? ⟨b2, off2 + k, none⟩ = some (.int .u32 x)) := Lib.hid (fun W w5 hW hg => by
        have h1 : wr.grownBy w5 none := by rcases hW with rfl | rfl | rfl <;> exact ⟨hg.os, hg.tape, hg.output, hg.size, hg.block⟩
        exact ⟨HP.out.grown h1, HB.out.grown h1 hlr (fun k hk => by cases hk), (World.cell?_of_block (h1.block b2 (by omega) (by simp))).trans cx⟩)
      clear hp hb hc2 hx
      go_wp2
      go_region_with (go_at_call 14; (try rw [hwk]); refine (ref_any k _).mono ?_; rintro e w5 ⟨rfl, hg5⟩; obtain ⟨hp5, hb5, cx5⟩ := HG.out _ w5 (by first | exact Or.inl rfl | exact Or.inr (Or.inl rfl) | exact Or.inr (Or.inr rfl)) hg5; obtain ⟨u0, u1, u2, u3, z0, z1, z2, z3⟩ := hp5.cells hlt; have y0 := hp5.frozen (k * 4); have y1 := hp5.frozen (k * 4 + 1); have y2 := hp5.frozen (k * 4 + 2); have y3 := hp5.frozen (k * 4 + 3); have HP5 := Lib.hid (hp5.step hlt x GX.out); have HB5 := Lib.hid (((((hb5.setCell (p := ⟨w.heap.size, k * 4, none⟩) (Nat.le_refl _) (.int .u32 k)).setCell (p := ⟨w.heap.size, k * 4 + 1, none⟩) (Nat.le_refl _) (.int .u32 0)).setCell (p := ⟨w.heap.size, k * 4 + 2, none⟩) (Nat.le_refl _) (.int .u32 k)).setCell (p := ⟨w.heap.size, k * 4 + 3, none⟩) (Nat.le_refl _) (.int .u32 x))); clear hp5 hb5 hg5)
      all_goals
        go_wp2
        go_roundw
        case rel => exact ⟨k + 1, by go_num, by omega, HP5.out, HB5.out⟩
        case measure => simp [intOf]; omega
    · obtain rfl : k = n := by omega
      have HP := Lib.hid hp; have HB := Lib.hid hb
      clear hp hb
      go_wp2
      go_ret
      exact ⟨_, rfl, Nat.le_refl _, HP.out, HB.out⟩
end Go.Proofs.YtljgaldndgbcjaaDoor
