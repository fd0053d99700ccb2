/- ZZslotSwap: builds the pairs, swaps, hands the two columns back. -/
import Derived.Test.YtenpbcaoelnamaaRows
import Derived.Test.YtenpbcaoelnamaaWords
import Derived.Test.YtenpbcaoelnamaaSwp
import Derived.WalkKit
import Derived.WalkSpells
import Derived.LoopTactic
import Derived.Laws.MakeOwn
import Derived.BigRegion
import Derived.Deep.Light
import Derived.Outline
namespace Go.Proofs.Ytenpbcaoelnamaa
open Go.RowKit
set_option linter.unusedVariables false
set_option linter.unusedSimpArgs false

/-- Block g holds just the n numbers F 0, F 1, .. -/
def Col (w : World) (g n : Nat) (F : Nat → Int) : Prop :=
  ∃ cs : Array Value, Blk w g 22 cs ∧ cs.size = n ∧ ∀ m, m < n → cs[m]? = some (.int .u32 (F m))
theorem Col.below {w w' : World} {g n B : Nat} {F : Nat → Int} (h : Col w g n F) (hb : Below B w w') (hg : g < B) : Col w' g n F := by
  obtain ⟨cs, h1, h2⟩ := h
  exact ⟨cs, h1.below hb hg, h2⟩
theorem Col.lt {w : World} {g n : Nat} {F : Nat → Int} (h : Col w g n F) : g < w.heap.size := by
  obtain ⟨cs, h1, h2⟩ := h
  exact h1.lt
theorem Col.cell {w : World} {g n : Nat} {F : Nat → Int} (h : Col w g n F) {m : Nat} (hm : m < n) : w.cell? ⟨g, m, none⟩ = some (.int .u32 (F m)) := by
  obtain ⟨cs, h1, _, h2⟩ := h
  rw [h1.cell]
  exact h2 m hm
theorem Col.congr {w : World} {g n : Nat} {F G : Nat → Int} (h : Col w g n F) (e : ∀ m, m < n → F m = G m) : Col w g n G := by
  obtain ⟨cs, h1, h2, h3⟩ := h
  exact ⟨cs, h1, h2, fun m hm => by rw [← e m hm]; exact h3 m hm⟩
/-- The first k places of a block of n cells are F's. -/
def Part (w : World) (g t n k : Nat) (F : Nat → Value) : Prop :=
  ∃ cs : Array Value, Blk w g t cs ∧ cs.size = n ∧ ∀ m, m < k → cs[m]? = some (F m)
theorem Part.below {w w' : World} {g t n k B : Nat} {F : Nat → Value} (h : Part w g t n k F) (hb : Below B w w') (hg : g < B) : Part w' g t n k F := by
  obtain ⟨cs, h1, h2⟩ := h
  exact ⟨cs, h1.below hb hg, h2⟩
theorem Part.old {w : World} {g t n k : Nat} {F : Nat → Value} (h : Part w g t n k F) {m : Nat} (hm : m < n) : ∃ v, w.cell? ⟨g, m, none⟩ = some v := by
  obtain ⟨cs, h1, h2, _⟩ := h
  exact ⟨cs[m]'(by omega), by rw [h1.cell, Array.getElem?_eq_getElem]⟩
theorem Part.frozen {w : World} {g t n k : Nat} {F : Nat → Value} (h : Part w g t n k F) (m : Nat) : w.frozen? ⟨g, m, none⟩ = false := by
  obtain ⟨cs, h1, h2, _⟩ := h
  exact h1.frozen m
theorem Part.set {w : World} {g t n k : Nat} {F : Nat → Value} (h : Part w g t n k F) (hk : k < n) : Part (w.setCell ⟨g, k, none⟩ (F k)) g t n (k + 1) F := by
  obtain ⟨cs, h1, h2, h3⟩ := h
  refine ⟨_, h1.set_ _ _, by simpa using h2, fun m hm => ?_⟩
  rw [Array.getElem?_setIfInBounds]
  by_cases e : k = m
  · subst e; rw [if_pos rfl, if_pos (by omega)]
  · rw [if_neg e]; exact h3 m (by omega)
theorem Part.far {w : World} {g t n k : Nat} {F : Nat → Value} (h : Part w g t n k F) {p : Addr} (hp : g ≠ p.block) (u : Value) : Part (w.setCell p u) g t n k F := by
  obtain ⟨cs, h1, h2⟩ := h
  exact ⟨cs, h1.far hp u, h2⟩
theorem Part.drew {w : World} {g t n k : Nat} {F : Nat → Value} (h : Part w g t n k F) : Part w.drew g t n k F := h
theorem Part.alloc {w : World} {g t n k : Nat} {F : Nat → Value} (h : Part w g t n k F) (o : Obj) : Part (w.alloc o) g t n k F := by
  obtain ⟨cs, h1, h2⟩ := h
  exact ⟨cs, h1.alloc o, h2⟩
theorem Part.new (w : World) (t n : Nat) (cs : Array Value) (h : cs.size = n) (F : Nat → Value) : Part (w.alloc (.cells cs t)) w.heap.size t n 0 F :=
  ⟨cs, Blk.new w t cs, h, fun m hm => by omega⟩
theorem Part.col {w : World} {g n : Nat} {F : Nat → Int} (h : Part w g 22 n n (fun m => .int .u32 (F m))) : Col w g n F := h
/-- Two columns beside each other in one row of cells. -/
def twin (F G : Nat → Int) (m : Nat) : Value := .int .u32 (if m % 2 = 0 then F (m / 2) else G (m / 2))
theorem Part.pairs {w : World} {g n : Nat} {F G : Nat → Int} (h : Part w g 31 (2 * n) (2 * n) (twin F G)) : Pairs w g n F G := by
  obtain ⟨cs, h1, h2, h3⟩ := h
  refine ⟨cs, h1, h2, fun m hm => ⟨?_, ?_⟩⟩
  · rw [h3 _ (by omega), twin, if_pos (by omega)]; congr 3; omega
  · rw [h3 _ (by omega), twin, if_neg (by omega)]; congr 3; omega
theorem twin_step {w : World} {g n k : Nat} {F G : Nat → Int} (hp : Part w g 31 (2 * n) (2 * k) (twin F G)) (hlt : k < n) :
    Part ((w.setCell ⟨g, k * 2, none⟩ (.int .u32 (F k))).setCell ⟨g, k * 2 + 1, none⟩ (.int .u32 (G k))) g 31 (2 * n) (2 * (k + 1)) (twin F G) := by
  have e0 : twin F G (2 * k) = .int .u32 (F k) := by rw [twin, if_pos (by omega)]; congr 2; omega
  have e1 : twin F G (2 * k + 1) = .int .u32 (G k) := by rw [twin, if_neg (by omega)]; congr 2; omega
  have := (hp.set (by omega)).set (by omega)
  rw [e0, e1] at this
  rw [Nat.mul_comm k 2]
  exact this
theorem Pairs.alloc {w : World} {g n : Nat} {F G : Nat → Int} (h : Pairs w g n F G) (o : Obj) : Pairs (w.alloc o) g n F G := by
  obtain ⟨cs, h1, h2⟩ := h
  exact ⟨cs, h1.alloc o, h2⟩
theorem Pairs.far {w : World} {g n : Nat} {F G : Nat → Int} (h : Pairs w g n F G) {p : Addr} (hp : g ≠ p.block) (u : Value) : Pairs (w.setCell p u) g n F G := by
  obtain ⟨cs, h1, h2⟩ := h
  exact ⟨cs, h1.far hp u, h2⟩

theorem info31 : (Try.prog.info? 31).map (fun i => (i.zero, i.size, i.bytes)) = some (some (.agg #[.int .u32 0, .int .u32 0]), 2, 8) := by kernel_rfl
theorem info22 : (Try.prog.info? 22).map (fun i => (i.zero, i.size, i.bytes)) = some (some (.int .u32 0), 1, 4) := by kernel_rfl
theorem size_made (z : Array Value) (n : Nat) : (madeCells z n).size = n := by simp [madeCells]

/-- What ZZslotSwap hands back. -/
def SwqPost (w : World) (n : Nat) (F G : Nat → Int) (e : Ending) (w' : World) : Prop :=
  ∃ g h, e = .returned (.tuple #[.slice (some ⟨g, 0, none⟩) n n, .slice (some ⟨h, 0, none⟩) n n]) ∧ Col w' g n F ∧ Col w' h n G ∧ Below w.heap.size w w'
def SwqRel1 (w : World) (n : Nat) (F G : Nat → Int) (i : Value) (wr : World) : Prop :=
  ∃ k : Nat, i = .int .i64 k ∧ k ≤ n ∧ Part wr w.heap.size 31 (2 * n) (2 * k) (twin F G) ∧ Below w.heap.size w wr
def SwqRel2 (w : World) (B n : Nat) (F G : Nat → Int) (i : Value) (wr : World) : Prop :=
  ∃ k : Nat, i = .int .i64 k ∧ k ≤ n ∧ Pairs wr w.heap.size n F G ∧ Part wr B 22 n k (fun m => .int .u32 (F m)) ∧ Part wr (B + 1) 22 n k (fun m => .int .u32 (G m)) ∧ Below w.heap.size w wr
set_option maxHeartbeats 2000000 in
set_option maxRecDepth 100000 in
theorem swq_any (gs gc n : Nat) (F G : Nat → Int) (i j : Nat) (hi : i < n) (hj : j < n) (hn : n ≤ 16777216) (w : World) (hs : Col w gs n F) (hc : Col w gc n G) :
    Calls Try.prog 8 #[.slice (some ⟨gs, 0, none⟩) n n, .slice (some ⟨gc, 0, none⟩) n n, .int .i64 i, .int .i64 j] w (SwqPost w n (exch F i j) (exch G i j)) := by
  obtain ⟨i1, hi1, hz0, hz1, hz2⟩ := info_parts info31
  obtain ⟨i2, hi2, hy0, hy1, hy2⟩ := info_parts info22
  have hmk : ∀ W : World, (Instr.makeSlice 33 (.int .i64 (n : Int)) (.int .i64 (n : Int))).run Try.prog W = .ok (.slice (some ⟨W.heap.size, 0, none⟩) n n) (W.alloc (.cells (madeCells #[.int .u32 0, .int .u32 0] (n * 2)) 31)) := fun W => by
    have := run_make (P := Try.prog) W 33 31 i1 (.agg #[.int .u32 0, .int .u32 0]) Try.underlying33 hi1 hz0 .i64 .i64 n n (by omega) (by omega) (by rw [hz2]; omega) (by omega)
    simpa [hz1, Value.cells] using this
  have hmk2 : ∀ W : World, (Instr.makeSlice 25 (.int .i64 (n : Int)) (.int .i64 (n : Int))).run Try.prog W = .ok (.slice (some ⟨W.heap.size, 0, none⟩) n n) (W.alloc (.cells (madeCells #[.int .u32 0] n) 22)) := fun W => by
    have := run_make (P := Try.prog) W 25 22 i2 (.int .u32 0) Try.underlying25 hi2 hy0 .i64 .i64 n n (by omega) (by omega) (by rw [hy2]; omega) (by omega)
    simpa [hy1, Value.cells] using this
  have H0 := Lib.hid (Part.new w 31 (2 * n) (madeCells #[.int .u32 0, .int .u32 0] (n * 2)) (by rw [size_made]; omega) (twin F G))
  have HS := Lib.hid hs; have HC := Lib.hid hc
  have ls := hs.lt
  have lc := hc.lt
  clear hs hc
  go_enter Try.func8, Try.ntmps8
  go_wp2
  clear hmk
  go_loopw [11] (fun i wr => SwqRel1 w n F G i wr) (fun i _ => n - (intOf i).toNat)
  case atStart => exact ⟨0, rfl, by omega, H0.out, (Below.refl _ _).alloc (Nat.le_refl _) _⟩
  case round =>
    obtain ⟨k, rfl, hk, hp, hb⟩ := hrel
    have hsz := hb.size
    by_cases hlt : k < n
    · have c1 := (HS.out.below hb ls).cell hlt
      have c2 := (HC.out.below hb lc).cell hlt
      obtain ⟨v0, d0⟩ := hp.old (show k * 2 < 2 * n by omega)
      obtain ⟨v1, d1⟩ := hp.old (show k * 2 + 1 < 2 * n by omega)
      have z0 := hp.frozen (k * 2)
      have z1 := hp.frozen (k * 2 + 1)
      have hnx := twin_step hp hlt
      have hbx : Below w.heap.size w ((wr.setCell ⟨w.heap.size, k * 2, none⟩ (.int .u32 (F k))).setCell ⟨w.heap.size, k * 2 + 1, none⟩ (.int .u32 (G k))) :=
        (hb.setCell (p := ⟨w.heap.size, _, none⟩) (Nat.le_refl _) _).setCell (p := ⟨w.heap.size, _, none⟩) (Nat.le_refl _) _
      have HNX := Lib.hid hnx; have HBX := Lib.hid hbx
      clear hnx hbx hp
      have hb1 := hb.size
      have l1 : gs < wr.heap.size := by omega
      go_wp2
      go_region
      go_wp2
      go_roundw
      case rel => exact ⟨k + 1, by go_num, by omega, HNX.out.drew, HBX.out.drew⟩
      case measure => simp [intOf]; omega
    · obtain rfl : n = k := by omega
      have hP := Lib.hid hp.pairs
      have HB := Lib.hid hb
      clear hp hb
      go_wp2_with (go_at_call 10; refine (swap_any w.heap.size n n F G i j hi hj hn _ hP.out w.heap.size (Nat.le_refl _)).mono ?_)
      rintro e w1 ⟨rfl, hp1, hb1⟩
      have HP1 := Lib.hid hp1; have HB1 := Lib.hid (HB.out.trans hb1)
      have hs1 := HB1.out.size
      have hl1 : w.heap.size < w1.heap.size := by obtain ⟨cs, hx, _⟩ := hp1; exact hx.lt
      clear hp1 hb1
      have Q1 := Lib.hid (Part.new w1 22 n (madeCells #[.int .u32 0] n) (size_made _ _) (fun m => .int .u32 (exch F i j m)))
      have Q2 := Lib.hid (Part.new (w1.alloc (.cells (madeCells #[.int .u32 0] n) 22)) 22 n (madeCells #[.int .u32 0] n) (size_made _ _) (fun m => .int .u32 (exch G i j m)))
      go_wp2
      clear hmk2
      go_loopw [14] (fun t wr => SwqRel2 w w1.heap.size n (exch F i j) (exch G i j) t wr) (fun t _ => n - (intOf t).toNat)
      case atStart => exact ⟨0, rfl, by omega, (HP1.out.alloc _).alloc _, Q1.out.alloc _, by simpa using Q2.out, (HB1.out.alloc (by omega) _).alloc (by simp; omega) _⟩
      case round =>
        obtain ⟨m, rfl, hm, hp, hA, hB, hb⟩ := hrel
        by_cases hlt : m < n
        · obtain ⟨p0, p1⟩ := hp.cell hlt
          obtain ⟨v0, d0⟩ := hA.old hlt
          obtain ⟨v1, d1⟩ := hB.old hlt
          have z0 := hA.frozen m
          have z1 := hB.frozen m
          have HNA := Lib.hid (((hA.set hlt).far (p := ⟨w1.heap.size + 1, m, none⟩) (by simp) (.int .u32 (exch G i j m))))
          have HNB := Lib.hid ((hB.far (p := ⟨w1.heap.size, m, none⟩) (by simp) (.int .u32 (exch F i j m))).set hlt)
          have HNP := Lib.hid ((hp.far (p := ⟨w1.heap.size, m, none⟩) (by simp; omega) (.int .u32 (exch F i j m))).far (p := ⟨w1.heap.size + 1, m, none⟩) (by simp; omega) (.int .u32 (exch G i j m)))
          have HBX := Lib.hid ((hb.setCell (p := ⟨w1.heap.size, m, none⟩) (by simp; omega) (.int .u32 (exch F i j m))).setCell (p := ⟨w1.heap.size + 1, m, none⟩) (by simp; omega) (.int .u32 (exch G i j m)))
          clear hp hA hB hb
          go_wp2
          go_roundw
          case rel => exact ⟨m + 1, by go_num, by omega, HNP.out, HNA.out, HNB.out, HBX.out⟩
          case measure => simp [intOf]; omega
        · obtain rfl : m = n := by omega
          have HA := Lib.hid hA; have HB' := Lib.hid hB; have HBL := Lib.hid hb
          clear hp hA hB hb
          go_wp2
          go_ret2
          exact ⟨_, _, rfl, HA.out.col, HB'.out.col, HBL.out⟩
end Go.Proofs.Ytenpbcaoelnamaa
