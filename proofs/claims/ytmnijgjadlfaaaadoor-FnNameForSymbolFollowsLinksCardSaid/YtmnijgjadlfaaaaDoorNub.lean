/- Tables of plain symbols, the reserved map, NewNumberRenamer and NameForSymbol. -/
import Derived.Test.YtmnijgjadlfaaaaDoorNum
namespace Go.Proofs.YtmnijgjadlfaaaaDoor
open Go.RowKit Go.Maps Go.WideMaps
set_option linter.unusedVariables false
set_option linter.unusedSimpArgs false

theorem Syms.snoc {w : World} {g n k : Nat} {nm : Nat → ByteArray} {la lb : Nat → Int} (h : Syms w g n k nm la lb) (hk : k < n) (x : ByteArray) (a b : Int) (hx : nm k = x) (ha : la k = a) (hb : lb k = b) :
    Syms ((((((((((w.setCell ⟨g, k * 10, none⟩ (.pointer none)).setCell ⟨g, k * 10 + 1, none⟩ (.string x)).setCell ⟨g, k * 10 + 2, none⟩ (.int .u32 a)).setCell ⟨g, k * 10 + 3, none⟩ (.int .u32 b)).setCell ⟨g, k * 10 + 4, none⟩ (.int .u32 0)).setCell ⟨g, k * 10 + 5, none⟩ (.int .u32 0)).setCell ⟨g, k * 10 + 6, none⟩ (.int .u32 0)).setCell ⟨g, k * 10 + 7, none⟩ (.int .u16 0)).setCell ⟨g, k * 10 + 8, none⟩ (.int .u8 0)).setCell ⟨g, k * 10 + 9, none⟩ (.int .u8 0)) g n (k + 1) nm la lb := by
  subst hx; subst ha; subst hb
  obtain ⟨cs, h1, h2, h3⟩ := h
  refine ⟨_, ((((((((((h1.set_ _ _).set_ _ _).set_ _ _).set_ _ _).set_ _ _).set_ _ _).set_ _ _).set_ _ _).set_ _ _).set_ _ _), by simpa using h2, fun m hm => ?_⟩
  simp only [Array.getElem?_setIfInBounds, Array.size_setIfInBounds, h2]
  by_cases e : m = k
  · subst e
    refine ⟨?_, ?_, ?_⟩
    · rw [if_neg (by omega), if_neg (by omega), if_neg (by omega), if_neg (by omega), if_neg (by omega), if_neg (by omega), if_neg (by omega), if_neg (by omega), if_pos rfl, if_pos (by omega)]
    · rw [if_neg (by omega), if_neg (by omega), if_neg (by omega), if_neg (by omega), if_neg (by omega), if_neg (by omega), if_neg (by omega), if_pos rfl, if_pos (by omega)]
    · rw [if_neg (by omega), if_neg (by omega), if_neg (by omega), if_neg (by omega), if_neg (by omega), if_neg (by omega), if_pos rfl, if_pos (by omega)]
  · have hc := h3 m (by omega)
    refine ⟨?_, ?_, ?_⟩
    · rw [if_neg (by omega), if_neg (by omega), if_neg (by omega), if_neg (by omega), if_neg (by omega), if_neg (by omega), if_neg (by omega), if_neg (by omega), if_neg (by omega), if_neg (by omega)]; exact hc.1
    · rw [if_neg (by omega), if_neg (by omega), if_neg (by omega), if_neg (by omega), if_neg (by omega), if_neg (by omega), if_neg (by omega), if_neg (by omega), if_neg (by omega), if_neg (by omega)]; exact hc.2.1
    · rw [if_neg (by omega), if_neg (by omega), if_neg (by omega), if_neg (by omega), if_neg (by omega), if_neg (by omega), if_neg (by omega), if_neg (by omega), if_neg (by omega), if_neg (by omega)]; exact hc.2.2

def InvPost (w : World) (e : Ending) (w' : World) : Prop := e = .returned (.agg #[.int .u32 4294967295, .int .u32 4294967295]) ∧ w.grownBy w' none
set_option maxRecDepth 100000 in
theorem invRef (w : World) : Calls Tryd.prog 15 #[] w (InvPost w) := by
  have hfin : ∀ W : World, W = w.alloc (.cells #[.int .u32 4294967295, .int .u32 4294967295] 38) → Blk W w.heap.size 38 #[.int .u32 4294967295, .int .u32 4294967295] ∧ w.grownBy W none := fun W hW => by
    subst hW; exact ⟨Blk.new _ _ _, only_alloc (World.grownBy.refl _ _) _⟩
  have HF := Lib.hid hfin
  clear hfin
  go_enter Tryd.func15, Tryd.ntmps15
  go_wp2
  obtain ⟨r1, r2⟩ := HF.out _ rfl
  (try simp only [Exit.inBlock, Exit.then])
  refine bodyPost_ret (results_cell_row rfl _ _ w.heap.size 38 #[.int .u32 4294967295, .int .u32 4294967295] (0, 0) _ rfl r1 Tryd.underlying38 rfl ref_size) rfl ?_
  exact ⟨rfl, r2⟩
def z52 : Value := .agg #[.pointer none, .string ⟨#[]⟩, .int .u32 0, .int .u32 0, .int .u32 0, .int .u32 0, .int .u32 0, .int .u16 0, .int .u8 0, .int .u8 0]
theorem sym_info : (Tryd.prog.info? 52).map (fun i => (i.zero, i.size, i.bytes)) = some (some z52, 10, 48) := by kernel_rfl
def mk52 (n : Nat) : Array Value := madeCells z52.cells (n * 10)
theorem made52 (n : Nat) : (mk52 n).size = n * 10 := by simp [mk52, madeCells, z52, Value.cells]
def PlainPost (w : World) (n : Nat) (ss : List ByteArray) (e : Ending) (w' : World) : Prop :=
  ∃ g, e = .returned (.slice (some ⟨g, 0, none⟩) n n) ∧ w.heap.size ≤ g ∧ Syms w' g n n (fun m => ss.getD m ByteArray.empty) (fun _ => 4294967295) (fun _ => 4294967295) ∧ Below w.heap.size w w'
set_option maxHeartbeats 2000000 in
set_option maxRecDepth 100000 in
theorem plain (A : Option Addr) (n c : Nat) (ss : List ByteArray) (w : World) (h : Lv.ok w w.heap.size ⟨A, n, c, ss⟩) (hn : n ≤ 16777216) : Calls Tryd.prog 8 #[.slice A n c] w (PlainPost w n ss) := by
  obtain ⟨i0, hi, hz0, hz1, hz2⟩ := info_parts sym_info
  have hmk : ∀ W : World, (Instr.makeSlice 26 (.int .i64 (n : Int)) (.int .i64 (n : Int))).run Tryd.prog W = .ok (.slice (some ⟨W.heap.size, 0, none⟩) n n) (W.alloc (.cells (mk52 n) 52)) := fun W => by
    have := run_make (P := Tryd.prog) W 26 52 i0 z52 Tryd.underlying26 hi hz0 .i64 .i64 n n (by omega) (by omega) (by rw [hz2]; omega) (by omega)
    simpa [hz1, mk52] using this
  have hS0 : Syms (w.alloc (.cells (mk52 n) 52)) w.heap.size n 0 (fun m => ss.getD m ByteArray.empty) (fun _ => 4294967295) (fun _ => 4294967295) := ⟨_, Blk.new _ _ _, made52 n, fun m hm => by omega⟩
  have HS0 := Lib.hid hS0; have H := Lib.hid h
  have hlen : ss.length = n := h.2.2.2.1
  have HLEN := Lib.hid hlen
  clear hS0 h hlen
  go_enter Tryd.func8, Tryd.ntmps8
  go_wp2
  clear hmk
  go_loopw [4] (fun t wr => ∃ k : Nat, t = .int .i64 k ∧ k ≤ n ∧ Syms wr w.heap.size n k (fun m => ss.getD m ByteArray.empty) (fun _ => 4294967295) (fun _ => 4294967295) ∧ Below w.heap.size w wr) (fun t _ => n - (intOf t).toNat)
  case atStart => exact ⟨0, rfl, by omega, HS0.out, (Below.refl _ _).alloc (Nat.le_refl _) _⟩
  case round =>
    obtain ⟨k, rfl, hk, hp, hb⟩ := hrel
    by_cases hlt : k < n
    · obtain ⟨b, off, e1, hbk, hc⟩ := reads_any (H.out.1.below hb) (by show 0 < n; omega)
      simp only at e1
      subst e1
      obtain ⟨x, hx⟩ : ∃ x, ss[k]? = some x := ⟨_, List.getElem?_eq_getElem (by have := HLEN.out; omega)⟩
      have hc1 := hc k x hx
      have hxx : ss.getD k ByteArray.empty = x := by rw [List.getD_eq_getElem?_getD, hx]; rfl
      have hbl : b < wr.heap.size := Nat.lt_of_lt_of_le hbk hb.size
      obtain ⟨v0, d0⟩ := hp.old (show k * 10 < n * 10 by omega)
      have z0 := hp.frozen (k * 10)
      obtain ⟨v1, d1⟩ := hp.old (show k * 10 + 1 < n * 10 by omega)
      have z1 := hp.frozen (k * 10 + 1)
      obtain ⟨v2, d2⟩ := hp.old (show k * 10 + 2 < n * 10 by omega)
      have z2 := hp.frozen (k * 10 + 2)
      obtain ⟨v3, d3⟩ := hp.old (show k * 10 + 3 < n * 10 by omega)
      have z3 := hp.frozen (k * 10 + 3)
      obtain ⟨v4, d4⟩ := hp.old (show k * 10 + 4 < n * 10 by omega)
      have z4 := hp.frozen (k * 10 + 4)
      obtain ⟨v5, d5⟩ := hp.old (show k * 10 + 5 < n * 10 by omega)
      have z5 := hp.frozen (k * 10 + 5)
      obtain ⟨v6, d6⟩ := hp.old (show k * 10 + 6 < n * 10 by omega)
      have z6 := hp.frozen (k * 10 + 6)
      obtain ⟨v7, d7⟩ := hp.old (show k * 10 + 7 < n * 10 by omega)
      have z7 := hp.frozen (k * 10 + 7)
      obtain ⟨v8, d8⟩ := hp.old (show k * 10 + 8 < n * 10 by omega)
      have z8 := hp.frozen (k * 10 + 8)
      obtain ⟨v9, d9⟩ := hp.old (show k * 10 + 9 < n * 10 by omega)
      have z9 := hp.frozen (k * 10 + 9)

      have hcell : ∀ W1 : World, wr.grownBy W1 none → ∀ j v, wr.cell? ⟨w.heap.size, j, none⟩ = some v → W1.cell? ⟨w.heap.size, j, none⟩ = some v ∧ W1.frozen? ⟨w.heap.size, j, none⟩ = false := fun W1 hg1 j v hv =>
        ⟨(World.cell?_of_block (hg1.block w.heap.size hp.lt (by simp))).trans hv, (hp.grown hg1 (by simp)).frozen _⟩
      have hnam : ∀ W1 : World, wr.grownBy W1 none → W1.cell? ⟨b, off + k, none⟩ = some (.string x) := fun W1 hg1 => (World.cell?_of_block (hg1.block b hbl (by simp))).trans hc1
      have hfin : ∀ W0 W : World, wr.grownBy W0 none → (W = ((((((((((W0.setCell ⟨w.heap.size, k * 10, none⟩ (.pointer none)).setCell ⟨w.heap.size, k * 10 + 1, none⟩ (.string x)).setCell ⟨w.heap.size, k * 10 + 2, none⟩ (.int .u32 4294967295)).setCell ⟨w.heap.size, k * 10 + 3, none⟩ (.int .u32 4294967295)).setCell ⟨w.heap.size, k * 10 + 4, none⟩ (.int .u32 0)).setCell ⟨w.heap.size, k * 10 + 5, none⟩ (.int .u32 0)).setCell ⟨w.heap.size, k * 10 + 6, none⟩ (.int .u32 0)).setCell ⟨w.heap.size, k * 10 + 7, none⟩ (.int .u16 0)).setCell ⟨w.heap.size, k * 10 + 8, none⟩ (.int .u8 0)).setCell ⟨w.heap.size, k * 10 + 9, none⟩ (.int .u8 0)) ∨ W = ((((((((((W0.setCell ⟨w.heap.size, k * 10, none⟩ (.pointer none)).setCell ⟨w.heap.size, k * 10 + 1, none⟩ (.string x)).setCell ⟨w.heap.size, k * 10 + 2, none⟩ (.int .u32 4294967295)).setCell ⟨w.heap.size, k * 10 + 3, none⟩ (.int .u32 4294967295)).setCell ⟨w.heap.size, k * 10 + 4, none⟩ (.int .u32 0)).setCell ⟨w.heap.size, k * 10 + 5, none⟩ (.int .u32 0)).setCell ⟨w.heap.size, k * 10 + 6, none⟩ (.int .u32 0)).setCell ⟨w.heap.size, k * 10 + 7, none⟩ (.int .u16 0)).setCell ⟨w.heap.size, k * 10 + 8, none⟩ (.int .u8 0)).setCell ⟨w.heap.size, k * 10 + 9, none⟩ (.int .u8 0)).drew) →
          Syms W w.heap.size n (k + 1) (fun m => ss.getD m ByteArray.empty) (fun _ => 4294967295) (fun _ => 4294967295) ∧ Below w.heap.size w W := fun W0 W hg hW => by
        have hp0 := hp.grown hg (by simp)
        have hb0 : Below w.heap.size w W0 := hb.grown hg hb.size (fun k hk => by cases hk)
        rcases hW with rfl | rfl
        · exact ⟨hp0.snoc hlt x 4294967295 4294967295 hxx rfl rfl, ((((((((((hb0.setCell (p := ⟨w.heap.size, _, none⟩) (Nat.le_refl _) _).setCell (p := ⟨w.heap.size, _, none⟩) (Nat.le_refl _) _).setCell (p := ⟨w.heap.size, _, none⟩) (Nat.le_refl _) _).setCell (p := ⟨w.heap.size, _, none⟩) (Nat.le_refl _) _).setCell (p := ⟨w.heap.size, _, none⟩) (Nat.le_refl _) _).setCell (p := ⟨w.heap.size, _, none⟩) (Nat.le_refl _) _).setCell (p := ⟨w.heap.size, _, none⟩) (Nat.le_refl _) _).setCell (p := ⟨w.heap.size, _, none⟩) (Nat.le_refl _) _).setCell (p := ⟨w.heap.size, _, none⟩) (Nat.le_refl _) _).setCell (p := ⟨w.heap.size, _, none⟩) (Nat.le_refl _) _)⟩
        · exact ⟨(hp0.snoc hlt x 4294967295 4294967295 hxx rfl rfl).drew, ((((((((((hb0.setCell (p := ⟨w.heap.size, _, none⟩) (Nat.le_refl _) _).setCell (p := ⟨w.heap.size, _, none⟩) (Nat.le_refl _) _).setCell (p := ⟨w.heap.size, _, none⟩) (Nat.le_refl _) _).setCell (p := ⟨w.heap.size, _, none⟩) (Nat.le_refl _) _).setCell (p := ⟨w.heap.size, _, none⟩) (Nat.le_refl _) _).setCell (p := ⟨w.heap.size, _, none⟩) (Nat.le_refl _) _).setCell (p := ⟨w.heap.size, _, none⟩) (Nat.le_refl _) _).setCell (p := ⟨w.heap.size, _, none⟩) (Nat.le_refl _) _).setCell (p := ⟨w.heap.size, _, none⟩) (Nat.le_refl _) _).setCell (p := ⟨w.heap.size, _, none⟩) (Nat.le_refl _) _).drew⟩
      have HFIN := Lib.hid hfin; have HCELL := Lib.hid hcell; have HNAM := Lib.hid hnam
      clear hfin hcell hnam hp hb hx hc hxx
      go_wp2
      go_region_with (go_at_call 15; refine (invRef _).mono ?_; rintro e w1 ⟨rfl, hg1⟩; have hg : wr.grownBy w1 none := ⟨hg1.os, hg1.tape, hg1.output, hg1.size, hg1.block⟩; have nmc := HNAM.out w1 hg; have e0 := HCELL.out w1 hg (k * 10) v0 d0; have e1 := HCELL.out w1 hg (k * 10 + 1) v1 d1; have e2 := HCELL.out w1 hg (k * 10 + 2) v2 d2; have e3 := HCELL.out w1 hg (k * 10 + 3) v3 d3; have e4 := HCELL.out w1 hg (k * 10 + 4) v4 d4; have e5 := HCELL.out w1 hg (k * 10 + 5) v5 d5; have e6 := HCELL.out w1 hg (k * 10 + 6) v6 d6; have e7 := HCELL.out w1 hg (k * 10 + 7) v7 d7; have e8 := HCELL.out w1 hg (k * 10 + 8) v8 d8; have e9 := HCELL.out w1 hg (k * 10 + 9) v9 d9; obtain ⟨y0, yf0⟩ := e0; obtain ⟨y1, yf1⟩ := e1; obtain ⟨y2, yf2⟩ := e2; obtain ⟨y3, yf3⟩ := e3; obtain ⟨y4, yf4⟩ := e4; obtain ⟨y5, yf5⟩ := e5; obtain ⟨y6, yf6⟩ := e6; obtain ⟨y7, yf7⟩ := e7; obtain ⟨y8, yf8⟩ := e8; obtain ⟨y9, yf9⟩ := e9; have HG := Lib.hid hg; clear hg hg1)
      all_goals
        go_wp2
        go_roundw
        case rel => exact ⟨k + 1, by go_num, by omega, (HFIN.out w1 _ HG.out (by first | exact Or.inl rfl | exact Or.inr rfl)).1, (HFIN.out w1 _ HG.out (by first | exact Or.inl rfl | exact Or.inr rfl)).2⟩
        case measure => simp [intOf]; omega
    · obtain rfl : n = k := by omega
      have HP := Lib.hid hp; have HB := Lib.hid hb
      clear hp hb
      go_wp2
      go_ret
      exact ⟨_, rfl, Nat.le_refl _, HP.out, HB.out⟩
theorem law9 : Keyed Tryd.prog 9 := string_keyed Tryd.underlying9
def ResPost (w : World) (e : Ending) (w' : World) : Prop := ∃ mo, e = .returned (.map mo) ∧ Below w.heap.size w w'
set_option maxHeartbeats 1000000 in
set_option maxRecDepth 100000 in
theorem reserved (A : Option Addr) (n c : Nat) (ss : List ByteArray) (w : World) (h : Lv.ok w w.heap.size ⟨A, n, c, ss⟩) (hn : n ≤ 16777216) : Calls Tryd.prog 10 #[.slice A n c] w (ResPost w) := by
  have H := Lib.hid h
  have hlen : ss.length = n := h.2.2.2.1
  have HLEN := Lib.hid hlen
  clear h hlen
  have hmm : ∀ W : World, (Instr.makeMap 33 (some (.int .i64 (n : Int)))).run Tryd.prog W = .ok (.map (some W.heap.size)) (W.alloc (.map #[] 0)) := fun W => by
    first | rfl | (simp [Instr.makeMap]; done) | (simp [Instr.makeMap]; omega)
  go_enter Tryd.func10, Tryd.ntmps10
  go_wp2
  clear hmm
  go_loopw [4] (fun t wr => ∃ (k : Nat) (D : DataW Unit), t = .int .i64 k ∧ k ≤ n ∧ wr.ownsMap (H := Unit) Tryd.prog 9 (plainElem Tryd.prog 36) w.heap.size k D ∧ Below w.heap.size w wr) (fun t _ => n - (intOf t).toNat)
  case atStart => exact ⟨0, .map [], rfl, by omega, World.ownsMap_made _ _ _ _, (Below.refl _ _).alloc (Nat.le_refl _) _⟩
  case round =>
    obtain ⟨k, D, rfl, hk, hown, hb⟩ := hrel
    have HB := Lib.hid hb
    by_cases hlt : k < n
    · obtain ⟨b2, off2, e2, hbl, hc2⟩ := reads_any (H.out.1.below HB.out) (by show 0 < n; omega)
      simp only at e2
      subst e2
      obtain ⟨x, hx⟩ : ∃ x, ss[k]? = some x := ⟨_, List.getElem?_eq_getElem (by have := HLEN.out; omega)⟩
      have c2 := hc2 k x hx
      have hxs : x.size ≤ maxLen := H.out.2.2.2.2 x (List.mem_of_getElem? hx)
      have hkey := keyOf_string_mk Tryd.underlying9 hxs
      clear hc2 hx hb
      go_wp2_with (at_mapUpdate; refine wpList_mapUpdate_own _ rfl _ _ _ 33 rfl 9 36 law9 Tryd.underlying33 (plainElem (H := Unit) Tryd.prog 36) w.heap.size k _ rfl hown (by unfold maxLen; omega) _ _ _ rfl rfl hkey _ [] (plainElem_int Tryd.underlying36 (by decide)) ?_)
      intro w1 hown1 hgrow1
      have HB1 := Lib.hid (HB.out.grown hgrow1 HB.out.size (fun j hj => by cases hj; exact Nat.le_refl _))
      clear hgrow1
      go_wp2
      go_roundw
      case rel => exact ⟨k + 1, _, by go_num, by omega, hown1, HB1.out⟩
      case measure => simp [intOf]; omega
    · obtain rfl : n = k := by omega
      clear hown hb
      go_wp2
      go_ret
      exact ⟨_, rfl, HB.out⟩
/-- A renamer: its symbols' outer row, its table of given names (all nil). -/
structure Ren (w : World) (br o N c : Nat) (mo : Option Nat) (bn : Nat) : Prop where
  blk : Blk w br 58 #[.slice (some ⟨o, 0, none⟩) N c, .pointer none, .map mo, .slice (some ⟨bn, 0, none⟩) N N]
  lt : bn < w.heap.size
  nms : ∀ s, s < N → w.cell? ⟨bn, s, none⟩ = some (.slice none 0 0)
theorem Ren.grown {w w' : World} {br o N c bn : Nat} {mo : Option Nat} {row : Option Nat} (h : Ren w br o N c mo bn) (hb : w.grownBy w' row) (h1 : some br ≠ row) (h2 : some bn ≠ row) : Ren w' br o N c mo bn :=
  ⟨h.blk.grown hb h1, Nat.lt_of_lt_of_le h.lt hb.size, fun s hs => (World.cell?_of_block (hb.block bn h.lt h2)).trans (h.nms s hs)⟩
theorem nil_info : (Tryd.prog.info? 22).map (fun i => (i.zero, i.size, i.bytes)) = some (some (.slice none 0 0), 1, 24) := by kernel_rfl
def mkN (n : Nat) : Array Value := madeCells #[.slice none 0 0] n
def NewRPost (w : World) (o N c : Nat) (mo : Option Nat) (e : Ending) (w' : World) : Prop :=
  ∃ br bn, e = .returned (.pointer (some ⟨br, 0, none⟩)) ∧ Ren w' br o N c mo bn ∧ w.heap.size ≤ br ∧ w.heap.size ≤ bn ∧ w.grownBy w' none
set_option maxHeartbeats 1000000 in
set_option maxRecDepth 100000 in
theorem newR (o N c : Nat) (mo : Option Nat) (w : World) (hN : N ≤ 4096) : Calls Tryd.prog 9 #[.agg #[.slice (some ⟨o, 0, none⟩) N c], .map mo] w (NewRPost w o N c mo) := by
  obtain ⟨i0, hi, hz0, hz1, hz2⟩ := info_parts nil_info
  have hmk : ∀ W : World, (Instr.makeSlice 53 (.int .i64 (N : Int)) (.int .i64 (N : Int))).run Tryd.prog W = .ok (.slice (some ⟨W.heap.size, 0, none⟩) N N) (W.alloc (.cells (mkN N) 22)) := fun W => by
    have := run_make (P := Tryd.prog) W 53 22 i0 (.slice none 0 0) Tryd.underlying53 hi hz0 .i64 .i64 N N (by omega) (by omega) (by rw [hz2]; omega) (by omega)
    simpa [hz1, Value.cells, mkN] using this
  have HMN := Lib.hid (show ∀ s, s < N → (mkN N)[s]? = some (.slice none 0 0) by intro s hs; simp [mkN, madeCells, hs, Nat.mod_one])
  go_enter Tryd.func9, Tryd.ntmps9
  have hfin : ∀ W : World, W = (((w.alloc (.cells #[.slice (some ⟨o, 0, none⟩) N c] 30)).alloc (.cells (mkN N) 22)).alloc (.cells #[.slice (some ⟨o, 0, none⟩) N c, .pointer none, .map mo, .slice (some ⟨w.heap.size + 1, 0, none⟩) N N] 58)).drew →
      Ren W (w.heap.size + 1 + 1) o N c mo (w.heap.size + 1) ∧ w.grownBy W none := fun W hW => by
    subst hW
    have hb1 : Blk (((w.alloc (.cells #[.slice (some ⟨o, 0, none⟩) N c] 30)).alloc (.cells (mkN N) 22)).alloc (.cells #[.slice (some ⟨o, 0, none⟩) N c, .pointer none, .map mo, .slice (some ⟨w.heap.size + 1, 0, none⟩) N N] 58)) (w.heap.size + 1) 22 (mkN N) := by
      have := (Blk.new (w.alloc (.cells #[.slice (some ⟨o, 0, none⟩) N c] 30)) 22 (mkN N)).alloc (.cells #[.slice (some ⟨o, 0, none⟩) N c, .pointer none, .map mo, .slice (some ⟨w.heap.size + 1, 0, none⟩) N N] 58)
      simpa using this
    have hb2 : Blk (((w.alloc (.cells #[.slice (some ⟨o, 0, none⟩) N c] 30)).alloc (.cells (mkN N) 22)).alloc (.cells #[.slice (some ⟨o, 0, none⟩) N c, .pointer none, .map mo, .slice (some ⟨w.heap.size + 1, 0, none⟩) N N] 58)) (w.heap.size + 1 + 1) 58 #[.slice (some ⟨o, 0, none⟩) N c, .pointer none, .map mo, .slice (some ⟨w.heap.size + 1, 0, none⟩) N N] := by
      have := Blk.new ((w.alloc (.cells #[.slice (some ⟨o, 0, none⟩) N c] 30)).alloc (.cells (mkN N) 22)) 58 #[.slice (some ⟨o, 0, none⟩) N c, .pointer none, .map mo, .slice (some ⟨w.heap.size + 1, 0, none⟩) N N]
      simpa using this
    exact ⟨⟨hb2.drew, hb1.lt, fun s hs => by have := hb1.cell s; rw [HMN.out s hs] at this; exact this⟩, only_drew (only_alloc (only_alloc (only_alloc (World.grownBy.refl _ _) _) _) _)⟩
  have HFIN := Lib.hid hfin
  clear hfin
  go_wp2
  go_region
  go_wp2
  go_ret
  obtain ⟨r1, r2⟩ := HFIN.out _ rfl
  exact ⟨_, _, rfl, r1, by omega, by omega, r2⟩
/-- What stands while NameForSymbol runs. -/
structure NSt (w W : World) (br o N c : Nat) (mo : Option Nat) (bn g n : Nat) (nm : Nat → ByteArray) (R : Nat → Nat) (s i : Nat) : Prop where
  b3 : Blk W w.heap.size 38 #[.int .u32 s, .int .u32 i]
  ren : Ren W br o N c mo bn
  tab : Linked W g n nm R s
  inv : Inv W
  out : OutAt W o s N g n
  gr : w.grownBy W (some g)
theorem NSt.next {w W W' : World} {br o N c bn g n s i : Nat} {mo : Option Nat} {nm : Nat → ByteArray} {R : Nat → Nat} (h : NSt w W br o N c mo bn g n nm R s i) (hg : W.grownBy W' (some g)) (ht : Linked W' g n nm R s) (hgw : g < w.heap.size) (ho : o ≠ g) (h0 : g ≠ 0) (hbr : br ≠ g) (hbn : bn ≠ g) : NSt w W' br o N c mo bn g n nm R s i :=
  ⟨h.b3.grown hg (by simp; omega), h.ren.grown hg (by simpa using hbr) (by simpa using hbn), ht, h.inv.grown hg (by simp; omega), h.out.grown hg (by simpa using ho), grown_tr h.gr hg⟩
def NamePost (w : World) (g n : Nat) (nm : Nat → ByteArray) (R : Nat → Nat) (s i : Nat) (e : Ending) (w' : World) : Prop :=
  e = .returned (.string (nm (R i))) ∧ Linked w' g n nm R s ∧ w.grownBy w' (some g)
set_option maxHeartbeats 4000000 in
set_option maxRecDepth 100000 in
theorem nameFor (br o N c : Nat) (mo : Option Nat) (bn g n : Nat) (nm : Nat → ByteArray) (R : Nat → Nat) (s i : Nat) (w : World) (hs : s < 4096) (hN : N ≤ 4096) (hn : n ≤ 16777216) (ho : o ≠ g) (h0 : g ≠ 0) (hbr : br ≠ g) (hbn : bn ≠ g)
    (hR : Roots n R) (hi : i < n) (hinv : Inv w) (hout : OutAt w o s N g n) (htab : Linked w g n nm R s) (hren : Ren w br o N c mo bn) :
    Calls Tryd.prog 11 #[.pointer (some ⟨br, 0, none⟩), .agg #[.int .u32 s, .int .u32 i]] w (NamePost w g n nm R s i) := by
  have hgw := htab.lt
  have how := hout.1
  have h0w := hinv.pos
  have hRi := hR i hi
  have hRn : R i < n := by omega
  have hbrw := hren.blk.lt
  have hbnw := hren.lt
  obtain ⟨w3, hw3⟩ : ∃ w3, w3 = w.alloc (.cells #[.int .u32 s, .int .u32 i] 38) := ⟨_, rfl⟩
  have hgn : w.grownBy w3 none := by rw [hw3]; exact only_alloc (World.grownBy.refl _ _) _
  have S3 : NSt w w3 br o N c mo bn g n nm R s i :=
    ⟨by rw [hw3]; exact Blk.new _ _ _, hren.grown hgn (by simp) (by simp), htab.grown hgn (by simp), hinv.grown hgn (by simp), hout.grown hgn (by simp), grown_any hgn⟩
  have HS3 := Lib.hid S3; have HR := Lib.hid hR; have HW3 := Lib.hid hw3
  clear S3 hgn hren htab hinv hout hR hRi
  have j0 : w3.cell? ⟨br, 0, none⟩ = some (.slice (some ⟨o, 0, none⟩) N c) := HS3.out.ren.blk.cell 0
  have j1 : w3.cell? ⟨w.heap.size, 0, none⟩ = some (.int .u32 s) := HS3.out.b3.cell 0
  have j2 : w3.cell? ⟨w.heap.size, 1, none⟩ = some (.int .u32 i) := HS3.out.b3.cell 1
  have HSA : Hid (∀ W : World, (W = w3 ∨ W = w3.drew ∨ W = w3.drew.drew) → NSt w W br o N c mo bn g n nm R s i) := Lib.hid (fun W hW => by
    have h1 : w3.grownBy W none := by
      rcases hW with rfl | rfl | rfl
      · exact World.grownBy.refl _ _
      · exact only_drew (World.grownBy.refl _ _)
      · exact only_drew (only_drew (World.grownBy.refl _ _))
    exact HS3.out.next (grown_any h1) (HS3.out.tab.grown h1 (by simp)) hgw ho h0 hbr hbn)
  have HMEET : Hid (∀ w5 : World, NSt w w5 br o N c mo bn g n nm R s i → NSt w ((w5.setCell ⟨w.heap.size, 0, none⟩ (.int .u32 s)).setCell ⟨w.heap.size, 1, none⟩ (.int .u32 (R i : Nat))) br o N c mo bn g n nm R s (R i)) := Lib.hid (fun w5 h => by
    have h1 : w5.grownBy ((w5.setCell ⟨w.heap.size, 0, none⟩ (.int .u32 s)).setCell ⟨w.heap.size, 1, none⟩ (.int .u32 (R i : Nat))) (some w.heap.size) :=
      only_setCell (p := ⟨w.heap.size, 1, none⟩) (only_setCell (p := ⟨w.heap.size, 0, none⟩) (World.grownBy.refl _ _) (Or.inl rfl) _) (Or.inl rfl) _
    exact ⟨(h.b3.set_ 0 _).set_ 1 _, h.ren.grown h1 (fun e => by have := Option.some.inj e; omega) (fun e => by have := Option.some.inj e; omega), h.tab.grown h1 (fun e => by have := Option.some.inj e; omega), h.inv.grown h1 (fun e => by have := Option.some.inj e; omega), h.out.grown h1 (fun e => by have := Option.some.inj e; omega),
      only_setCell (p := ⟨w.heap.size, 1, none⟩) (only_setCell (p := ⟨w.heap.size, 0, none⟩) h.gr (Or.inr (Nat.le_refl _)) _) (Or.inr (Nat.le_refl _)) _⟩)
  go_enter Tryd.func11, Tryd.ntmps11
  go_upto_region 1 with fail
  rw [← HW3.out]
  clear hw3 HW3
  go_cut [] (fun wx => NSt w wx br o N c mo bn g n nm R s (R i))
  case first =>
    go_region_with (go_at_call 16; refine (follow o N c g n nm R s hs hN hn ho h0 HR.out i hi _ (HSA.out _ (by first | exact Or.inl rfl | exact Or.inr (Or.inl rfl) | exact Or.inr (Or.inr rfl))).inv (HSA.out _ (by first | exact Or.inl rfl | exact Or.inr (Or.inl rfl) | exact Or.inr (Or.inr rfl))).out (HSA.out _ (by first | exact Or.inl rfl | exact Or.inr (Or.inl rfl) | exact Or.inr (Or.inr rfl))).tab).mono ?_; rintro e w5 ⟨rfl, ht5, hg5⟩; have hst := (HSA.out _ (by first | exact Or.inl rfl | exact Or.inr (Or.inl rfl) | exact Or.inr (Or.inr rfl))).next hg5 ht5 hgw ho h0 hbr hbn; have kb0 : w5.cell? ⟨w.heap.size, 0, none⟩ = some (.int .u32 s) := hst.b3.cell 0; have kb1 : w5.cell? ⟨w.heap.size, 1, none⟩ = some (.int .u32 i) := hst.b3.cell 1; have kf0 : w5.frozen? ⟨w.heap.size, 0, none⟩ = false := hst.b3.frozen 0; have kf1 : w5.frozen? ⟨w.heap.size, 1, none⟩ = false := hst.b3.frozen 1; have HST := Lib.hid hst; clear hst hg5 ht5)
    all_goals
      go_wp2_with fail
      go_meet
      exact HMEET.out w5 HST.out
  case rest =>
    have HST := Lib.hid hcut
    clear hcut HSA HS3 HMEET
    have hsc := HST.out.gr.size
    have j0 : wc.cell? ⟨br, 0, none⟩ = some (.slice (some ⟨o, 0, none⟩) N c) := HST.out.ren.blk.cell 0
    have j3 : wc.cell? ⟨br, 3, none⟩ = some (.slice (some ⟨bn, 0, none⟩) N N) := HST.out.ren.blk.cell 3
    have j1 : wc.cell? ⟨w.heap.size, 0, none⟩ = some (.int .u32 s) := HST.out.b3.cell 0
    have j2 : wc.cell? ⟨w.heap.size, 1, none⟩ = some (.int .u32 (R i : Nat)) := HST.out.b3.cell 1
    have jn : wc.cell? ⟨bn, s, none⟩ = some (.slice none 0 0) := HST.out.ren.nms s HST.out.out.2.1
    have hsN : s < N := HST.out.out.2.1
    have HSB : Hid (∀ W : World, (W = wc ∨ W = wc.drew ∨ W = wc.drew.drew) → OutAt W o s N g n) := Lib.hid (fun W hW => by
      rcases hW with rfl | rfl | rfl <;> exact HST.out.out)
    have HSC : Hid (∀ W w7 : World, (W = wc ∨ W = wc.drew ∨ W = wc.drew.drew) → W.grownBy w7 none → wc.grownBy w7 none) := Lib.hid (fun W w7 hW hg => by
      rcases hW with rfl | rfl | rfl <;> exact ⟨hg.os, hg.tape, hg.output, hg.size, hg.block⟩)
    have HNM : Hid (∀ w7 : World, wc.grownBy w7 none → w7.cell? ⟨g, R i * 10 + 1, none⟩ = some (.string (nm (R i))) ∧ Linked w7 g n nm R s ∧ w.grownBy w7 (some g)) := Lib.hid (fun w7 hg =>
      ⟨(HST.out.tab.grown hg (by simp)).name hRn, HST.out.tab.grown hg (by simp), grown_tr HST.out.gr (grown_any hg)⟩)
    have hneq : ∀ W : World, (binOp .neq 22 (.slice none 0 0) (.slice none 0 0)).run Tryd.prog W = .ok (.bool false) W := fun W => by
      have := run_neq_slice_nil_any W 22 9 none 0 0 0 0 Tryd.underlying22
      simpa using this
    go_wp2
    go_region
    go_wp2
    go_region_with (go_at_call 17; refine (getS o s N c g n (R i) _ (HSB.out _ (by first | exact Or.inl rfl | exact Or.inr (Or.inl rfl) | exact Or.inr (Or.inr rfl))) hRn (by omega) hn).mono ?_; rintro e w7 ⟨rfl, hg7⟩; have hg7' := HSC.out _ w7 (by first | exact Or.inl rfl | exact Or.inr (Or.inl rfl) | exact Or.inr (Or.inr rfl)) hg7; have nmc := (HNM.out w7 hg7').1; have HN7 := Lib.hid (HNM.out w7 hg7').2; clear hg7 hg7')
    all_goals
      go_wp2
      go_ret
      exact ⟨rfl, HN7.out⟩
end Go.Proofs.YtmnijgjadlfaaaaDoor
