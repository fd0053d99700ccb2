/- n011_102: zzBuild: the table of symbols. -/
import Derived.Test.YtlpmkbdglpnjhaaMin
namespace Go.Proofs.Ytlpmkbdglpnjhaa
open Go.RowKit
set_option linter.unusedVariables false
set_option linter.unusedSimpArgs false
def zSym : Value := .agg #[.pointer none, .string ⟨#[]⟩, .int .u32 0, .int .u32 0, .int .u32 0, .int .u32 0, .int .u32 0, .int .u16 0, .int .u8 0, .int .u8 0]
theorem sym_info : (Try.prog.info? 67).map (fun i => (i.zero, i.size, i.bytes)) = some (some zSym, 10, 48) := by kernel_rfl
theorem sm_size : (Try.prog.info? 30).map (·.size) = some 1 := by kernel_rfl
theorem row_info : (Try.prog.info? 57).map (fun i => (i.zero, i.size, i.bytes)) = some (some (.slice none 0 0), 1, 24) := by kernel_rfl
def mkSy (n : Nat) : Array Value := madeCells zSym.cells (n * 10)
theorem mkSy_tbl (w : World) (n : Nat) : Tbl (w.alloc (.cells (mkSy n) 67)) w.heap.size n (fun _ => SymR.zero) := by
  refine ⟨_, Blk.new _ _ _, by simp [mkSy, madeCells, zSym, Value.cells], fun m hm j hj => ?_⟩
  have hb : m * 10 + j < n * 10 := by omega
  have hmod : (m * 10 + j) % 10 = j := by omega
  unfold mkSy madeCells
  simp only [zSym, Value.cells, SymR.cells, SymR.zero]
  rw [Array.getElem?_map, Array.getElem?_range, if_pos hb]
  rcases (by omega : j = 0 ∨ j = 1 ∨ j = 2 ∨ j = 3 ∨ j = 4 ∨ j = 5 ∨ j = 6 ∨ j = 7 ∨ j = 8 ∨ j = 9) with rfl | rfl | rfl | rfl | rfl | rfl | rfl | rfl | rfl | rfl <;> simp [hmod]
/-- The symbol that zzBuild makes. -/
def lkOk (n : Nat) (ls : List Int) (m : Nat) : Prop := (m : Int) < ls.getD m 0 ∧ ls.getD m 0 < n
instance (n : Nat) (ls : List Int) (m : Nat) : Decidable (lkOk n ls m) := by unfold lkOk; infer_instance
def symF (n : Nat) (ss : List ByteArray) (ks ls ds : List Int) (m : Nat) : SymR :=
  ⟨ss.getD m ⟨#[]⟩, if lkOk n ls m then 0 else 4294967295, if lkOk n ls m then ls.getD m 0 else 4294967295, if ds.getD m 0 = 0 then 0 else 4294967295 - (ds.getD m 0 - 1), 0, kdOf (ks.getD m 0)⟩
theorem upd_next {n k : Nat} {F : Nat → SymR} {r : SymR} (hF : F k = r) (m : Nat) (hm : m < n) : upd (fun m => if m < k then F m else SymR.zero) k r m = if m < k + 1 then F m else SymR.zero := by
  unfold upd
  by_cases e : m = k
  · subst e; rw [if_pos rfl, if_pos (by omega), hF]
  · rw [if_neg e]
    by_cases e2 : m < k
    · rw [if_pos (by omega)]; exact if_pos e2
    · rw [if_neg (by omega)]; exact if_neg e2
/-- The table while symbol k is made: it is r so far. -/
structure BSt (w W : World) (g n k : Nat) (S : Nat → SymR) (r : SymR) : Prop where
  tab : Tbl W g n (upd S k r)
  bel : Below w.heap.size w W
theorem BSt.grown {w W W' : World} {g n k : Nat} {S : Nat → SymR} {r : SymR} (h : BSt w W g n k S r) (hg : W.grownBy W' none) : BSt w W' g n k S r :=
  ⟨h.tab.grown hg (by simp), h.bel.grown hg h.bel.size (fun k hk => by cases hk)⟩
theorem BSt.set {w W : World} {g n k : Nat} {S : Nat → SymR} {r : SymR} (h : BSt w W g n k S r) (hg : w.heap.size ≤ g) (hk : k < n) {j : Nat} (hj : j < 10) (v : Value) (r' : SymR) (hr : r'.cells = r.cells.set j v) : BSt w (W.setCell ⟨g, k * 10 + j, none⟩ v) g n k S r' :=
  ⟨h.tab.upd_set hk hj v r' hr, h.bel.setCell (p := ⟨g, k * 10 + j, none⟩) hg _⟩
def BldPost (w : World) (n : Nat) (S : Nat → SymR) (e : Ending) (w' : World) : Prop :=
  ∃ o g, e = .returned (.agg #[.slice (some ⟨o, 0, none⟩) 1 1]) ∧ w.heap.size ≤ o ∧ w.heap.size ≤ g ∧ o ≠ g ∧ Out1 w' o g n ∧ Tbl w' g n S ∧ Below w.heap.size w w'
set_option maxHeartbeats 8000000 in
set_option maxRecDepth 100000 in
theorem build (A0 : Option Addr) (nn cc0 : Nat) (ss : List ByteArray) (A1 : Option Addr) (n cc1 : Nat) (ks : List Int) (A2 : Option Addr) (nl cc2 : Nat) (ls : List Int) (A3 : Option Addr) (nd cc3 : Nat) (ds : List Int) (w : World)
    (h0 : Reads w w.heap.size 1 A0 nn (ss.map Value.string)) (h1 : Reads w w.heap.size 1 A1 n (ks.map (Value.int .u8))) (h2 : Reads w w.heap.size 1 A2 nl (ls.map (Value.int .u32))) (h3 : Reads w w.heap.size 1 A3 nd (ds.map (Value.int .u32)))
    (hn0 : nn ≤ 65536) (hn1 : n ≤ 65536) (hn2 : nl ≤ 65536) (hn3 : nd ≤ 65536) (hk : ∀ x ∈ ks, 0 ≤ x ∧ x ≤ 255) (hl : ∀ x ∈ ls, 0 ≤ x ∧ x ≤ 4294967295) (hd : ∀ x ∈ ds, 0 ≤ x ∧ x ≤ 4294967295) :
    Calls Try.prog 8 #[.slice A0 nn cc0, .slice A1 n cc1, .slice A2 nl cc2, .slice A3 nd cc3] w (BldPost w n (symF n ss ks ls ds)) := by
  obtain ⟨i0, hi, hz0, hz1, hz2⟩ := info_parts sym_info
  obtain ⟨i1, hi', hz0', hz1', hz2'⟩ := info_parts row_info
  have hmk : ∀ W : World, (Instr.makeSlice 57 (.int .i64 (n : Int)) (.int .i64 (n : Int))).run Try.prog W = .ok (.slice (some ⟨W.heap.size, 0, none⟩) n n) (W.alloc (.cells (mkSy n) 67)) := fun W => by
    have hr := run_make (P := Try.prog) W 57 67 i0 zSym Try.underlying57 hi hz0 .i64 .i64 n n (by omega) (by omega) (by rw [hz2]; omega) (by omega)
    simp only [Int.toNat_natCast, hz1] at hr
    exact hr
  have hm1 : madeCells #[Value.slice none 0 0] 1 = #[Value.slice none 0 0] := by kernel_rfl
  have hmk1 : ∀ W : World, (Instr.makeSlice 28 (.int .i64 1) (.int .i64 1)).run Try.prog W = .ok (.slice (some ⟨W.heap.size, 0, none⟩) 1 1) (W.alloc (.cells #[.slice none 0 0] 57)) := fun W => by
    have hr := run_make (P := Try.prog) W 28 57 i1 (.slice none 0 0) Try.underlying28 hi' hz0' .i64 .i64 (1 : Nat) (1 : Nat) (by omega) (by omega) (by rw [hz2']; omega) (by omega)
    rw [hz1'] at hr
    rw [← hm1]
    exact hr
  have l0 : ss.length = nn := by have := h0.1; simpa using this
  have l1 : ks.length = n := by have := h1.1; simpa using this
  have l2 : ls.length = nl := by have := h2.1; simpa using this
  have l3 : ds.length = nd := by have := h3.1; simpa using this
  have H0 := Lib.hid h0; have H1 := Lib.hid h1; have H2 := Lib.hid h2; have H3 := Lib.hid h3
  have L0 := Lib.hid l0; have L1 := Lib.hid l1; have L2 := Lib.hid l2; have L3 := Lib.hid l3
  have HK := Lib.hid hk; have HL := Lib.hid hl; have HD := Lib.hid hd
  have HT := Lib.hid (mkSy_tbl (w.alloc (.cells #[.slice none 0 0] 30)) n)
  clear h0 h1 h2 h3 l0 l1 l2 l3 hk hl hd
  go_enter Try.func8, Try.ntmps8
  go_wp2
  obtain ⟨g, hg⟩ : ∃ g, g = w.heap.size + 1 := ⟨_, rfl⟩
  have HTG : Hid (Tbl ((w.alloc (.cells #[.slice none 0 0] 30)).alloc (.cells (mkSy n) 67)) g n (fun _ => SymR.zero)) := Lib.hid (by have := HT.out; rw [hg]; simpa using this)
  have hgw : w.heap.size ≤ g := by omega
  have hgw' : w.heap.size < g := by omega
  rw [← hg]
  clear hg HT
  go_loopw [11] (fun t wr => ∃ k : Nat, t = .int .i64 k ∧ k ≤ n ∧ Tbl wr g n (fun m => if m < k then symF n ss ks ls ds m else SymR.zero) ∧ Blk wr w.heap.size 30 #[.slice none 0 0] ∧ Below w.heap.size w wr) (fun t _ => n - (intOf t).toNat)
  case atStart =>
    refine ⟨0, rfl, by omega, HTG.out.ext (fun m hm => by rw [if_neg (by omega)]), (Blk.new w _ _).alloc _, ((Below.refl _ _).alloc (Nat.le_refl _) _).alloc (by simp) _⟩
  case round =>
    obtain ⟨k, rfl, hk, htab, hres, hbel⟩ := hrel
    by_cases hlt : k < n
    · obtain ⟨b1, off1, e1, hb1, hc1⟩ := reads_any (H1.out.below hbel) (by omega)
      subst e1
      obtain ⟨x1, hx1⟩ : ∃ x, ks[k]? = some x := ⟨_, List.getElem?_eq_getElem (by have := L1.out; omega)⟩
      have q1 := HK.out x1 (List.mem_of_getElem? hx1)
      have c1 := hc1 k x1 hx1
      have GK : Hid (ks.getD k 0 = x1) := Lib.hid (by rw [List.getD_eq_getElem?_getD, hx1]; rfl)
      have hwk : IntKind.u32.wrap (k : Int) = k := by rw [IntKind.wrap_u32]; omega
      have hwn : IntKind.u32.wrap (n : Int) = n := by rw [IntKind.wrap_u32]; omega
      have hgb1 : ¬ b1 = g := by omega
      have hgb1' : ¬ g = b1 := by omega
      clear hc1 hx1
      by_cases hnm : k < nn
      · -- the name is there
        by_cases hlk : k < nl
        · skip
          obtain ⟨b2, off2, e2, hb2, hc2'⟩ := reads_any (H2.out) (by omega)
          subst e2
          have hb2' : ¬ b2 = g := by omega
          have hb2'' : ¬ g = b2 := by omega
          obtain ⟨x2, hx2⟩ : ∃ x, ls[k]? = some x := ⟨_, List.getElem?_eq_getElem (by have := L2.out; omega)⟩
          have q2 := HL.out x2 (List.mem_of_getElem? hx2)
          have C2 : Hid (∀ W, Below w.heap.size w W → W.cell? ⟨b2, off2 + k, none⟩ = some (.int .u32 x2)) := Lib.hid (fun W hW => (hW.cell (p := ⟨b2, off2 + k, none⟩) hb2).trans (hc2' k x2 hx2))
          have hc2 : ∀ i l, ls[i]? = some l → w.cell? ⟨b2, off2 + i, none⟩ = some (.int .u32 l) := hc2'
          clear hc2'
          rcases (by omega : ¬ (k : Int) < x2 ∨ ((k : Int) < x2 ∧ ¬ x2 < n) ∨ ((k : Int) < x2 ∧ x2 < n)) with hq | ⟨hq, hq'⟩ | ⟨hq, hq'⟩
          · skip
            by_cases hnd : k < nd
            · skip
              obtain ⟨b3, off3, e3, hb3, hc3'⟩ := reads_any (H3.out) (by omega)
              subst e3
              have hb3' : ¬ b3 = g := by omega
              have hb3'' : ¬ g = b3 := by omega
              obtain ⟨x3, hx3⟩ : ∃ x, ds[k]? = some x := ⟨_, List.getElem?_eq_getElem (by have := L3.out; omega)⟩
              have q3 := HD.out x3 (List.mem_of_getElem? hx3)
              have C3 : Hid (∀ W, Below w.heap.size w W → W.cell? ⟨b3, off3 + k, none⟩ = some (.int .u32 x3)) := Lib.hid (fun W hW => (hW.cell (p := ⟨b3, off3 + k, none⟩) hb3).trans (hc3' k x3 hx3))
              have hc3 : ∀ i l, ds[i]? = some l → w.cell? ⟨b3, off3 + i, none⟩ = some (.int .u32 l) := hc3'
              clear hc3'
              by_cases hz3 : x3 = 0
              · have t3 : (x3 != 0) = false := by rw [hz3]; rfl
                obtain ⟨b0, off0, e0, hb0, hc0⟩ := reads_any (H0.out.below hbel) (by omega)
                subst e0
                obtain ⟨x0, hx0⟩ : ∃ x, ss[k]? = some x := ⟨_, List.getElem?_eq_getElem (by have := L0.out; omega)⟩
                have c0 := hc0 k x0 hx0
                have GN : Hid (ss.getD k ⟨#[]⟩ = x0) := Lib.hid (by rw [List.getD_eq_getElem?_getD, hx0]; rfl)
                clear hc0 hx0
                have c2 := hc2 k x2 hx2
                have GL : Hid (ls.getD k 0 = x2) := Lib.hid (by rw [List.getD_eq_getElem?_getD, hx2]; rfl)
                clear hc2 hx2
                have c3 := hc3 k x3 hx3
                have GD : Hid (ds.getD k 0 = x3) := Lib.hid (by rw [List.getD_eq_getElem?_getD, hx3]; rfl)
                clear hc3 hx3
                have HOK : Hid (¬ lkOk n ls k) := Lib.hid (by unfold lkOk; rw [GL.out]; omega)
                have HSY : Hid (symF n ss ks ls ds k = ⟨x0, 4294967295, 4294967295, 0, 0, kdOf x1⟩) := Lib.hid (by unfold symF; rw [GN.out, GK.out, GD.out, GL.out]; simp only [if_neg HOK.out, if_pos hz3])
                clear hz3
                have BS0 : Hid (BSt w wr g n k (fun m => if m < k then symF n ss ks ls ds m else SymR.zero) SymR.zero) := Lib.hid ⟨by have e := upd_self (fun m => if m < k then symF n ss ks ls ds m else SymR.zero) k; simp only [Nat.lt_irrefl, if_false] at e; rw [e]; exact htab, hbel⟩
                have HRES0 := Lib.hid hres
                clear htab hres
                obtain ⟨v1, d1⟩ := BS0.out.tab.old (show k * 10 + 1 < n * 10 by omega)
                have z1 := BS0.out.tab.frozen (k * 10 + 1)
                go_wp2_with (go_at_call 21; refine (kind_any x1 q1.1 q1.2 _).mono ?_)
                rintro e w1 ⟨rfl, hg1⟩
                have BS1 : Hid (BSt w w1 g n k (fun m => if m < k then symF n ss ks ls ds m else SymR.zero) ⟨x0, 0, 0, 0, 0, 0⟩) := Lib.hid ((BS0.out.set hgw hlt (j := 1) (by omega) _ ⟨x0, 0, 0, 0, 0, 0⟩ rfl).grown hg1)
                have HRES1 : Hid (Blk w1 w.heap.size 30 #[.slice none 0 0]) := Lib.hid ((HRES0.out.far (p := ⟨g, k * 10 + 1, none⟩) (by show w.heap.size ≠ g; omega) _).grown hg1 (by simp))
                clear d1 z1
                clear hg1 BS0 HRES0 c1 c0
                obtain ⟨v8, d8⟩ := BS1.out.tab.old (show k * 10 + 8 < n * 10 by omega)
                have z8 := BS1.out.tab.frozen (k * 10 + 8)
                go_wp2_with (go_at_call 22; refine (inval_any _).mono ?_)
                rintro e w2 ⟨rfl, hg2⟩
                have BS2 : Hid (BSt w w2 g n k (fun m => if m < k then symF n ss ks ls ds m else SymR.zero) ⟨x0, 0, 0, 0, 0, kdOf x1⟩) := Lib.hid ((BS1.out.set hgw hlt (j := 8) (by omega) _ ⟨x0, 0, 0, 0, 0, kdOf x1⟩ rfl).grown hg2)
                have HRES2 : Hid (Blk w2 w.heap.size 30 #[.slice none 0 0]) := Lib.hid ((HRES1.out.far (p := ⟨g, k * 10 + 8, none⟩) (by show w.heap.size ≠ g; omega) _).grown hg2 (by simp))
                clear hg2 BS1 HRES1
                clear d8 z8
                obtain ⟨v2, d2⟩ := BS2.out.tab.old (show k * 10 + 2 < n * 10 by omega)
                have z2 := BS2.out.tab.frozen (k * 10 + 2)
                obtain ⟨v3, d3⟩ := BS2.out.tab.old (show k * 10 + 3 < n * 10 by omega)
                have z3 := BS2.out.tab.frozen (k * 10 + 3)
                have c2 : w2.cell? ⟨b2, off2 + k, none⟩ = some (.int .u32 x2) := C2.out w2 BS2.out.bel
                have c3 : w2.cell? ⟨b3, off3 + k, none⟩ = some (.int .u32 x3) := C3.out w2 BS2.out.bel
                have HFB := Lib.hid ((BS2.out.set hgw hlt (j := 2) (by omega) (.int .u32 4294967295) ⟨x0, 4294967295, 0, 0, 0, kdOf x1⟩ rfl).set hgw hlt (j := 3) (by omega) (.int .u32 4294967295) ⟨x0, 4294967295, 4294967295, 0, 0, kdOf x1⟩ rfl)
                have HFR := Lib.hid ((HRES2.out.far (p := ⟨g, k * 10 + 2, none⟩) (by show w.heap.size ≠ g; omega) (.int .u32 4294967295)).far (p := ⟨g, k * 10 + 3, none⟩) (by show w.heap.size ≠ g; omega) (.int .u32 4294967295))
                go_wp2
                go_roundw
                case rel =>
                  refine ⟨k + 1, by go_num, by omega, HFB.out.tab.ext (fun m hm => ?_), HFR.out, HFB.out.bel⟩
                  exact upd_next HSY.out m hm
                case measure => simp [intOf]; omega
              · have t3 : (x3 != 0) = true := by rw [bne_iff_ne]; exact hz3
                obtain ⟨b0, off0, e0, hb0, hc0⟩ := reads_any (H0.out.below hbel) (by omega)
                subst e0
                obtain ⟨x0, hx0⟩ : ∃ x, ss[k]? = some x := ⟨_, List.getElem?_eq_getElem (by have := L0.out; omega)⟩
                have c0 := hc0 k x0 hx0
                have GN : Hid (ss.getD k ⟨#[]⟩ = x0) := Lib.hid (by rw [List.getD_eq_getElem?_getD, hx0]; rfl)
                clear hc0 hx0
                have c2 := hc2 k x2 hx2
                have GL : Hid (ls.getD k 0 = x2) := Lib.hid (by rw [List.getD_eq_getElem?_getD, hx2]; rfl)
                clear hc2 hx2
                have c3 := hc3 k x3 hx3
                have GD : Hid (ds.getD k 0 = x3) := Lib.hid (by rw [List.getD_eq_getElem?_getD, hx3]; rfl)
                clear hc3 hx3
                have HOK : Hid (¬ lkOk n ls k) := Lib.hid (by unfold lkOk; rw [GL.out]; omega)
                have HSY : Hid (symF n ss ks ls ds k = ⟨x0, 4294967295, 4294967295, 4294967295 - (x3 - 1), 0, kdOf x1⟩) := Lib.hid (by unfold symF; rw [GN.out, GK.out, GD.out, GL.out]; simp only [if_neg HOK.out, if_neg hz3])
                have BS0 : Hid (BSt w wr g n k (fun m => if m < k then symF n ss ks ls ds m else SymR.zero) SymR.zero) := Lib.hid ⟨by have e := upd_self (fun m => if m < k then symF n ss ks ls ds m else SymR.zero) k; simp only [Nat.lt_irrefl, if_false] at e; rw [e]; exact htab, hbel⟩
                have HRES0 := Lib.hid hres
                clear htab hres
                obtain ⟨v1, d1⟩ := BS0.out.tab.old (show k * 10 + 1 < n * 10 by omega)
                have z1 := BS0.out.tab.frozen (k * 10 + 1)
                go_wp2_with (go_at_call 21; refine (kind_any x1 q1.1 q1.2 _).mono ?_)
                rintro e w1 ⟨rfl, hg1⟩
                have BS1 : Hid (BSt w w1 g n k (fun m => if m < k then symF n ss ks ls ds m else SymR.zero) ⟨x0, 0, 0, 0, 0, 0⟩) := Lib.hid ((BS0.out.set hgw hlt (j := 1) (by omega) _ ⟨x0, 0, 0, 0, 0, 0⟩ rfl).grown hg1)
                have HRES1 : Hid (Blk w1 w.heap.size 30 #[.slice none 0 0]) := Lib.hid ((HRES0.out.far (p := ⟨g, k * 10 + 1, none⟩) (by show w.heap.size ≠ g; omega) _).grown hg1 (by simp))
                clear d1 z1
                clear hg1 BS0 HRES0 c1 c0
                obtain ⟨v8, d8⟩ := BS1.out.tab.old (show k * 10 + 8 < n * 10 by omega)
                have z8 := BS1.out.tab.frozen (k * 10 + 8)
                go_wp2_with (go_at_call 22; refine (inval_any _).mono ?_)
                rintro e w2 ⟨rfl, hg2⟩
                have BS2 : Hid (BSt w w2 g n k (fun m => if m < k then symF n ss ks ls ds m else SymR.zero) ⟨x0, 0, 0, 0, 0, kdOf x1⟩) := Lib.hid ((BS1.out.set hgw hlt (j := 8) (by omega) _ ⟨x0, 0, 0, 0, 0, kdOf x1⟩ rfl).grown hg2)
                have HRES2 : Hid (Blk w2 w.heap.size 30 #[.slice none 0 0]) := Lib.hid ((HRES1.out.far (p := ⟨g, k * 10 + 8, none⟩) (by show w.heap.size ≠ g; omega) _).grown hg2 (by simp))
                clear hg2 BS1 HRES1
                clear d8 z8
                obtain ⟨v2, d2⟩ := BS2.out.tab.old (show k * 10 + 2 < n * 10 by omega)
                have z2 := BS2.out.tab.frozen (k * 10 + 2)
                obtain ⟨v3, d3⟩ := BS2.out.tab.old (show k * 10 + 3 < n * 10 by omega)
                have z3 := BS2.out.tab.frozen (k * 10 + 3)
                have c2 : w2.cell? ⟨b2, off2 + k, none⟩ = some (.int .u32 x2) := C2.out w2 BS2.out.bel
                have c3 : w2.cell? ⟨b3, off3 + k, none⟩ = some (.int .u32 x3) := C3.out w2 BS2.out.bel
                go_wp2_with (go_at_call 23; refine (mki_any (x3 - 1) (by omega) (by omega) _).mono ?_)
                rintro e w4 ⟨rfl, hg4⟩
                have BS4 : Hid (BSt w w4 g n k (fun m => if m < k then symF n ss ks ls ds m else SymR.zero) ⟨x0, 4294967295, 4294967295, 0, 0, kdOf x1⟩) := Lib.hid (((BS2.out.set hgw hlt (j := 2) (by omega) (.int .u32 4294967295) ⟨x0, 4294967295, 0, 0, 0, kdOf x1⟩ rfl).set hgw hlt (j := 3) (by omega) (.int .u32 4294967295) ⟨x0, 4294967295, 4294967295, 0, 0, kdOf x1⟩ rfl).grown hg4)
                have HRES4 : Hid (Blk w4 w.heap.size 30 #[.slice none 0 0]) := Lib.hid (((HRES2.out.far (p := ⟨g, k * 10 + 2, none⟩) (by show w.heap.size ≠ g; omega) (.int .u32 4294967295)).far (p := ⟨g, k * 10 + 3, none⟩) (by show w.heap.size ≠ g; omega) (.int .u32 4294967295)).grown hg4 (by simp))
                clear hg4 BS2 HRES2 c3
                clear d2 z2 d3 z3
                obtain ⟨v6, d6⟩ := BS4.out.tab.old (show k * 10 + 6 < n * 10 by omega)
                have z6 := BS4.out.tab.frozen (k * 10 + 6)
                have HFB := Lib.hid (BS4.out.set hgw hlt (j := 6) (by omega) (.int .u32 (4294967295 - (x3 - 1))) ⟨x0, 4294967295, 4294967295, 4294967295 - (x3 - 1), 0, kdOf x1⟩ rfl)
                have HFR := Lib.hid (HRES4.out.far (p := ⟨g, k * 10 + 6, none⟩) (by show w.heap.size ≠ g; omega) (.int .u32 (4294967295 - (x3 - 1))))
                go_wp2
                go_roundw
                case rel =>
                  refine ⟨k + 1, by go_num, by omega, HFB.out.tab.ext (fun m hm => ?_), HFR.out, HFB.out.bel⟩
                  exact upd_next HSY.out m hm
                case measure => simp [intOf]; omega
            · skip
              obtain ⟨b0, off0, e0, hb0, hc0⟩ := reads_any (H0.out.below hbel) (by omega)
              subst e0
              obtain ⟨x0, hx0⟩ : ∃ x, ss[k]? = some x := ⟨_, List.getElem?_eq_getElem (by have := L0.out; omega)⟩
              have c0 := hc0 k x0 hx0
              have GN : Hid (ss.getD k ⟨#[]⟩ = x0) := Lib.hid (by rw [List.getD_eq_getElem?_getD, hx0]; rfl)
              clear hc0 hx0
              have c2 := hc2 k x2 hx2
              have GL : Hid (ls.getD k 0 = x2) := Lib.hid (by rw [List.getD_eq_getElem?_getD, hx2]; rfl)
              clear hc2 hx2
              have GD : Hid (ds.getD k 0 = 0) := Lib.hid (by rw [List.getD_eq_getElem?_getD, List.getElem?_eq_none (by have := L3.out; omega)]; rfl)
              have HOK : Hid (¬ lkOk n ls k) := Lib.hid (by unfold lkOk; rw [GL.out]; omega)
              have HSY : Hid (symF n ss ks ls ds k = ⟨x0, 4294967295, 4294967295, 0, 0, kdOf x1⟩) := Lib.hid (by unfold symF; rw [GN.out, GK.out, GD.out, GL.out]; simp only [if_neg HOK.out, if_true])
              have BS0 : Hid (BSt w wr g n k (fun m => if m < k then symF n ss ks ls ds m else SymR.zero) SymR.zero) := Lib.hid ⟨by have e := upd_self (fun m => if m < k then symF n ss ks ls ds m else SymR.zero) k; simp only [Nat.lt_irrefl, if_false] at e; rw [e]; exact htab, hbel⟩
              have HRES0 := Lib.hid hres
              clear htab hres
              obtain ⟨v1, d1⟩ := BS0.out.tab.old (show k * 10 + 1 < n * 10 by omega)
              have z1 := BS0.out.tab.frozen (k * 10 + 1)
              go_wp2_with (go_at_call 21; refine (kind_any x1 q1.1 q1.2 _).mono ?_)
              rintro e w1 ⟨rfl, hg1⟩
              have BS1 : Hid (BSt w w1 g n k (fun m => if m < k then symF n ss ks ls ds m else SymR.zero) ⟨x0, 0, 0, 0, 0, 0⟩) := Lib.hid ((BS0.out.set hgw hlt (j := 1) (by omega) _ ⟨x0, 0, 0, 0, 0, 0⟩ rfl).grown hg1)
              have HRES1 : Hid (Blk w1 w.heap.size 30 #[.slice none 0 0]) := Lib.hid ((HRES0.out.far (p := ⟨g, k * 10 + 1, none⟩) (by show w.heap.size ≠ g; omega) _).grown hg1 (by simp))
              clear d1 z1
              clear hg1 BS0 HRES0 c1 c0
              obtain ⟨v8, d8⟩ := BS1.out.tab.old (show k * 10 + 8 < n * 10 by omega)
              have z8 := BS1.out.tab.frozen (k * 10 + 8)
              go_wp2_with (go_at_call 22; refine (inval_any _).mono ?_)
              rintro e w2 ⟨rfl, hg2⟩
              have BS2 : Hid (BSt w w2 g n k (fun m => if m < k then symF n ss ks ls ds m else SymR.zero) ⟨x0, 0, 0, 0, 0, kdOf x1⟩) := Lib.hid ((BS1.out.set hgw hlt (j := 8) (by omega) _ ⟨x0, 0, 0, 0, 0, kdOf x1⟩ rfl).grown hg2)
              have HRES2 : Hid (Blk w2 w.heap.size 30 #[.slice none 0 0]) := Lib.hid ((HRES1.out.far (p := ⟨g, k * 10 + 8, none⟩) (by show w.heap.size ≠ g; omega) _).grown hg2 (by simp))
              clear hg2 BS1 HRES1
              clear d8 z8
              obtain ⟨v2, d2⟩ := BS2.out.tab.old (show k * 10 + 2 < n * 10 by omega)
              have z2 := BS2.out.tab.frozen (k * 10 + 2)
              obtain ⟨v3, d3⟩ := BS2.out.tab.old (show k * 10 + 3 < n * 10 by omega)
              have z3 := BS2.out.tab.frozen (k * 10 + 3)
              have c2 : w2.cell? ⟨b2, off2 + k, none⟩ = some (.int .u32 x2) := C2.out w2 BS2.out.bel
              have HFB := Lib.hid ((BS2.out.set hgw hlt (j := 2) (by omega) (.int .u32 4294967295) ⟨x0, 4294967295, 0, 0, 0, kdOf x1⟩ rfl).set hgw hlt (j := 3) (by omega) (.int .u32 4294967295) ⟨x0, 4294967295, 4294967295, 0, 0, kdOf x1⟩ rfl)
              have HFR := Lib.hid ((HRES2.out.far (p := ⟨g, k * 10 + 2, none⟩) (by show w.heap.size ≠ g; omega) (.int .u32 4294967295)).far (p := ⟨g, k * 10 + 3, none⟩) (by show w.heap.size ≠ g; omega) (.int .u32 4294967295))
              go_wp2
              go_roundw
              case rel =>
                refine ⟨k + 1, by go_num, by omega, HFB.out.tab.ext (fun m hm => ?_), HFR.out, HFB.out.bel⟩
                exact upd_next HSY.out m hm
              case measure => simp [intOf]; omega
          · skip
            by_cases hnd : k < nd
            · skip
              obtain ⟨b3, off3, e3, hb3, hc3'⟩ := reads_any (H3.out) (by omega)
              subst e3
              have hb3' : ¬ b3 = g := by omega
              have hb3'' : ¬ g = b3 := by omega
              obtain ⟨x3, hx3⟩ : ∃ x, ds[k]? = some x := ⟨_, List.getElem?_eq_getElem (by have := L3.out; omega)⟩
              have q3 := HD.out x3 (List.mem_of_getElem? hx3)
              have C3 : Hid (∀ W, Below w.heap.size w W → W.cell? ⟨b3, off3 + k, none⟩ = some (.int .u32 x3)) := Lib.hid (fun W hW => (hW.cell (p := ⟨b3, off3 + k, none⟩) hb3).trans (hc3' k x3 hx3))
              have hc3 : ∀ i l, ds[i]? = some l → w.cell? ⟨b3, off3 + i, none⟩ = some (.int .u32 l) := hc3'
              clear hc3'
              by_cases hz3 : x3 = 0
              · have t3 : (x3 != 0) = false := by rw [hz3]; rfl
                obtain ⟨b0, off0, e0, hb0, hc0⟩ := reads_any (H0.out.below hbel) (by omega)
                subst e0
                obtain ⟨x0, hx0⟩ : ∃ x, ss[k]? = some x := ⟨_, List.getElem?_eq_getElem (by have := L0.out; omega)⟩
                have c0 := hc0 k x0 hx0
                have GN : Hid (ss.getD k ⟨#[]⟩ = x0) := Lib.hid (by rw [List.getD_eq_getElem?_getD, hx0]; rfl)
                clear hc0 hx0
                have c2 := hc2 k x2 hx2
                have GL : Hid (ls.getD k 0 = x2) := Lib.hid (by rw [List.getD_eq_getElem?_getD, hx2]; rfl)
                clear hc2 hx2
                have c3 := hc3 k x3 hx3
                have GD : Hid (ds.getD k 0 = x3) := Lib.hid (by rw [List.getD_eq_getElem?_getD, hx3]; rfl)
                clear hc3 hx3
                have HOK : Hid (¬ lkOk n ls k) := Lib.hid (by unfold lkOk; rw [GL.out]; omega)
                have HSY : Hid (symF n ss ks ls ds k = ⟨x0, 4294967295, 4294967295, 0, 0, kdOf x1⟩) := Lib.hid (by unfold symF; rw [GN.out, GK.out, GD.out, GL.out]; simp only [if_neg HOK.out, if_pos hz3])
                clear hz3
                have BS0 : Hid (BSt w wr g n k (fun m => if m < k then symF n ss ks ls ds m else SymR.zero) SymR.zero) := Lib.hid ⟨by have e := upd_self (fun m => if m < k then symF n ss ks ls ds m else SymR.zero) k; simp only [Nat.lt_irrefl, if_false] at e; rw [e]; exact htab, hbel⟩
                have HRES0 := Lib.hid hres
                clear htab hres
                obtain ⟨v1, d1⟩ := BS0.out.tab.old (show k * 10 + 1 < n * 10 by omega)
                have z1 := BS0.out.tab.frozen (k * 10 + 1)
                go_wp2_with (go_at_call 21; refine (kind_any x1 q1.1 q1.2 _).mono ?_)
                rintro e w1 ⟨rfl, hg1⟩
                have BS1 : Hid (BSt w w1 g n k (fun m => if m < k then symF n ss ks ls ds m else SymR.zero) ⟨x0, 0, 0, 0, 0, 0⟩) := Lib.hid ((BS0.out.set hgw hlt (j := 1) (by omega) _ ⟨x0, 0, 0, 0, 0, 0⟩ rfl).grown hg1)
                have HRES1 : Hid (Blk w1 w.heap.size 30 #[.slice none 0 0]) := Lib.hid ((HRES0.out.far (p := ⟨g, k * 10 + 1, none⟩) (by show w.heap.size ≠ g; omega) _).grown hg1 (by simp))
                clear d1 z1
                clear hg1 BS0 HRES0 c1 c0
                obtain ⟨v8, d8⟩ := BS1.out.tab.old (show k * 10 + 8 < n * 10 by omega)
                have z8 := BS1.out.tab.frozen (k * 10 + 8)
                go_wp2_with (go_at_call 22; refine (inval_any _).mono ?_)
                rintro e w2 ⟨rfl, hg2⟩
                have BS2 : Hid (BSt w w2 g n k (fun m => if m < k then symF n ss ks ls ds m else SymR.zero) ⟨x0, 0, 0, 0, 0, kdOf x1⟩) := Lib.hid ((BS1.out.set hgw hlt (j := 8) (by omega) _ ⟨x0, 0, 0, 0, 0, kdOf x1⟩ rfl).grown hg2)
                have HRES2 : Hid (Blk w2 w.heap.size 30 #[.slice none 0 0]) := Lib.hid ((HRES1.out.far (p := ⟨g, k * 10 + 8, none⟩) (by show w.heap.size ≠ g; omega) _).grown hg2 (by simp))
                clear hg2 BS1 HRES1
                clear d8 z8
                obtain ⟨v2, d2⟩ := BS2.out.tab.old (show k * 10 + 2 < n * 10 by omega)
                have z2 := BS2.out.tab.frozen (k * 10 + 2)
                obtain ⟨v3, d3⟩ := BS2.out.tab.old (show k * 10 + 3 < n * 10 by omega)
                have z3 := BS2.out.tab.frozen (k * 10 + 3)
                have c2 : w2.cell? ⟨b2, off2 + k, none⟩ = some (.int .u32 x2) := C2.out w2 BS2.out.bel
                have c3 : w2.cell? ⟨b3, off3 + k, none⟩ = some (.int .u32 x3) := C3.out w2 BS2.out.bel
                have HFB := Lib.hid ((BS2.out.set hgw hlt (j := 2) (by omega) (.int .u32 4294967295) ⟨x0, 4294967295, 0, 0, 0, kdOf x1⟩ rfl).set hgw hlt (j := 3) (by omega) (.int .u32 4294967295) ⟨x0, 4294967295, 4294967295, 0, 0, kdOf x1⟩ rfl)
                have HFR := Lib.hid ((HRES2.out.far (p := ⟨g, k * 10 + 2, none⟩) (by show w.heap.size ≠ g; omega) (.int .u32 4294967295)).far (p := ⟨g, k * 10 + 3, none⟩) (by show w.heap.size ≠ g; omega) (.int .u32 4294967295))
                go_wp2
                go_roundw
                case rel =>
                  refine ⟨k + 1, by go_num, by omega, HFB.out.tab.ext (fun m hm => ?_), HFR.out, HFB.out.bel⟩
                  exact upd_next HSY.out m hm
                case measure => simp [intOf]; omega
              · have t3 : (x3 != 0) = true := by rw [bne_iff_ne]; exact hz3
                obtain ⟨b0, off0, e0, hb0, hc0⟩ := reads_any (H0.out.below hbel) (by omega)
                subst e0
                obtain ⟨x0, hx0⟩ : ∃ x, ss[k]? = some x := ⟨_, List.getElem?_eq_getElem (by have := L0.out; omega)⟩
                have c0 := hc0 k x0 hx0
                have GN : Hid (ss.getD k ⟨#[]⟩ = x0) := Lib.hid (by rw [List.getD_eq_getElem?_getD, hx0]; rfl)
                clear hc0 hx0
                have c2 := hc2 k x2 hx2
                have GL : Hid (ls.getD k 0 = x2) := Lib.hid (by rw [List.getD_eq_getElem?_getD, hx2]; rfl)
                clear hc2 hx2
                have c3 := hc3 k x3 hx3
                have GD : Hid (ds.getD k 0 = x3) := Lib.hid (by rw [List.getD_eq_getElem?_getD, hx3]; rfl)
                clear hc3 hx3
                have HOK : Hid (¬ lkOk n ls k) := Lib.hid (by unfold lkOk; rw [GL.out]; omega)
                have HSY : Hid (symF n ss ks ls ds k = ⟨x0, 4294967295, 4294967295, 4294967295 - (x3 - 1), 0, kdOf x1⟩) := Lib.hid (by unfold symF; rw [GN.out, GK.out, GD.out, GL.out]; simp only [if_neg HOK.out, if_neg hz3])
                have BS0 : Hid (BSt w wr g n k (fun m => if m < k then symF n ss ks ls ds m else SymR.zero) SymR.zero) := Lib.hid ⟨by have e := upd_self (fun m => if m < k then symF n ss ks ls ds m else SymR.zero) k; simp only [Nat.lt_irrefl, if_false] at e; rw [e]; exact htab, hbel⟩
                have HRES0 := Lib.hid hres
                clear htab hres
                obtain ⟨v1, d1⟩ := BS0.out.tab.old (show k * 10 + 1 < n * 10 by omega)
                have z1 := BS0.out.tab.frozen (k * 10 + 1)
                go_wp2_with (go_at_call 21; refine (kind_any x1 q1.1 q1.2 _).mono ?_)
                rintro e w1 ⟨rfl, hg1⟩
                have BS1 : Hid (BSt w w1 g n k (fun m => if m < k then symF n ss ks ls ds m else SymR.zero) ⟨x0, 0, 0, 0, 0, 0⟩) := Lib.hid ((BS0.out.set hgw hlt (j := 1) (by omega) _ ⟨x0, 0, 0, 0, 0, 0⟩ rfl).grown hg1)
                have HRES1 : Hid (Blk w1 w.heap.size 30 #[.slice none 0 0]) := Lib.hid ((HRES0.out.far (p := ⟨g, k * 10 + 1, none⟩) (by show w.heap.size ≠ g; omega) _).grown hg1 (by simp))
                clear d1 z1
                clear hg1 BS0 HRES0 c1 c0
                obtain ⟨v8, d8⟩ := BS1.out.tab.old (show k * 10 + 8 < n * 10 by omega)
                have z8 := BS1.out.tab.frozen (k * 10 + 8)
                go_wp2_with (go_at_call 22; refine (inval_any _).mono ?_)
                rintro e w2 ⟨rfl, hg2⟩
                have BS2 : Hid (BSt w w2 g n k (fun m => if m < k then symF n ss ks ls ds m else SymR.zero) ⟨x0, 0, 0, 0, 0, kdOf x1⟩) := Lib.hid ((BS1.out.set hgw hlt (j := 8) (by omega) _ ⟨x0, 0, 0, 0, 0, kdOf x1⟩ rfl).grown hg2)
                have HRES2 : Hid (Blk w2 w.heap.size 30 #[.slice none 0 0]) := Lib.hid ((HRES1.out.far (p := ⟨g, k * 10 + 8, none⟩) (by show w.heap.size ≠ g; omega) _).grown hg2 (by simp))
                clear hg2 BS1 HRES1
                clear d8 z8
                obtain ⟨v2, d2⟩ := BS2.out.tab.old (show k * 10 + 2 < n * 10 by omega)
                have z2 := BS2.out.tab.frozen (k * 10 + 2)
                obtain ⟨v3, d3⟩ := BS2.out.tab.old (show k * 10 + 3 < n * 10 by omega)
                have z3 := BS2.out.tab.frozen (k * 10 + 3)
                have c2 : w2.cell? ⟨b2, off2 + k, none⟩ = some (.int .u32 x2) := C2.out w2 BS2.out.bel
                have c3 : w2.cell? ⟨b3, off3 + k, none⟩ = some (.int .u32 x3) := C3.out w2 BS2.out.bel
                go_wp2_with (go_at_call 23; refine (mki_any (x3 - 1) (by omega) (by omega) _).mono ?_)
                rintro e w4 ⟨rfl, hg4⟩
                have BS4 : Hid (BSt w w4 g n k (fun m => if m < k then symF n ss ks ls ds m else SymR.zero) ⟨x0, 4294967295, 4294967295, 0, 0, kdOf x1⟩) := Lib.hid (((BS2.out.set hgw hlt (j := 2) (by omega) (.int .u32 4294967295) ⟨x0, 4294967295, 0, 0, 0, kdOf x1⟩ rfl).set hgw hlt (j := 3) (by omega) (.int .u32 4294967295) ⟨x0, 4294967295, 4294967295, 0, 0, kdOf x1⟩ rfl).grown hg4)
                have HRES4 : Hid (Blk w4 w.heap.size 30 #[.slice none 0 0]) := Lib.hid (((HRES2.out.far (p := ⟨g, k * 10 + 2, none⟩) (by show w.heap.size ≠ g; omega) (.int .u32 4294967295)).far (p := ⟨g, k * 10 + 3, none⟩) (by show w.heap.size ≠ g; omega) (.int .u32 4294967295)).grown hg4 (by simp))
                clear hg4 BS2 HRES2 c3
                clear d2 z2 d3 z3
                obtain ⟨v6, d6⟩ := BS4.out.tab.old (show k * 10 + 6 < n * 10 by omega)
                have z6 := BS4.out.tab.frozen (k * 10 + 6)
                have HFB := Lib.hid (BS4.out.set hgw hlt (j := 6) (by omega) (.int .u32 (4294967295 - (x3 - 1))) ⟨x0, 4294967295, 4294967295, 4294967295 - (x3 - 1), 0, kdOf x1⟩ rfl)
                have HFR := Lib.hid (HRES4.out.far (p := ⟨g, k * 10 + 6, none⟩) (by show w.heap.size ≠ g; omega) (.int .u32 (4294967295 - (x3 - 1))))
                go_wp2
                go_roundw
                case rel =>
                  refine ⟨k + 1, by go_num, by omega, HFB.out.tab.ext (fun m hm => ?_), HFR.out, HFB.out.bel⟩
                  exact upd_next HSY.out m hm
                case measure => simp [intOf]; omega
            · skip
              obtain ⟨b0, off0, e0, hb0, hc0⟩ := reads_any (H0.out.below hbel) (by omega)
              subst e0
              obtain ⟨x0, hx0⟩ : ∃ x, ss[k]? = some x := ⟨_, List.getElem?_eq_getElem (by have := L0.out; omega)⟩
              have c0 := hc0 k x0 hx0
              have GN : Hid (ss.getD k ⟨#[]⟩ = x0) := Lib.hid (by rw [List.getD_eq_getElem?_getD, hx0]; rfl)
              clear hc0 hx0
              have c2 := hc2 k x2 hx2
              have GL : Hid (ls.getD k 0 = x2) := Lib.hid (by rw [List.getD_eq_getElem?_getD, hx2]; rfl)
              clear hc2 hx2
              have GD : Hid (ds.getD k 0 = 0) := Lib.hid (by rw [List.getD_eq_getElem?_getD, List.getElem?_eq_none (by have := L3.out; omega)]; rfl)
              have HOK : Hid (¬ lkOk n ls k) := Lib.hid (by unfold lkOk; rw [GL.out]; omega)
              have HSY : Hid (symF n ss ks ls ds k = ⟨x0, 4294967295, 4294967295, 0, 0, kdOf x1⟩) := Lib.hid (by unfold symF; rw [GN.out, GK.out, GD.out, GL.out]; simp only [if_neg HOK.out, if_true])
              have BS0 : Hid (BSt w wr g n k (fun m => if m < k then symF n ss ks ls ds m else SymR.zero) SymR.zero) := Lib.hid ⟨by have e := upd_self (fun m => if m < k then symF n ss ks ls ds m else SymR.zero) k; simp only [Nat.lt_irrefl, if_false] at e; rw [e]; exact htab, hbel⟩
              have HRES0 := Lib.hid hres
              clear htab hres
              obtain ⟨v1, d1⟩ := BS0.out.tab.old (show k * 10 + 1 < n * 10 by omega)
              have z1 := BS0.out.tab.frozen (k * 10 + 1)
              go_wp2_with (go_at_call 21; refine (kind_any x1 q1.1 q1.2 _).mono ?_)
              rintro e w1 ⟨rfl, hg1⟩
              have BS1 : Hid (BSt w w1 g n k (fun m => if m < k then symF n ss ks ls ds m else SymR.zero) ⟨x0, 0, 0, 0, 0, 0⟩) := Lib.hid ((BS0.out.set hgw hlt (j := 1) (by omega) _ ⟨x0, 0, 0, 0, 0, 0⟩ rfl).grown hg1)
              have HRES1 : Hid (Blk w1 w.heap.size 30 #[.slice none 0 0]) := Lib.hid ((HRES0.out.far (p := ⟨g, k * 10 + 1, none⟩) (by show w.heap.size ≠ g; omega) _).grown hg1 (by simp))
              clear d1 z1
              clear hg1 BS0 HRES0 c1 c0
              obtain ⟨v8, d8⟩ := BS1.out.tab.old (show k * 10 + 8 < n * 10 by omega)
              have z8 := BS1.out.tab.frozen (k * 10 + 8)
              go_wp2_with (go_at_call 22; refine (inval_any _).mono ?_)
              rintro e w2 ⟨rfl, hg2⟩
              have BS2 : Hid (BSt w w2 g n k (fun m => if m < k then symF n ss ks ls ds m else SymR.zero) ⟨x0, 0, 0, 0, 0, kdOf x1⟩) := Lib.hid ((BS1.out.set hgw hlt (j := 8) (by omega) _ ⟨x0, 0, 0, 0, 0, kdOf x1⟩ rfl).grown hg2)
              have HRES2 : Hid (Blk w2 w.heap.size 30 #[.slice none 0 0]) := Lib.hid ((HRES1.out.far (p := ⟨g, k * 10 + 8, none⟩) (by show w.heap.size ≠ g; omega) _).grown hg2 (by simp))
              clear hg2 BS1 HRES1
              clear d8 z8
              obtain ⟨v2, d2⟩ := BS2.out.tab.old (show k * 10 + 2 < n * 10 by omega)
              have z2 := BS2.out.tab.frozen (k * 10 + 2)
              obtain ⟨v3, d3⟩ := BS2.out.tab.old (show k * 10 + 3 < n * 10 by omega)
              have z3 := BS2.out.tab.frozen (k * 10 + 3)
              have c2 : w2.cell? ⟨b2, off2 + k, none⟩ = some (.int .u32 x2) := C2.out w2 BS2.out.bel
              have HFB := Lib.hid ((BS2.out.set hgw hlt (j := 2) (by omega) (.int .u32 4294967295) ⟨x0, 4294967295, 0, 0, 0, kdOf x1⟩ rfl).set hgw hlt (j := 3) (by omega) (.int .u32 4294967295) ⟨x0, 4294967295, 4294967295, 0, 0, kdOf x1⟩ rfl)
              have HFR := Lib.hid ((HRES2.out.far (p := ⟨g, k * 10 + 2, none⟩) (by show w.heap.size ≠ g; omega) (.int .u32 4294967295)).far (p := ⟨g, k * 10 + 3, none⟩) (by show w.heap.size ≠ g; omega) (.int .u32 4294967295))
              go_wp2
              go_roundw
              case rel =>
                refine ⟨k + 1, by go_num, by omega, HFB.out.tab.ext (fun m hm => ?_), HFR.out, HFB.out.bel⟩
                exact upd_next HSY.out m hm
              case measure => simp [intOf]; omega
          · skip
            by_cases hnd : k < nd
            · skip
              obtain ⟨b3, off3, e3, hb3, hc3'⟩ := reads_any (H3.out) (by omega)
              subst e3
              have hb3' : ¬ b3 = g := by omega
              have hb3'' : ¬ g = b3 := by omega
              obtain ⟨x3, hx3⟩ : ∃ x, ds[k]? = some x := ⟨_, List.getElem?_eq_getElem (by have := L3.out; omega)⟩
              have q3 := HD.out x3 (List.mem_of_getElem? hx3)
              have C3 : Hid (∀ W, Below w.heap.size w W → W.cell? ⟨b3, off3 + k, none⟩ = some (.int .u32 x3)) := Lib.hid (fun W hW => (hW.cell (p := ⟨b3, off3 + k, none⟩) hb3).trans (hc3' k x3 hx3))
              have hc3 : ∀ i l, ds[i]? = some l → w.cell? ⟨b3, off3 + i, none⟩ = some (.int .u32 l) := hc3'
              clear hc3'
              by_cases hz3 : x3 = 0
              · have t3 : (x3 != 0) = false := by rw [hz3]; rfl
                obtain ⟨b0, off0, e0, hb0, hc0⟩ := reads_any (H0.out.below hbel) (by omega)
                subst e0
                obtain ⟨x0, hx0⟩ : ∃ x, ss[k]? = some x := ⟨_, List.getElem?_eq_getElem (by have := L0.out; omega)⟩
                have c0 := hc0 k x0 hx0
                have GN : Hid (ss.getD k ⟨#[]⟩ = x0) := Lib.hid (by rw [List.getD_eq_getElem?_getD, hx0]; rfl)
                clear hc0 hx0
                have c2 := hc2 k x2 hx2
                have GL : Hid (ls.getD k 0 = x2) := Lib.hid (by rw [List.getD_eq_getElem?_getD, hx2]; rfl)
                clear hc2 hx2
                have c3 := hc3 k x3 hx3
                have GD : Hid (ds.getD k 0 = x3) := Lib.hid (by rw [List.getD_eq_getElem?_getD, hx3]; rfl)
                clear hc3 hx3
                have HOK : Hid (lkOk n ls k) := Lib.hid (by unfold lkOk; rw [GL.out]; omega)
                have HSY : Hid (symF n ss ks ls ds k = ⟨x0, (0 : Int), x2, 0, 0, kdOf x1⟩) := Lib.hid (by unfold symF; rw [GN.out, GK.out, GD.out, GL.out]; simp only [if_pos HOK.out, if_pos hz3])
                clear hz3
                have BS0 : Hid (BSt w wr g n k (fun m => if m < k then symF n ss ks ls ds m else SymR.zero) SymR.zero) := Lib.hid ⟨by have e := upd_self (fun m => if m < k then symF n ss ks ls ds m else SymR.zero) k; simp only [Nat.lt_irrefl, if_false] at e; rw [e]; exact htab, hbel⟩
                have HRES0 := Lib.hid hres
                clear htab hres
                obtain ⟨v1, d1⟩ := BS0.out.tab.old (show k * 10 + 1 < n * 10 by omega)
                have z1 := BS0.out.tab.frozen (k * 10 + 1)
                go_wp2_with (go_at_call 21; refine (kind_any x1 q1.1 q1.2 _).mono ?_)
                rintro e w1 ⟨rfl, hg1⟩
                have BS1 : Hid (BSt w w1 g n k (fun m => if m < k then symF n ss ks ls ds m else SymR.zero) ⟨x0, 0, 0, 0, 0, 0⟩) := Lib.hid ((BS0.out.set hgw hlt (j := 1) (by omega) _ ⟨x0, 0, 0, 0, 0, 0⟩ rfl).grown hg1)
                have HRES1 : Hid (Blk w1 w.heap.size 30 #[.slice none 0 0]) := Lib.hid ((HRES0.out.far (p := ⟨g, k * 10 + 1, none⟩) (by show w.heap.size ≠ g; omega) _).grown hg1 (by simp))
                clear d1 z1
                clear hg1 BS0 HRES0 c1 c0
                obtain ⟨v8, d8⟩ := BS1.out.tab.old (show k * 10 + 8 < n * 10 by omega)
                have z8 := BS1.out.tab.frozen (k * 10 + 8)
                go_wp2_with (go_at_call 22; refine (inval_any _).mono ?_)
                rintro e w2 ⟨rfl, hg2⟩
                have BS2 : Hid (BSt w w2 g n k (fun m => if m < k then symF n ss ks ls ds m else SymR.zero) ⟨x0, 0, 0, 0, 0, kdOf x1⟩) := Lib.hid ((BS1.out.set hgw hlt (j := 8) (by omega) _ ⟨x0, 0, 0, 0, 0, kdOf x1⟩ rfl).grown hg2)
                have HRES2 : Hid (Blk w2 w.heap.size 30 #[.slice none 0 0]) := Lib.hid ((HRES1.out.far (p := ⟨g, k * 10 + 8, none⟩) (by show w.heap.size ≠ g; omega) _).grown hg2 (by simp))
                clear hg2 BS1 HRES1
                clear d8 z8
                obtain ⟨v2, d2⟩ := BS2.out.tab.old (show k * 10 + 2 < n * 10 by omega)
                have z2 := BS2.out.tab.frozen (k * 10 + 2)
                obtain ⟨v3, d3⟩ := BS2.out.tab.old (show k * 10 + 3 < n * 10 by omega)
                have z3 := BS2.out.tab.frozen (k * 10 + 3)
                have c2 : w2.cell? ⟨b2, off2 + k, none⟩ = some (.int .u32 x2) := C2.out w2 BS2.out.bel
                go_wp2_with (go_at_call 11; refine (ref_any x2 _).mono ?_)
                rintro e w3 ⟨rfl, hg3⟩
                have BS3 : Hid (BSt w w3 g n k (fun m => if m < k then symF n ss ks ls ds m else SymR.zero) ⟨x0, 4294967295, 4294967295, 0, 0, kdOf x1⟩) := Lib.hid (((BS2.out.set hgw hlt (j := 2) (by omega) (.int .u32 4294967295) ⟨x0, 4294967295, 0, 0, 0, kdOf x1⟩ rfl).set hgw hlt (j := 3) (by omega) (.int .u32 4294967295) ⟨x0, 4294967295, 4294967295, 0, 0, kdOf x1⟩ rfl).grown hg3)
                have HRES3 : Hid (Blk w3 w.heap.size 30 #[.slice none 0 0]) := Lib.hid (((HRES2.out.far (p := ⟨g, k * 10 + 2, none⟩) (by show w.heap.size ≠ g; omega) (.int .u32 4294967295)).far (p := ⟨g, k * 10 + 3, none⟩) (by show w.heap.size ≠ g; omega) (.int .u32 4294967295)).grown hg3 (by simp))
                clear hg3 BS2 HRES2 c2
                clear d2 z2 d3 z3
                obtain ⟨v2, d2⟩ := BS3.out.tab.old (show k * 10 + 2 < n * 10 by omega)
                have z2 := BS3.out.tab.frozen (k * 10 + 2)
                obtain ⟨v3, d3⟩ := BS3.out.tab.old (show k * 10 + 3 < n * 10 by omega)
                have z3 := BS3.out.tab.frozen (k * 10 + 3)
                have c3 : w3.cell? ⟨b3, off3 + k, none⟩ = some (.int .u32 x3) := C3.out w3 BS3.out.bel
                have HFB := Lib.hid ((BS3.out.set hgw hlt (j := 2) (by omega) (.int .u32 0) ⟨x0, 0, 4294967295, 0, 0, kdOf x1⟩ rfl).set hgw hlt (j := 3) (by omega) (.int .u32 x2) ⟨x0, 0, x2, 0, 0, kdOf x1⟩ rfl)
                have HFR := Lib.hid ((HRES3.out.far (p := ⟨g, k * 10 + 2, none⟩) (by show w.heap.size ≠ g; omega) (.int .u32 0)).far (p := ⟨g, k * 10 + 3, none⟩) (by show w.heap.size ≠ g; omega) (.int .u32 x2))
                go_wp2
                go_roundw
                case rel =>
                  refine ⟨k + 1, by go_num, by omega, HFB.out.tab.ext (fun m hm => ?_), HFR.out, HFB.out.bel⟩
                  exact upd_next HSY.out m hm
                case measure => simp [intOf]; omega
              · have t3 : (x3 != 0) = true := by rw [bne_iff_ne]; exact hz3
                obtain ⟨b0, off0, e0, hb0, hc0⟩ := reads_any (H0.out.below hbel) (by omega)
                subst e0
                obtain ⟨x0, hx0⟩ : ∃ x, ss[k]? = some x := ⟨_, List.getElem?_eq_getElem (by have := L0.out; omega)⟩
                have c0 := hc0 k x0 hx0
                have GN : Hid (ss.getD k ⟨#[]⟩ = x0) := Lib.hid (by rw [List.getD_eq_getElem?_getD, hx0]; rfl)
                clear hc0 hx0
                have c2 := hc2 k x2 hx2
                have GL : Hid (ls.getD k 0 = x2) := Lib.hid (by rw [List.getD_eq_getElem?_getD, hx2]; rfl)
                clear hc2 hx2
                have c3 := hc3 k x3 hx3
                have GD : Hid (ds.getD k 0 = x3) := Lib.hid (by rw [List.getD_eq_getElem?_getD, hx3]; rfl)
                clear hc3 hx3
                have HOK : Hid (lkOk n ls k) := Lib.hid (by unfold lkOk; rw [GL.out]; omega)
                have HSY : Hid (symF n ss ks ls ds k = ⟨x0, (0 : Int), x2, 4294967295 - (x3 - 1), 0, kdOf x1⟩) := Lib.hid (by unfold symF; rw [GN.out, GK.out, GD.out, GL.out]; simp only [if_pos HOK.out, if_neg hz3])
                have BS0 : Hid (BSt w wr g n k (fun m => if m < k then symF n ss ks ls ds m else SymR.zero) SymR.zero) := Lib.hid ⟨by have e := upd_self (fun m => if m < k then symF n ss ks ls ds m else SymR.zero) k; simp only [Nat.lt_irrefl, if_false] at e; rw [e]; exact htab, hbel⟩
                have HRES0 := Lib.hid hres
                clear htab hres
                obtain ⟨v1, d1⟩ := BS0.out.tab.old (show k * 10 + 1 < n * 10 by omega)
                have z1 := BS0.out.tab.frozen (k * 10 + 1)
                go_wp2_with (go_at_call 21; refine (kind_any x1 q1.1 q1.2 _).mono ?_)
                rintro e w1 ⟨rfl, hg1⟩
                have BS1 : Hid (BSt w w1 g n k (fun m => if m < k then symF n ss ks ls ds m else SymR.zero) ⟨x0, 0, 0, 0, 0, 0⟩) := Lib.hid ((BS0.out.set hgw hlt (j := 1) (by omega) _ ⟨x0, 0, 0, 0, 0, 0⟩ rfl).grown hg1)
                have HRES1 : Hid (Blk w1 w.heap.size 30 #[.slice none 0 0]) := Lib.hid ((HRES0.out.far (p := ⟨g, k * 10 + 1, none⟩) (by show w.heap.size ≠ g; omega) _).grown hg1 (by simp))
                clear d1 z1
                clear hg1 BS0 HRES0 c1 c0
                obtain ⟨v8, d8⟩ := BS1.out.tab.old (show k * 10 + 8 < n * 10 by omega)
                have z8 := BS1.out.tab.frozen (k * 10 + 8)
                go_wp2_with (go_at_call 22; refine (inval_any _).mono ?_)
                rintro e w2 ⟨rfl, hg2⟩
                have BS2 : Hid (BSt w w2 g n k (fun m => if m < k then symF n ss ks ls ds m else SymR.zero) ⟨x0, 0, 0, 0, 0, kdOf x1⟩) := Lib.hid ((BS1.out.set hgw hlt (j := 8) (by omega) _ ⟨x0, 0, 0, 0, 0, kdOf x1⟩ rfl).grown hg2)
                have HRES2 : Hid (Blk w2 w.heap.size 30 #[.slice none 0 0]) := Lib.hid ((HRES1.out.far (p := ⟨g, k * 10 + 8, none⟩) (by show w.heap.size ≠ g; omega) _).grown hg2 (by simp))
                clear hg2 BS1 HRES1
                clear d8 z8
                obtain ⟨v2, d2⟩ := BS2.out.tab.old (show k * 10 + 2 < n * 10 by omega)
                have z2 := BS2.out.tab.frozen (k * 10 + 2)
                obtain ⟨v3, d3⟩ := BS2.out.tab.old (show k * 10 + 3 < n * 10 by omega)
                have z3 := BS2.out.tab.frozen (k * 10 + 3)
                have c2 : w2.cell? ⟨b2, off2 + k, none⟩ = some (.int .u32 x2) := C2.out w2 BS2.out.bel
                go_wp2_with (go_at_call 11; refine (ref_any x2 _).mono ?_)
                rintro e w3 ⟨rfl, hg3⟩
                have BS3 : Hid (BSt w w3 g n k (fun m => if m < k then symF n ss ks ls ds m else SymR.zero) ⟨x0, 4294967295, 4294967295, 0, 0, kdOf x1⟩) := Lib.hid (((BS2.out.set hgw hlt (j := 2) (by omega) (.int .u32 4294967295) ⟨x0, 4294967295, 0, 0, 0, kdOf x1⟩ rfl).set hgw hlt (j := 3) (by omega) (.int .u32 4294967295) ⟨x0, 4294967295, 4294967295, 0, 0, kdOf x1⟩ rfl).grown hg3)
                have HRES3 : Hid (Blk w3 w.heap.size 30 #[.slice none 0 0]) := Lib.hid (((HRES2.out.far (p := ⟨g, k * 10 + 2, none⟩) (by show w.heap.size ≠ g; omega) (.int .u32 4294967295)).far (p := ⟨g, k * 10 + 3, none⟩) (by show w.heap.size ≠ g; omega) (.int .u32 4294967295)).grown hg3 (by simp))
                clear hg3 BS2 HRES2 c2
                clear d2 z2 d3 z3
                obtain ⟨v2, d2⟩ := BS3.out.tab.old (show k * 10 + 2 < n * 10 by omega)
                have z2 := BS3.out.tab.frozen (k * 10 + 2)
                obtain ⟨v3, d3⟩ := BS3.out.tab.old (show k * 10 + 3 < n * 10 by omega)
                have z3 := BS3.out.tab.frozen (k * 10 + 3)
                have c3 : w3.cell? ⟨b3, off3 + k, none⟩ = some (.int .u32 x3) := C3.out w3 BS3.out.bel
                go_wp2_with (go_at_call 23; refine (mki_any (x3 - 1) (by omega) (by omega) _).mono ?_)
                rintro e w4 ⟨rfl, hg4⟩
                have BS4 : Hid (BSt w w4 g n k (fun m => if m < k then symF n ss ks ls ds m else SymR.zero) ⟨x0, 0, x2, 0, 0, kdOf x1⟩) := Lib.hid (((BS3.out.set hgw hlt (j := 2) (by omega) (.int .u32 0) ⟨x0, 0, 4294967295, 0, 0, kdOf x1⟩ rfl).set hgw hlt (j := 3) (by omega) (.int .u32 x2) ⟨x0, 0, x2, 0, 0, kdOf x1⟩ rfl).grown hg4)
                have HRES4 : Hid (Blk w4 w.heap.size 30 #[.slice none 0 0]) := Lib.hid (((HRES3.out.far (p := ⟨g, k * 10 + 2, none⟩) (by show w.heap.size ≠ g; omega) (.int .u32 0)).far (p := ⟨g, k * 10 + 3, none⟩) (by show w.heap.size ≠ g; omega) (.int .u32 x2)).grown hg4 (by simp))
                clear hg4 BS3 HRES3 c3
                clear d2 z2 d3 z3
                obtain ⟨v6, d6⟩ := BS4.out.tab.old (show k * 10 + 6 < n * 10 by omega)
                have z6 := BS4.out.tab.frozen (k * 10 + 6)
                have HFB := Lib.hid (BS4.out.set hgw hlt (j := 6) (by omega) (.int .u32 (4294967295 - (x3 - 1))) ⟨x0, 0, x2, 4294967295 - (x3 - 1), 0, kdOf x1⟩ rfl)
                have HFR := Lib.hid (HRES4.out.far (p := ⟨g, k * 10 + 6, none⟩) (by show w.heap.size ≠ g; omega) (.int .u32 (4294967295 - (x3 - 1))))
                go_wp2
                go_roundw
                case rel =>
                  refine ⟨k + 1, by go_num, by omega, HFB.out.tab.ext (fun m hm => ?_), HFR.out, HFB.out.bel⟩
                  exact upd_next HSY.out m hm
                case measure => simp [intOf]; omega
            · skip
              obtain ⟨b0, off0, e0, hb0, hc0⟩ := reads_any (H0.out.below hbel) (by omega)
              subst e0
              obtain ⟨x0, hx0⟩ : ∃ x, ss[k]? = some x := ⟨_, List.getElem?_eq_getElem (by have := L0.out; omega)⟩
              have c0 := hc0 k x0 hx0
              have GN : Hid (ss.getD k ⟨#[]⟩ = x0) := Lib.hid (by rw [List.getD_eq_getElem?_getD, hx0]; rfl)
              clear hc0 hx0
              have c2 := hc2 k x2 hx2
              have GL : Hid (ls.getD k 0 = x2) := Lib.hid (by rw [List.getD_eq_getElem?_getD, hx2]; rfl)
              clear hc2 hx2
              have GD : Hid (ds.getD k 0 = 0) := Lib.hid (by rw [List.getD_eq_getElem?_getD, List.getElem?_eq_none (by have := L3.out; omega)]; rfl)
              have HOK : Hid (lkOk n ls k) := Lib.hid (by unfold lkOk; rw [GL.out]; omega)
              have HSY : Hid (symF n ss ks ls ds k = ⟨x0, (0 : Int), x2, 0, 0, kdOf x1⟩) := Lib.hid (by unfold symF; rw [GN.out, GK.out, GD.out, GL.out]; simp only [if_pos HOK.out, if_true])
              have BS0 : Hid (BSt w wr g n k (fun m => if m < k then symF n ss ks ls ds m else SymR.zero) SymR.zero) := Lib.hid ⟨by have e := upd_self (fun m => if m < k then symF n ss ks ls ds m else SymR.zero) k; simp only [Nat.lt_irrefl, if_false] at e; rw [e]; exact htab, hbel⟩
              have HRES0 := Lib.hid hres
              clear htab hres
              obtain ⟨v1, d1⟩ := BS0.out.tab.old (show k * 10 + 1 < n * 10 by omega)
              have z1 := BS0.out.tab.frozen (k * 10 + 1)
              go_wp2_with (go_at_call 21; refine (kind_any x1 q1.1 q1.2 _).mono ?_)
              rintro e w1 ⟨rfl, hg1⟩
              have BS1 : Hid (BSt w w1 g n k (fun m => if m < k then symF n ss ks ls ds m else SymR.zero) ⟨x0, 0, 0, 0, 0, 0⟩) := Lib.hid ((BS0.out.set hgw hlt (j := 1) (by omega) _ ⟨x0, 0, 0, 0, 0, 0⟩ rfl).grown hg1)
              have HRES1 : Hid (Blk w1 w.heap.size 30 #[.slice none 0 0]) := Lib.hid ((HRES0.out.far (p := ⟨g, k * 10 + 1, none⟩) (by show w.heap.size ≠ g; omega) _).grown hg1 (by simp))
              clear d1 z1
              clear hg1 BS0 HRES0 c1 c0
              obtain ⟨v8, d8⟩ := BS1.out.tab.old (show k * 10 + 8 < n * 10 by omega)
              have z8 := BS1.out.tab.frozen (k * 10 + 8)
              go_wp2_with (go_at_call 22; refine (inval_any _).mono ?_)
              rintro e w2 ⟨rfl, hg2⟩
              have BS2 : Hid (BSt w w2 g n k (fun m => if m < k then symF n ss ks ls ds m else SymR.zero) ⟨x0, 0, 0, 0, 0, kdOf x1⟩) := Lib.hid ((BS1.out.set hgw hlt (j := 8) (by omega) _ ⟨x0, 0, 0, 0, 0, kdOf x1⟩ rfl).grown hg2)
              have HRES2 : Hid (Blk w2 w.heap.size 30 #[.slice none 0 0]) := Lib.hid ((HRES1.out.far (p := ⟨g, k * 10 + 8, none⟩) (by show w.heap.size ≠ g; omega) _).grown hg2 (by simp))
              clear hg2 BS1 HRES1
              clear d8 z8
              obtain ⟨v2, d2⟩ := BS2.out.tab.old (show k * 10 + 2 < n * 10 by omega)
              have z2 := BS2.out.tab.frozen (k * 10 + 2)
              obtain ⟨v3, d3⟩ := BS2.out.tab.old (show k * 10 + 3 < n * 10 by omega)
              have z3 := BS2.out.tab.frozen (k * 10 + 3)
              have c2 : w2.cell? ⟨b2, off2 + k, none⟩ = some (.int .u32 x2) := C2.out w2 BS2.out.bel
              go_wp2_with (go_at_call 11; refine (ref_any x2 _).mono ?_)
              rintro e w3 ⟨rfl, hg3⟩
              have BS3 : Hid (BSt w w3 g n k (fun m => if m < k then symF n ss ks ls ds m else SymR.zero) ⟨x0, 4294967295, 4294967295, 0, 0, kdOf x1⟩) := Lib.hid (((BS2.out.set hgw hlt (j := 2) (by omega) (.int .u32 4294967295) ⟨x0, 4294967295, 0, 0, 0, kdOf x1⟩ rfl).set hgw hlt (j := 3) (by omega) (.int .u32 4294967295) ⟨x0, 4294967295, 4294967295, 0, 0, kdOf x1⟩ rfl).grown hg3)
              have HRES3 : Hid (Blk w3 w.heap.size 30 #[.slice none 0 0]) := Lib.hid (((HRES2.out.far (p := ⟨g, k * 10 + 2, none⟩) (by show w.heap.size ≠ g; omega) (.int .u32 4294967295)).far (p := ⟨g, k * 10 + 3, none⟩) (by show w.heap.size ≠ g; omega) (.int .u32 4294967295)).grown hg3 (by simp))
              clear hg3 BS2 HRES2 c2
              clear d2 z2 d3 z3
              obtain ⟨v2, d2⟩ := BS3.out.tab.old (show k * 10 + 2 < n * 10 by omega)
              have z2 := BS3.out.tab.frozen (k * 10 + 2)
              obtain ⟨v3, d3⟩ := BS3.out.tab.old (show k * 10 + 3 < n * 10 by omega)
              have z3 := BS3.out.tab.frozen (k * 10 + 3)
              have HFB := Lib.hid ((BS3.out.set hgw hlt (j := 2) (by omega) (.int .u32 0) ⟨x0, 0, 4294967295, 0, 0, kdOf x1⟩ rfl).set hgw hlt (j := 3) (by omega) (.int .u32 x2) ⟨x0, 0, x2, 0, 0, kdOf x1⟩ rfl)
              have HFR := Lib.hid ((HRES3.out.far (p := ⟨g, k * 10 + 2, none⟩) (by show w.heap.size ≠ g; omega) (.int .u32 0)).far (p := ⟨g, k * 10 + 3, none⟩) (by show w.heap.size ≠ g; omega) (.int .u32 x2))
              go_wp2
              go_roundw
              case rel =>
                refine ⟨k + 1, by go_num, by omega, HFB.out.tab.ext (fun m hm => ?_), HFR.out, HFB.out.bel⟩
                exact upd_next HSY.out m hm
              case measure => simp [intOf]; omega
        · skip
          by_cases hnd : k < nd
          · skip
            obtain ⟨b3, off3, e3, hb3, hc3'⟩ := reads_any (H3.out) (by omega)
            subst e3
            have hb3' : ¬ b3 = g := by omega
            have hb3'' : ¬ g = b3 := by omega
            obtain ⟨x3, hx3⟩ : ∃ x, ds[k]? = some x := ⟨_, List.getElem?_eq_getElem (by have := L3.out; omega)⟩
            have q3 := HD.out x3 (List.mem_of_getElem? hx3)
            have C3 : Hid (∀ W, Below w.heap.size w W → W.cell? ⟨b3, off3 + k, none⟩ = some (.int .u32 x3)) := Lib.hid (fun W hW => (hW.cell (p := ⟨b3, off3 + k, none⟩) hb3).trans (hc3' k x3 hx3))
            have hc3 : ∀ i l, ds[i]? = some l → w.cell? ⟨b3, off3 + i, none⟩ = some (.int .u32 l) := hc3'
            clear hc3'
            by_cases hz3 : x3 = 0
            · have t3 : (x3 != 0) = false := by rw [hz3]; rfl
              obtain ⟨b0, off0, e0, hb0, hc0⟩ := reads_any (H0.out.below hbel) (by omega)
              subst e0
              obtain ⟨x0, hx0⟩ : ∃ x, ss[k]? = some x := ⟨_, List.getElem?_eq_getElem (by have := L0.out; omega)⟩
              have c0 := hc0 k x0 hx0
              have GN : Hid (ss.getD k ⟨#[]⟩ = x0) := Lib.hid (by rw [List.getD_eq_getElem?_getD, hx0]; rfl)
              clear hc0 hx0
              have GL : Hid (ls.getD k 0 = 0) := Lib.hid (by rw [List.getD_eq_getElem?_getD, List.getElem?_eq_none (by have := L2.out; omega)]; rfl)
              have c3 := hc3 k x3 hx3
              have GD : Hid (ds.getD k 0 = x3) := Lib.hid (by rw [List.getD_eq_getElem?_getD, hx3]; rfl)
              clear hc3 hx3
              have HOK : Hid (¬ lkOk n ls k) := Lib.hid (by unfold lkOk; rw [GL.out]; omega)
              have HSY : Hid (symF n ss ks ls ds k = ⟨x0, 4294967295, 4294967295, 0, 0, kdOf x1⟩) := Lib.hid (by unfold symF; rw [GN.out, GK.out, GD.out, GL.out]; simp only [if_neg HOK.out, if_pos hz3])
              clear hz3
              have BS0 : Hid (BSt w wr g n k (fun m => if m < k then symF n ss ks ls ds m else SymR.zero) SymR.zero) := Lib.hid ⟨by have e := upd_self (fun m => if m < k then symF n ss ks ls ds m else SymR.zero) k; simp only [Nat.lt_irrefl, if_false] at e; rw [e]; exact htab, hbel⟩
              have HRES0 := Lib.hid hres
              clear htab hres
              obtain ⟨v1, d1⟩ := BS0.out.tab.old (show k * 10 + 1 < n * 10 by omega)
              have z1 := BS0.out.tab.frozen (k * 10 + 1)
              go_wp2_with (go_at_call 21; refine (kind_any x1 q1.1 q1.2 _).mono ?_)
              rintro e w1 ⟨rfl, hg1⟩
              have BS1 : Hid (BSt w w1 g n k (fun m => if m < k then symF n ss ks ls ds m else SymR.zero) ⟨x0, 0, 0, 0, 0, 0⟩) := Lib.hid ((BS0.out.set hgw hlt (j := 1) (by omega) _ ⟨x0, 0, 0, 0, 0, 0⟩ rfl).grown hg1)
              have HRES1 : Hid (Blk w1 w.heap.size 30 #[.slice none 0 0]) := Lib.hid ((HRES0.out.far (p := ⟨g, k * 10 + 1, none⟩) (by show w.heap.size ≠ g; omega) _).grown hg1 (by simp))
              clear d1 z1
              clear hg1 BS0 HRES0 c1 c0
              obtain ⟨v8, d8⟩ := BS1.out.tab.old (show k * 10 + 8 < n * 10 by omega)
              have z8 := BS1.out.tab.frozen (k * 10 + 8)
              go_wp2_with (go_at_call 22; refine (inval_any _).mono ?_)
              rintro e w2 ⟨rfl, hg2⟩
              have BS2 : Hid (BSt w w2 g n k (fun m => if m < k then symF n ss ks ls ds m else SymR.zero) ⟨x0, 0, 0, 0, 0, kdOf x1⟩) := Lib.hid ((BS1.out.set hgw hlt (j := 8) (by omega) _ ⟨x0, 0, 0, 0, 0, kdOf x1⟩ rfl).grown hg2)
              have HRES2 : Hid (Blk w2 w.heap.size 30 #[.slice none 0 0]) := Lib.hid ((HRES1.out.far (p := ⟨g, k * 10 + 8, none⟩) (by show w.heap.size ≠ g; omega) _).grown hg2 (by simp))
              clear hg2 BS1 HRES1
              clear d8 z8
              obtain ⟨v2, d2⟩ := BS2.out.tab.old (show k * 10 + 2 < n * 10 by omega)
              have z2 := BS2.out.tab.frozen (k * 10 + 2)
              obtain ⟨v3, d3⟩ := BS2.out.tab.old (show k * 10 + 3 < n * 10 by omega)
              have z3 := BS2.out.tab.frozen (k * 10 + 3)
              have c3 : w2.cell? ⟨b3, off3 + k, none⟩ = some (.int .u32 x3) := C3.out w2 BS2.out.bel
              have HFB := Lib.hid ((BS2.out.set hgw hlt (j := 2) (by omega) (.int .u32 4294967295) ⟨x0, 4294967295, 0, 0, 0, kdOf x1⟩ rfl).set hgw hlt (j := 3) (by omega) (.int .u32 4294967295) ⟨x0, 4294967295, 4294967295, 0, 0, kdOf x1⟩ rfl)
              have HFR := Lib.hid ((HRES2.out.far (p := ⟨g, k * 10 + 2, none⟩) (by show w.heap.size ≠ g; omega) (.int .u32 4294967295)).far (p := ⟨g, k * 10 + 3, none⟩) (by show w.heap.size ≠ g; omega) (.int .u32 4294967295))
              go_wp2
              go_roundw
              case rel =>
                refine ⟨k + 1, by go_num, by omega, HFB.out.tab.ext (fun m hm => ?_), HFR.out, HFB.out.bel⟩
                exact upd_next HSY.out m hm
              case measure => simp [intOf]; omega
            · have t3 : (x3 != 0) = true := by rw [bne_iff_ne]; exact hz3
              obtain ⟨b0, off0, e0, hb0, hc0⟩ := reads_any (H0.out.below hbel) (by omega)
              subst e0
              obtain ⟨x0, hx0⟩ : ∃ x, ss[k]? = some x := ⟨_, List.getElem?_eq_getElem (by have := L0.out; omega)⟩
              have c0 := hc0 k x0 hx0
              have GN : Hid (ss.getD k ⟨#[]⟩ = x0) := Lib.hid (by rw [List.getD_eq_getElem?_getD, hx0]; rfl)
              clear hc0 hx0
              have GL : Hid (ls.getD k 0 = 0) := Lib.hid (by rw [List.getD_eq_getElem?_getD, List.getElem?_eq_none (by have := L2.out; omega)]; rfl)
              have c3 := hc3 k x3 hx3
              have GD : Hid (ds.getD k 0 = x3) := Lib.hid (by rw [List.getD_eq_getElem?_getD, hx3]; rfl)
              clear hc3 hx3
              have HOK : Hid (¬ lkOk n ls k) := Lib.hid (by unfold lkOk; rw [GL.out]; omega)
              have HSY : Hid (symF n ss ks ls ds k = ⟨x0, 4294967295, 4294967295, 4294967295 - (x3 - 1), 0, kdOf x1⟩) := Lib.hid (by unfold symF; rw [GN.out, GK.out, GD.out, GL.out]; simp only [if_neg HOK.out, if_neg hz3])
              have BS0 : Hid (BSt w wr g n k (fun m => if m < k then symF n ss ks ls ds m else SymR.zero) SymR.zero) := Lib.hid ⟨by have e := upd_self (fun m => if m < k then symF n ss ks ls ds m else SymR.zero) k; simp only [Nat.lt_irrefl, if_false] at e; rw [e]; exact htab, hbel⟩
              have HRES0 := Lib.hid hres
              clear htab hres
              obtain ⟨v1, d1⟩ := BS0.out.tab.old (show k * 10 + 1 < n * 10 by omega)
              have z1 := BS0.out.tab.frozen (k * 10 + 1)
              go_wp2_with (go_at_call 21; refine (kind_any x1 q1.1 q1.2 _).mono ?_)
              rintro e w1 ⟨rfl, hg1⟩
              have BS1 : Hid (BSt w w1 g n k (fun m => if m < k then symF n ss ks ls ds m else SymR.zero) ⟨x0, 0, 0, 0, 0, 0⟩) := Lib.hid ((BS0.out.set hgw hlt (j := 1) (by omega) _ ⟨x0, 0, 0, 0, 0, 0⟩ rfl).grown hg1)
              have HRES1 : Hid (Blk w1 w.heap.size 30 #[.slice none 0 0]) := Lib.hid ((HRES0.out.far (p := ⟨g, k * 10 + 1, none⟩) (by show w.heap.size ≠ g; omega) _).grown hg1 (by simp))
              clear d1 z1
              clear hg1 BS0 HRES0 c1 c0
              obtain ⟨v8, d8⟩ := BS1.out.tab.old (show k * 10 + 8 < n * 10 by omega)
              have z8 := BS1.out.tab.frozen (k * 10 + 8)
              go_wp2_with (go_at_call 22; refine (inval_any _).mono ?_)
              rintro e w2 ⟨rfl, hg2⟩
              have BS2 : Hid (BSt w w2 g n k (fun m => if m < k then symF n ss ks ls ds m else SymR.zero) ⟨x0, 0, 0, 0, 0, kdOf x1⟩) := Lib.hid ((BS1.out.set hgw hlt (j := 8) (by omega) _ ⟨x0, 0, 0, 0, 0, kdOf x1⟩ rfl).grown hg2)
              have HRES2 : Hid (Blk w2 w.heap.size 30 #[.slice none 0 0]) := Lib.hid ((HRES1.out.far (p := ⟨g, k * 10 + 8, none⟩) (by show w.heap.size ≠ g; omega) _).grown hg2 (by simp))
              clear hg2 BS1 HRES1
              clear d8 z8
              obtain ⟨v2, d2⟩ := BS2.out.tab.old (show k * 10 + 2 < n * 10 by omega)
              have z2 := BS2.out.tab.frozen (k * 10 + 2)
              obtain ⟨v3, d3⟩ := BS2.out.tab.old (show k * 10 + 3 < n * 10 by omega)
              have z3 := BS2.out.tab.frozen (k * 10 + 3)
              have c3 : w2.cell? ⟨b3, off3 + k, none⟩ = some (.int .u32 x3) := C3.out w2 BS2.out.bel
              go_wp2_with (go_at_call 23; refine (mki_any (x3 - 1) (by omega) (by omega) _).mono ?_)
              rintro e w4 ⟨rfl, hg4⟩
              have BS4 : Hid (BSt w w4 g n k (fun m => if m < k then symF n ss ks ls ds m else SymR.zero) ⟨x0, 4294967295, 4294967295, 0, 0, kdOf x1⟩) := Lib.hid (((BS2.out.set hgw hlt (j := 2) (by omega) (.int .u32 4294967295) ⟨x0, 4294967295, 0, 0, 0, kdOf x1⟩ rfl).set hgw hlt (j := 3) (by omega) (.int .u32 4294967295) ⟨x0, 4294967295, 4294967295, 0, 0, kdOf x1⟩ rfl).grown hg4)
              have HRES4 : Hid (Blk w4 w.heap.size 30 #[.slice none 0 0]) := Lib.hid (((HRES2.out.far (p := ⟨g, k * 10 + 2, none⟩) (by show w.heap.size ≠ g; omega) (.int .u32 4294967295)).far (p := ⟨g, k * 10 + 3, none⟩) (by show w.heap.size ≠ g; omega) (.int .u32 4294967295)).grown hg4 (by simp))
              clear hg4 BS2 HRES2 c3
              clear d2 z2 d3 z3
              obtain ⟨v6, d6⟩ := BS4.out.tab.old (show k * 10 + 6 < n * 10 by omega)
              have z6 := BS4.out.tab.frozen (k * 10 + 6)
              have HFB := Lib.hid (BS4.out.set hgw hlt (j := 6) (by omega) (.int .u32 (4294967295 - (x3 - 1))) ⟨x0, 4294967295, 4294967295, 4294967295 - (x3 - 1), 0, kdOf x1⟩ rfl)
              have HFR := Lib.hid (HRES4.out.far (p := ⟨g, k * 10 + 6, none⟩) (by show w.heap.size ≠ g; omega) (.int .u32 (4294967295 - (x3 - 1))))
              go_wp2
              go_roundw
              case rel =>
                refine ⟨k + 1, by go_num, by omega, HFB.out.tab.ext (fun m hm => ?_), HFR.out, HFB.out.bel⟩
                exact upd_next HSY.out m hm
              case measure => simp [intOf]; omega
          · skip
            obtain ⟨b0, off0, e0, hb0, hc0⟩ := reads_any (H0.out.below hbel) (by omega)
            subst e0
            obtain ⟨x0, hx0⟩ : ∃ x, ss[k]? = some x := ⟨_, List.getElem?_eq_getElem (by have := L0.out; omega)⟩
            have c0 := hc0 k x0 hx0
            have GN : Hid (ss.getD k ⟨#[]⟩ = x0) := Lib.hid (by rw [List.getD_eq_getElem?_getD, hx0]; rfl)
            clear hc0 hx0
            have GL : Hid (ls.getD k 0 = 0) := Lib.hid (by rw [List.getD_eq_getElem?_getD, List.getElem?_eq_none (by have := L2.out; omega)]; rfl)
            have GD : Hid (ds.getD k 0 = 0) := Lib.hid (by rw [List.getD_eq_getElem?_getD, List.getElem?_eq_none (by have := L3.out; omega)]; rfl)
            have HOK : Hid (¬ lkOk n ls k) := Lib.hid (by unfold lkOk; rw [GL.out]; omega)
            have HSY : Hid (symF n ss ks ls ds k = ⟨x0, 4294967295, 4294967295, 0, 0, kdOf x1⟩) := Lib.hid (by unfold symF; rw [GN.out, GK.out, GD.out, GL.out]; simp only [if_neg HOK.out, if_true])
            have BS0 : Hid (BSt w wr g n k (fun m => if m < k then symF n ss ks ls ds m else SymR.zero) SymR.zero) := Lib.hid ⟨by have e := upd_self (fun m => if m < k then symF n ss ks ls ds m else SymR.zero) k; simp only [Nat.lt_irrefl, if_false] at e; rw [e]; exact htab, hbel⟩
            have HRES0 := Lib.hid hres
            clear htab hres
            obtain ⟨v1, d1⟩ := BS0.out.tab.old (show k * 10 + 1 < n * 10 by omega)
            have z1 := BS0.out.tab.frozen (k * 10 + 1)
            go_wp2_with (go_at_call 21; refine (kind_any x1 q1.1 q1.2 _).mono ?_)
            rintro e w1 ⟨rfl, hg1⟩
            have BS1 : Hid (BSt w w1 g n k (fun m => if m < k then symF n ss ks ls ds m else SymR.zero) ⟨x0, 0, 0, 0, 0, 0⟩) := Lib.hid ((BS0.out.set hgw hlt (j := 1) (by omega) _ ⟨x0, 0, 0, 0, 0, 0⟩ rfl).grown hg1)
            have HRES1 : Hid (Blk w1 w.heap.size 30 #[.slice none 0 0]) := Lib.hid ((HRES0.out.far (p := ⟨g, k * 10 + 1, none⟩) (by show w.heap.size ≠ g; omega) _).grown hg1 (by simp))
            clear d1 z1
            clear hg1 BS0 HRES0 c1 c0
            obtain ⟨v8, d8⟩ := BS1.out.tab.old (show k * 10 + 8 < n * 10 by omega)
            have z8 := BS1.out.tab.frozen (k * 10 + 8)
            go_wp2_with (go_at_call 22; refine (inval_any _).mono ?_)
            rintro e w2 ⟨rfl, hg2⟩
            have BS2 : Hid (BSt w w2 g n k (fun m => if m < k then symF n ss ks ls ds m else SymR.zero) ⟨x0, 0, 0, 0, 0, kdOf x1⟩) := Lib.hid ((BS1.out.set hgw hlt (j := 8) (by omega) _ ⟨x0, 0, 0, 0, 0, kdOf x1⟩ rfl).grown hg2)
            have HRES2 : Hid (Blk w2 w.heap.size 30 #[.slice none 0 0]) := Lib.hid ((HRES1.out.far (p := ⟨g, k * 10 + 8, none⟩) (by show w.heap.size ≠ g; omega) _).grown hg2 (by simp))
            clear hg2 BS1 HRES1
            clear d8 z8
            obtain ⟨v2, d2⟩ := BS2.out.tab.old (show k * 10 + 2 < n * 10 by omega)
            have z2 := BS2.out.tab.frozen (k * 10 + 2)
            obtain ⟨v3, d3⟩ := BS2.out.tab.old (show k * 10 + 3 < n * 10 by omega)
            have z3 := BS2.out.tab.frozen (k * 10 + 3)
            have HFB := Lib.hid ((BS2.out.set hgw hlt (j := 2) (by omega) (.int .u32 4294967295) ⟨x0, 4294967295, 0, 0, 0, kdOf x1⟩ rfl).set hgw hlt (j := 3) (by omega) (.int .u32 4294967295) ⟨x0, 4294967295, 4294967295, 0, 0, kdOf x1⟩ rfl)
            have HFR := Lib.hid ((HRES2.out.far (p := ⟨g, k * 10 + 2, none⟩) (by show w.heap.size ≠ g; omega) (.int .u32 4294967295)).far (p := ⟨g, k * 10 + 3, none⟩) (by show w.heap.size ≠ g; omega) (.int .u32 4294967295))
            go_wp2
            go_roundw
            case rel =>
              refine ⟨k + 1, by go_num, by omega, HFB.out.tab.ext (fun m hm => ?_), HFR.out, HFB.out.bel⟩
              exact upd_next HSY.out m hm
            case measure => simp [intOf]; omega
      · -- the name is not there
        by_cases hlk : k < nl
        · skip
          obtain ⟨b2, off2, e2, hb2, hc2'⟩ := reads_any (H2.out) (by omega)
          subst e2
          have hb2' : ¬ b2 = g := by omega
          have hb2'' : ¬ g = b2 := by omega
          obtain ⟨x2, hx2⟩ : ∃ x, ls[k]? = some x := ⟨_, List.getElem?_eq_getElem (by have := L2.out; omega)⟩
          have q2 := HL.out x2 (List.mem_of_getElem? hx2)
          have C2 : Hid (∀ W, Below w.heap.size w W → W.cell? ⟨b2, off2 + k, none⟩ = some (.int .u32 x2)) := Lib.hid (fun W hW => (hW.cell (p := ⟨b2, off2 + k, none⟩) hb2).trans (hc2' k x2 hx2))
          have hc2 : ∀ i l, ls[i]? = some l → w.cell? ⟨b2, off2 + i, none⟩ = some (.int .u32 l) := hc2'
          clear hc2'
          rcases (by omega : ¬ (k : Int) < x2 ∨ ((k : Int) < x2 ∧ ¬ x2 < n) ∨ ((k : Int) < x2 ∧ x2 < n)) with hq | ⟨hq, hq'⟩ | ⟨hq, hq'⟩
          · skip
            by_cases hnd : k < nd
            · skip
              obtain ⟨b3, off3, e3, hb3, hc3'⟩ := reads_any (H3.out) (by omega)
              subst e3
              have hb3' : ¬ b3 = g := by omega
              have hb3'' : ¬ g = b3 := by omega
              obtain ⟨x3, hx3⟩ : ∃ x, ds[k]? = some x := ⟨_, List.getElem?_eq_getElem (by have := L3.out; omega)⟩
              have q3 := HD.out x3 (List.mem_of_getElem? hx3)
              have C3 : Hid (∀ W, Below w.heap.size w W → W.cell? ⟨b3, off3 + k, none⟩ = some (.int .u32 x3)) := Lib.hid (fun W hW => (hW.cell (p := ⟨b3, off3 + k, none⟩) hb3).trans (hc3' k x3 hx3))
              have hc3 : ∀ i l, ds[i]? = some l → w.cell? ⟨b3, off3 + i, none⟩ = some (.int .u32 l) := hc3'
              clear hc3'
              by_cases hz3 : x3 = 0
              · have t3 : (x3 != 0) = false := by rw [hz3]; rfl
                have GN : Hid (ss.getD k ⟨#[]⟩ = ⟨#[]⟩) := Lib.hid (by rw [List.getD_eq_getElem?_getD, List.getElem?_eq_none (by have := L0.out; omega)]; rfl)
                have c2 := hc2 k x2 hx2
                have GL : Hid (ls.getD k 0 = x2) := Lib.hid (by rw [List.getD_eq_getElem?_getD, hx2]; rfl)
                clear hc2 hx2
                have c3 := hc3 k x3 hx3
                have GD : Hid (ds.getD k 0 = x3) := Lib.hid (by rw [List.getD_eq_getElem?_getD, hx3]; rfl)
                clear hc3 hx3
                have HOK : Hid (¬ lkOk n ls k) := Lib.hid (by unfold lkOk; rw [GL.out]; omega)
                have HSY : Hid (symF n ss ks ls ds k = ⟨⟨#[]⟩, 4294967295, 4294967295, 0, 0, kdOf x1⟩) := Lib.hid (by unfold symF; rw [GN.out, GK.out, GD.out, GL.out]; simp only [if_neg HOK.out, if_pos hz3])
                clear hz3
                have BS0 : Hid (BSt w wr g n k (fun m => if m < k then symF n ss ks ls ds m else SymR.zero) SymR.zero) := Lib.hid ⟨by have e := upd_self (fun m => if m < k then symF n ss ks ls ds m else SymR.zero) k; simp only [Nat.lt_irrefl, if_false] at e; rw [e]; exact htab, hbel⟩
                have HRES0 := Lib.hid hres
                clear htab hres
                go_wp2_with (go_at_call 21; refine (kind_any x1 q1.1 q1.2 _).mono ?_)
                rintro e w1 ⟨rfl, hg1⟩
                have BS1 : Hid (BSt w w1 g n k (fun m => if m < k then symF n ss ks ls ds m else SymR.zero) SymR.zero) := Lib.hid (BS0.out.grown hg1)
                have HRES1 : Hid (Blk w1 w.heap.size 30 #[.slice none 0 0]) := Lib.hid (HRES0.out.grown hg1 (by simp))
                clear hg1 BS0 HRES0 c1
                obtain ⟨v8, d8⟩ := BS1.out.tab.old (show k * 10 + 8 < n * 10 by omega)
                have z8 := BS1.out.tab.frozen (k * 10 + 8)
                go_wp2_with (go_at_call 22; refine (inval_any _).mono ?_)
                rintro e w2 ⟨rfl, hg2⟩
                have BS2 : Hid (BSt w w2 g n k (fun m => if m < k then symF n ss ks ls ds m else SymR.zero) ⟨⟨#[]⟩, 0, 0, 0, 0, kdOf x1⟩) := Lib.hid ((BS1.out.set hgw hlt (j := 8) (by omega) _ ⟨⟨#[]⟩, 0, 0, 0, 0, kdOf x1⟩ rfl).grown hg2)
                have HRES2 : Hid (Blk w2 w.heap.size 30 #[.slice none 0 0]) := Lib.hid ((HRES1.out.far (p := ⟨g, k * 10 + 8, none⟩) (by show w.heap.size ≠ g; omega) _).grown hg2 (by simp))
                clear hg2 BS1 HRES1
                clear d8 z8
                obtain ⟨v2, d2⟩ := BS2.out.tab.old (show k * 10 + 2 < n * 10 by omega)
                have z2 := BS2.out.tab.frozen (k * 10 + 2)
                obtain ⟨v3, d3⟩ := BS2.out.tab.old (show k * 10 + 3 < n * 10 by omega)
                have z3 := BS2.out.tab.frozen (k * 10 + 3)
                have c2 : w2.cell? ⟨b2, off2 + k, none⟩ = some (.int .u32 x2) := C2.out w2 BS2.out.bel
                have c3 : w2.cell? ⟨b3, off3 + k, none⟩ = some (.int .u32 x3) := C3.out w2 BS2.out.bel
                have HFB := Lib.hid ((BS2.out.set hgw hlt (j := 2) (by omega) (.int .u32 4294967295) ⟨⟨#[]⟩, 4294967295, 0, 0, 0, kdOf x1⟩ rfl).set hgw hlt (j := 3) (by omega) (.int .u32 4294967295) ⟨⟨#[]⟩, 4294967295, 4294967295, 0, 0, kdOf x1⟩ rfl)
                have HFR := Lib.hid ((HRES2.out.far (p := ⟨g, k * 10 + 2, none⟩) (by show w.heap.size ≠ g; omega) (.int .u32 4294967295)).far (p := ⟨g, k * 10 + 3, none⟩) (by show w.heap.size ≠ g; omega) (.int .u32 4294967295))
                go_wp2
                go_roundw
                case rel =>
                  refine ⟨k + 1, by go_num, by omega, HFB.out.tab.ext (fun m hm => ?_), HFR.out, HFB.out.bel⟩
                  exact upd_next HSY.out m hm
                case measure => simp [intOf]; omega
              · have t3 : (x3 != 0) = true := by rw [bne_iff_ne]; exact hz3
                have GN : Hid (ss.getD k ⟨#[]⟩ = ⟨#[]⟩) := Lib.hid (by rw [List.getD_eq_getElem?_getD, List.getElem?_eq_none (by have := L0.out; omega)]; rfl)
                have c2 := hc2 k x2 hx2
                have GL : Hid (ls.getD k 0 = x2) := Lib.hid (by rw [List.getD_eq_getElem?_getD, hx2]; rfl)
                clear hc2 hx2
                have c3 := hc3 k x3 hx3
                have GD : Hid (ds.getD k 0 = x3) := Lib.hid (by rw [List.getD_eq_getElem?_getD, hx3]; rfl)
                clear hc3 hx3
                have HOK : Hid (¬ lkOk n ls k) := Lib.hid (by unfold lkOk; rw [GL.out]; omega)
                have HSY : Hid (symF n ss ks ls ds k = ⟨⟨#[]⟩, 4294967295, 4294967295, 4294967295 - (x3 - 1), 0, kdOf x1⟩) := Lib.hid (by unfold symF; rw [GN.out, GK.out, GD.out, GL.out]; simp only [if_neg HOK.out, if_neg hz3])
                have BS0 : Hid (BSt w wr g n k (fun m => if m < k then symF n ss ks ls ds m else SymR.zero) SymR.zero) := Lib.hid ⟨by have e := upd_self (fun m => if m < k then symF n ss ks ls ds m else SymR.zero) k; simp only [Nat.lt_irrefl, if_false] at e; rw [e]; exact htab, hbel⟩
                have HRES0 := Lib.hid hres
                clear htab hres
                go_wp2_with (go_at_call 21; refine (kind_any x1 q1.1 q1.2 _).mono ?_)
                rintro e w1 ⟨rfl, hg1⟩
                have BS1 : Hid (BSt w w1 g n k (fun m => if m < k then symF n ss ks ls ds m else SymR.zero) SymR.zero) := Lib.hid (BS0.out.grown hg1)
                have HRES1 : Hid (Blk w1 w.heap.size 30 #[.slice none 0 0]) := Lib.hid (HRES0.out.grown hg1 (by simp))
                clear hg1 BS0 HRES0 c1
                obtain ⟨v8, d8⟩ := BS1.out.tab.old (show k * 10 + 8 < n * 10 by omega)
                have z8 := BS1.out.tab.frozen (k * 10 + 8)
                go_wp2_with (go_at_call 22; refine (inval_any _).mono ?_)
                rintro e w2 ⟨rfl, hg2⟩
                have BS2 : Hid (BSt w w2 g n k (fun m => if m < k then symF n ss ks ls ds m else SymR.zero) ⟨⟨#[]⟩, 0, 0, 0, 0, kdOf x1⟩) := Lib.hid ((BS1.out.set hgw hlt (j := 8) (by omega) _ ⟨⟨#[]⟩, 0, 0, 0, 0, kdOf x1⟩ rfl).grown hg2)
                have HRES2 : Hid (Blk w2 w.heap.size 30 #[.slice none 0 0]) := Lib.hid ((HRES1.out.far (p := ⟨g, k * 10 + 8, none⟩) (by show w.heap.size ≠ g; omega) _).grown hg2 (by simp))
                clear hg2 BS1 HRES1
                clear d8 z8
                obtain ⟨v2, d2⟩ := BS2.out.tab.old (show k * 10 + 2 < n * 10 by omega)
                have z2 := BS2.out.tab.frozen (k * 10 + 2)
                obtain ⟨v3, d3⟩ := BS2.out.tab.old (show k * 10 + 3 < n * 10 by omega)
                have z3 := BS2.out.tab.frozen (k * 10 + 3)
                have c2 : w2.cell? ⟨b2, off2 + k, none⟩ = some (.int .u32 x2) := C2.out w2 BS2.out.bel
                have c3 : w2.cell? ⟨b3, off3 + k, none⟩ = some (.int .u32 x3) := C3.out w2 BS2.out.bel
                go_wp2_with (go_at_call 23; refine (mki_any (x3 - 1) (by omega) (by omega) _).mono ?_)
                rintro e w4 ⟨rfl, hg4⟩
                have BS4 : Hid (BSt w w4 g n k (fun m => if m < k then symF n ss ks ls ds m else SymR.zero) ⟨⟨#[]⟩, 4294967295, 4294967295, 0, 0, kdOf x1⟩) := Lib.hid (((BS2.out.set hgw hlt (j := 2) (by omega) (.int .u32 4294967295) ⟨⟨#[]⟩, 4294967295, 0, 0, 0, kdOf x1⟩ rfl).set hgw hlt (j := 3) (by omega) (.int .u32 4294967295) ⟨⟨#[]⟩, 4294967295, 4294967295, 0, 0, kdOf x1⟩ rfl).grown hg4)
                have HRES4 : Hid (Blk w4 w.heap.size 30 #[.slice none 0 0]) := Lib.hid (((HRES2.out.far (p := ⟨g, k * 10 + 2, none⟩) (by show w.heap.size ≠ g; omega) (.int .u32 4294967295)).far (p := ⟨g, k * 10 + 3, none⟩) (by show w.heap.size ≠ g; omega) (.int .u32 4294967295)).grown hg4 (by simp))
                clear hg4 BS2 HRES2 c3
                clear d2 z2 d3 z3
                obtain ⟨v6, d6⟩ := BS4.out.tab.old (show k * 10 + 6 < n * 10 by omega)
                have z6 := BS4.out.tab.frozen (k * 10 + 6)
                have HFB := Lib.hid (BS4.out.set hgw hlt (j := 6) (by omega) (.int .u32 (4294967295 - (x3 - 1))) ⟨⟨#[]⟩, 4294967295, 4294967295, 4294967295 - (x3 - 1), 0, kdOf x1⟩ rfl)
                have HFR := Lib.hid (HRES4.out.far (p := ⟨g, k * 10 + 6, none⟩) (by show w.heap.size ≠ g; omega) (.int .u32 (4294967295 - (x3 - 1))))
                go_wp2
                go_roundw
                case rel =>
                  refine ⟨k + 1, by go_num, by omega, HFB.out.tab.ext (fun m hm => ?_), HFR.out, HFB.out.bel⟩
                  exact upd_next HSY.out m hm
                case measure => simp [intOf]; omega
            · skip
              have GN : Hid (ss.getD k ⟨#[]⟩ = ⟨#[]⟩) := Lib.hid (by rw [List.getD_eq_getElem?_getD, List.getElem?_eq_none (by have := L0.out; omega)]; rfl)
              have c2 := hc2 k x2 hx2
              have GL : Hid (ls.getD k 0 = x2) := Lib.hid (by rw [List.getD_eq_getElem?_getD, hx2]; rfl)
              clear hc2 hx2
              have GD : Hid (ds.getD k 0 = 0) := Lib.hid (by rw [List.getD_eq_getElem?_getD, List.getElem?_eq_none (by have := L3.out; omega)]; rfl)
              have HOK : Hid (¬ lkOk n ls k) := Lib.hid (by unfold lkOk; rw [GL.out]; omega)
              have HSY : Hid (symF n ss ks ls ds k = ⟨⟨#[]⟩, 4294967295, 4294967295, 0, 0, kdOf x1⟩) := Lib.hid (by unfold symF; rw [GN.out, GK.out, GD.out, GL.out]; simp only [if_neg HOK.out, if_true])
              have BS0 : Hid (BSt w wr g n k (fun m => if m < k then symF n ss ks ls ds m else SymR.zero) SymR.zero) := Lib.hid ⟨by have e := upd_self (fun m => if m < k then symF n ss ks ls ds m else SymR.zero) k; simp only [Nat.lt_irrefl, if_false] at e; rw [e]; exact htab, hbel⟩
              have HRES0 := Lib.hid hres
              clear htab hres
              go_wp2_with (go_at_call 21; refine (kind_any x1 q1.1 q1.2 _).mono ?_)
              rintro e w1 ⟨rfl, hg1⟩
              have BS1 : Hid (BSt w w1 g n k (fun m => if m < k then symF n ss ks ls ds m else SymR.zero) SymR.zero) := Lib.hid (BS0.out.grown hg1)
              have HRES1 : Hid (Blk w1 w.heap.size 30 #[.slice none 0 0]) := Lib.hid (HRES0.out.grown hg1 (by simp))
              clear hg1 BS0 HRES0 c1
              obtain ⟨v8, d8⟩ := BS1.out.tab.old (show k * 10 + 8 < n * 10 by omega)
              have z8 := BS1.out.tab.frozen (k * 10 + 8)
              go_wp2_with (go_at_call 22; refine (inval_any _).mono ?_)
              rintro e w2 ⟨rfl, hg2⟩
              have BS2 : Hid (BSt w w2 g n k (fun m => if m < k then symF n ss ks ls ds m else SymR.zero) ⟨⟨#[]⟩, 0, 0, 0, 0, kdOf x1⟩) := Lib.hid ((BS1.out.set hgw hlt (j := 8) (by omega) _ ⟨⟨#[]⟩, 0, 0, 0, 0, kdOf x1⟩ rfl).grown hg2)
              have HRES2 : Hid (Blk w2 w.heap.size 30 #[.slice none 0 0]) := Lib.hid ((HRES1.out.far (p := ⟨g, k * 10 + 8, none⟩) (by show w.heap.size ≠ g; omega) _).grown hg2 (by simp))
              clear hg2 BS1 HRES1
              clear d8 z8
              obtain ⟨v2, d2⟩ := BS2.out.tab.old (show k * 10 + 2 < n * 10 by omega)
              have z2 := BS2.out.tab.frozen (k * 10 + 2)
              obtain ⟨v3, d3⟩ := BS2.out.tab.old (show k * 10 + 3 < n * 10 by omega)
              have z3 := BS2.out.tab.frozen (k * 10 + 3)
              have c2 : w2.cell? ⟨b2, off2 + k, none⟩ = some (.int .u32 x2) := C2.out w2 BS2.out.bel
              have HFB := Lib.hid ((BS2.out.set hgw hlt (j := 2) (by omega) (.int .u32 4294967295) ⟨⟨#[]⟩, 4294967295, 0, 0, 0, kdOf x1⟩ rfl).set hgw hlt (j := 3) (by omega) (.int .u32 4294967295) ⟨⟨#[]⟩, 4294967295, 4294967295, 0, 0, kdOf x1⟩ rfl)
              have HFR := Lib.hid ((HRES2.out.far (p := ⟨g, k * 10 + 2, none⟩) (by show w.heap.size ≠ g; omega) (.int .u32 4294967295)).far (p := ⟨g, k * 10 + 3, none⟩) (by show w.heap.size ≠ g; omega) (.int .u32 4294967295))
              go_wp2
              go_roundw
              case rel =>
                refine ⟨k + 1, by go_num, by omega, HFB.out.tab.ext (fun m hm => ?_), HFR.out, HFB.out.bel⟩
                exact upd_next HSY.out m hm
              case measure => simp [intOf]; omega
          · skip
            by_cases hnd : k < nd
            · skip
              obtain ⟨b3, off3, e3, hb3, hc3'⟩ := reads_any (H3.out) (by omega)
              subst e3
              have hb3' : ¬ b3 = g := by omega
              have hb3'' : ¬ g = b3 := by omega
              obtain ⟨x3, hx3⟩ : ∃ x, ds[k]? = some x := ⟨_, List.getElem?_eq_getElem (by have := L3.out; omega)⟩
              have q3 := HD.out x3 (List.mem_of_getElem? hx3)
              have C3 : Hid (∀ W, Below w.heap.size w W → W.cell? ⟨b3, off3 + k, none⟩ = some (.int .u32 x3)) := Lib.hid (fun W hW => (hW.cell (p := ⟨b3, off3 + k, none⟩) hb3).trans (hc3' k x3 hx3))
              have hc3 : ∀ i l, ds[i]? = some l → w.cell? ⟨b3, off3 + i, none⟩ = some (.int .u32 l) := hc3'
              clear hc3'
              by_cases hz3 : x3 = 0
              · have t3 : (x3 != 0) = false := by rw [hz3]; rfl
                have GN : Hid (ss.getD k ⟨#[]⟩ = ⟨#[]⟩) := Lib.hid (by rw [List.getD_eq_getElem?_getD, List.getElem?_eq_none (by have := L0.out; omega)]; rfl)
                have c2 := hc2 k x2 hx2
                have GL : Hid (ls.getD k 0 = x2) := Lib.hid (by rw [List.getD_eq_getElem?_getD, hx2]; rfl)
                clear hc2 hx2
                have c3 := hc3 k x3 hx3
                have GD : Hid (ds.getD k 0 = x3) := Lib.hid (by rw [List.getD_eq_getElem?_getD, hx3]; rfl)
                clear hc3 hx3
                have HOK : Hid (¬ lkOk n ls k) := Lib.hid (by unfold lkOk; rw [GL.out]; omega)
                have HSY : Hid (symF n ss ks ls ds k = ⟨⟨#[]⟩, 4294967295, 4294967295, 0, 0, kdOf x1⟩) := Lib.hid (by unfold symF; rw [GN.out, GK.out, GD.out, GL.out]; simp only [if_neg HOK.out, if_pos hz3])
                clear hz3
                have BS0 : Hid (BSt w wr g n k (fun m => if m < k then symF n ss ks ls ds m else SymR.zero) SymR.zero) := Lib.hid ⟨by have e := upd_self (fun m => if m < k then symF n ss ks ls ds m else SymR.zero) k; simp only [Nat.lt_irrefl, if_false] at e; rw [e]; exact htab, hbel⟩
                have HRES0 := Lib.hid hres
                clear htab hres
                go_wp2_with (go_at_call 21; refine (kind_any x1 q1.1 q1.2 _).mono ?_)
                rintro e w1 ⟨rfl, hg1⟩
                have BS1 : Hid (BSt w w1 g n k (fun m => if m < k then symF n ss ks ls ds m else SymR.zero) SymR.zero) := Lib.hid (BS0.out.grown hg1)
                have HRES1 : Hid (Blk w1 w.heap.size 30 #[.slice none 0 0]) := Lib.hid (HRES0.out.grown hg1 (by simp))
                clear hg1 BS0 HRES0 c1
                obtain ⟨v8, d8⟩ := BS1.out.tab.old (show k * 10 + 8 < n * 10 by omega)
                have z8 := BS1.out.tab.frozen (k * 10 + 8)
                go_wp2_with (go_at_call 22; refine (inval_any _).mono ?_)
                rintro e w2 ⟨rfl, hg2⟩
                have BS2 : Hid (BSt w w2 g n k (fun m => if m < k then symF n ss ks ls ds m else SymR.zero) ⟨⟨#[]⟩, 0, 0, 0, 0, kdOf x1⟩) := Lib.hid ((BS1.out.set hgw hlt (j := 8) (by omega) _ ⟨⟨#[]⟩, 0, 0, 0, 0, kdOf x1⟩ rfl).grown hg2)
                have HRES2 : Hid (Blk w2 w.heap.size 30 #[.slice none 0 0]) := Lib.hid ((HRES1.out.far (p := ⟨g, k * 10 + 8, none⟩) (by show w.heap.size ≠ g; omega) _).grown hg2 (by simp))
                clear hg2 BS1 HRES1
                clear d8 z8
                obtain ⟨v2, d2⟩ := BS2.out.tab.old (show k * 10 + 2 < n * 10 by omega)
                have z2 := BS2.out.tab.frozen (k * 10 + 2)
                obtain ⟨v3, d3⟩ := BS2.out.tab.old (show k * 10 + 3 < n * 10 by omega)
                have z3 := BS2.out.tab.frozen (k * 10 + 3)
                have c2 : w2.cell? ⟨b2, off2 + k, none⟩ = some (.int .u32 x2) := C2.out w2 BS2.out.bel
                have c3 : w2.cell? ⟨b3, off3 + k, none⟩ = some (.int .u32 x3) := C3.out w2 BS2.out.bel
                have HFB := Lib.hid ((BS2.out.set hgw hlt (j := 2) (by omega) (.int .u32 4294967295) ⟨⟨#[]⟩, 4294967295, 0, 0, 0, kdOf x1⟩ rfl).set hgw hlt (j := 3) (by omega) (.int .u32 4294967295) ⟨⟨#[]⟩, 4294967295, 4294967295, 0, 0, kdOf x1⟩ rfl)
                have HFR := Lib.hid ((HRES2.out.far (p := ⟨g, k * 10 + 2, none⟩) (by show w.heap.size ≠ g; omega) (.int .u32 4294967295)).far (p := ⟨g, k * 10 + 3, none⟩) (by show w.heap.size ≠ g; omega) (.int .u32 4294967295))
                go_wp2
                go_roundw
                case rel =>
                  refine ⟨k + 1, by go_num, by omega, HFB.out.tab.ext (fun m hm => ?_), HFR.out, HFB.out.bel⟩
                  exact upd_next HSY.out m hm
                case measure => simp [intOf]; omega
              · have t3 : (x3 != 0) = true := by rw [bne_iff_ne]; exact hz3
                have GN : Hid (ss.getD k ⟨#[]⟩ = ⟨#[]⟩) := Lib.hid (by rw [List.getD_eq_getElem?_getD, List.getElem?_eq_none (by have := L0.out; omega)]; rfl)
                have c2 := hc2 k x2 hx2
                have GL : Hid (ls.getD k 0 = x2) := Lib.hid (by rw [List.getD_eq_getElem?_getD, hx2]; rfl)
                clear hc2 hx2
                have c3 := hc3 k x3 hx3
                have GD : Hid (ds.getD k 0 = x3) := Lib.hid (by rw [List.getD_eq_getElem?_getD, hx3]; rfl)
                clear hc3 hx3
                have HOK : Hid (¬ lkOk n ls k) := Lib.hid (by unfold lkOk; rw [GL.out]; omega)
                have HSY : Hid (symF n ss ks ls ds k = ⟨⟨#[]⟩, 4294967295, 4294967295, 4294967295 - (x3 - 1), 0, kdOf x1⟩) := Lib.hid (by unfold symF; rw [GN.out, GK.out, GD.out, GL.out]; simp only [if_neg HOK.out, if_neg hz3])
                have BS0 : Hid (BSt w wr g n k (fun m => if m < k then symF n ss ks ls ds m else SymR.zero) SymR.zero) := Lib.hid ⟨by have e := upd_self (fun m => if m < k then symF n ss ks ls ds m else SymR.zero) k; simp only [Nat.lt_irrefl, if_false] at e; rw [e]; exact htab, hbel⟩
                have HRES0 := Lib.hid hres
                clear htab hres
                go_wp2_with (go_at_call 21; refine (kind_any x1 q1.1 q1.2 _).mono ?_)
                rintro e w1 ⟨rfl, hg1⟩
                have BS1 : Hid (BSt w w1 g n k (fun m => if m < k then symF n ss ks ls ds m else SymR.zero) SymR.zero) := Lib.hid (BS0.out.grown hg1)
                have HRES1 : Hid (Blk w1 w.heap.size 30 #[.slice none 0 0]) := Lib.hid (HRES0.out.grown hg1 (by simp))
                clear hg1 BS0 HRES0 c1
                obtain ⟨v8, d8⟩ := BS1.out.tab.old (show k * 10 + 8 < n * 10 by omega)
                have z8 := BS1.out.tab.frozen (k * 10 + 8)
                go_wp2_with (go_at_call 22; refine (inval_any _).mono ?_)
                rintro e w2 ⟨rfl, hg2⟩
                have BS2 : Hid (BSt w w2 g n k (fun m => if m < k then symF n ss ks ls ds m else SymR.zero) ⟨⟨#[]⟩, 0, 0, 0, 0, kdOf x1⟩) := Lib.hid ((BS1.out.set hgw hlt (j := 8) (by omega) _ ⟨⟨#[]⟩, 0, 0, 0, 0, kdOf x1⟩ rfl).grown hg2)
                have HRES2 : Hid (Blk w2 w.heap.size 30 #[.slice none 0 0]) := Lib.hid ((HRES1.out.far (p := ⟨g, k * 10 + 8, none⟩) (by show w.heap.size ≠ g; omega) _).grown hg2 (by simp))
                clear hg2 BS1 HRES1
                clear d8 z8
                obtain ⟨v2, d2⟩ := BS2.out.tab.old (show k * 10 + 2 < n * 10 by omega)
                have z2 := BS2.out.tab.frozen (k * 10 + 2)
                obtain ⟨v3, d3⟩ := BS2.out.tab.old (show k * 10 + 3 < n * 10 by omega)
                have z3 := BS2.out.tab.frozen (k * 10 + 3)
                have c2 : w2.cell? ⟨b2, off2 + k, none⟩ = some (.int .u32 x2) := C2.out w2 BS2.out.bel
                have c3 : w2.cell? ⟨b3, off3 + k, none⟩ = some (.int .u32 x3) := C3.out w2 BS2.out.bel
                go_wp2_with (go_at_call 23; refine (mki_any (x3 - 1) (by omega) (by omega) _).mono ?_)
                rintro e w4 ⟨rfl, hg4⟩
                have BS4 : Hid (BSt w w4 g n k (fun m => if m < k then symF n ss ks ls ds m else SymR.zero) ⟨⟨#[]⟩, 4294967295, 4294967295, 0, 0, kdOf x1⟩) := Lib.hid (((BS2.out.set hgw hlt (j := 2) (by omega) (.int .u32 4294967295) ⟨⟨#[]⟩, 4294967295, 0, 0, 0, kdOf x1⟩ rfl).set hgw hlt (j := 3) (by omega) (.int .u32 4294967295) ⟨⟨#[]⟩, 4294967295, 4294967295, 0, 0, kdOf x1⟩ rfl).grown hg4)
                have HRES4 : Hid (Blk w4 w.heap.size 30 #[.slice none 0 0]) := Lib.hid (((HRES2.out.far (p := ⟨g, k * 10 + 2, none⟩) (by show w.heap.size ≠ g; omega) (.int .u32 4294967295)).far (p := ⟨g, k * 10 + 3, none⟩) (by show w.heap.size ≠ g; omega) (.int .u32 4294967295)).grown hg4 (by simp))
                clear hg4 BS2 HRES2 c3
                clear d2 z2 d3 z3
                obtain ⟨v6, d6⟩ := BS4.out.tab.old (show k * 10 + 6 < n * 10 by omega)
                have z6 := BS4.out.tab.frozen (k * 10 + 6)
                have HFB := Lib.hid (BS4.out.set hgw hlt (j := 6) (by omega) (.int .u32 (4294967295 - (x3 - 1))) ⟨⟨#[]⟩, 4294967295, 4294967295, 4294967295 - (x3 - 1), 0, kdOf x1⟩ rfl)
                have HFR := Lib.hid (HRES4.out.far (p := ⟨g, k * 10 + 6, none⟩) (by show w.heap.size ≠ g; omega) (.int .u32 (4294967295 - (x3 - 1))))
                go_wp2
                go_roundw
                case rel =>
                  refine ⟨k + 1, by go_num, by omega, HFB.out.tab.ext (fun m hm => ?_), HFR.out, HFB.out.bel⟩
                  exact upd_next HSY.out m hm
                case measure => simp [intOf]; omega
            · skip
              have GN : Hid (ss.getD k ⟨#[]⟩ = ⟨#[]⟩) := Lib.hid (by rw [List.getD_eq_getElem?_getD, List.getElem?_eq_none (by have := L0.out; omega)]; rfl)
              have c2 := hc2 k x2 hx2
              have GL : Hid (ls.getD k 0 = x2) := Lib.hid (by rw [List.getD_eq_getElem?_getD, hx2]; rfl)
              clear hc2 hx2
              have GD : Hid (ds.getD k 0 = 0) := Lib.hid (by rw [List.getD_eq_getElem?_getD, List.getElem?_eq_none (by have := L3.out; omega)]; rfl)
              have HOK : Hid (¬ lkOk n ls k) := Lib.hid (by unfold lkOk; rw [GL.out]; omega)
              have HSY : Hid (symF n ss ks ls ds k = ⟨⟨#[]⟩, 4294967295, 4294967295, 0, 0, kdOf x1⟩) := Lib.hid (by unfold symF; rw [GN.out, GK.out, GD.out, GL.out]; simp only [if_neg HOK.out, if_true])
              have BS0 : Hid (BSt w wr g n k (fun m => if m < k then symF n ss ks ls ds m else SymR.zero) SymR.zero) := Lib.hid ⟨by have e := upd_self (fun m => if m < k then symF n ss ks ls ds m else SymR.zero) k; simp only [Nat.lt_irrefl, if_false] at e; rw [e]; exact htab, hbel⟩
              have HRES0 := Lib.hid hres
              clear htab hres
              go_wp2_with (go_at_call 21; refine (kind_any x1 q1.1 q1.2 _).mono ?_)
              rintro e w1 ⟨rfl, hg1⟩
              have BS1 : Hid (BSt w w1 g n k (fun m => if m < k then symF n ss ks ls ds m else SymR.zero) SymR.zero) := Lib.hid (BS0.out.grown hg1)
              have HRES1 : Hid (Blk w1 w.heap.size 30 #[.slice none 0 0]) := Lib.hid (HRES0.out.grown hg1 (by simp))
              clear hg1 BS0 HRES0 c1
              obtain ⟨v8, d8⟩ := BS1.out.tab.old (show k * 10 + 8 < n * 10 by omega)
              have z8 := BS1.out.tab.frozen (k * 10 + 8)
              go_wp2_with (go_at_call 22; refine (inval_any _).mono ?_)
              rintro e w2 ⟨rfl, hg2⟩
              have BS2 : Hid (BSt w w2 g n k (fun m => if m < k then symF n ss ks ls ds m else SymR.zero) ⟨⟨#[]⟩, 0, 0, 0, 0, kdOf x1⟩) := Lib.hid ((BS1.out.set hgw hlt (j := 8) (by omega) _ ⟨⟨#[]⟩, 0, 0, 0, 0, kdOf x1⟩ rfl).grown hg2)
              have HRES2 : Hid (Blk w2 w.heap.size 30 #[.slice none 0 0]) := Lib.hid ((HRES1.out.far (p := ⟨g, k * 10 + 8, none⟩) (by show w.heap.size ≠ g; omega) _).grown hg2 (by simp))
              clear hg2 BS1 HRES1
              clear d8 z8
              obtain ⟨v2, d2⟩ := BS2.out.tab.old (show k * 10 + 2 < n * 10 by omega)
              have z2 := BS2.out.tab.frozen (k * 10 + 2)
              obtain ⟨v3, d3⟩ := BS2.out.tab.old (show k * 10 + 3 < n * 10 by omega)
              have z3 := BS2.out.tab.frozen (k * 10 + 3)
              have c2 : w2.cell? ⟨b2, off2 + k, none⟩ = some (.int .u32 x2) := C2.out w2 BS2.out.bel
              have HFB := Lib.hid ((BS2.out.set hgw hlt (j := 2) (by omega) (.int .u32 4294967295) ⟨⟨#[]⟩, 4294967295, 0, 0, 0, kdOf x1⟩ rfl).set hgw hlt (j := 3) (by omega) (.int .u32 4294967295) ⟨⟨#[]⟩, 4294967295, 4294967295, 0, 0, kdOf x1⟩ rfl)
              have HFR := Lib.hid ((HRES2.out.far (p := ⟨g, k * 10 + 2, none⟩) (by show w.heap.size ≠ g; omega) (.int .u32 4294967295)).far (p := ⟨g, k * 10 + 3, none⟩) (by show w.heap.size ≠ g; omega) (.int .u32 4294967295))
              go_wp2
              go_roundw
              case rel =>
                refine ⟨k + 1, by go_num, by omega, HFB.out.tab.ext (fun m hm => ?_), HFR.out, HFB.out.bel⟩
                exact upd_next HSY.out m hm
              case measure => simp [intOf]; omega
          · skip
            by_cases hnd : k < nd
            · skip
              obtain ⟨b3, off3, e3, hb3, hc3'⟩ := reads_any (H3.out) (by omega)
              subst e3
              have hb3' : ¬ b3 = g := by omega
              have hb3'' : ¬ g = b3 := by omega
              obtain ⟨x3, hx3⟩ : ∃ x, ds[k]? = some x := ⟨_, List.getElem?_eq_getElem (by have := L3.out; omega)⟩
              have q3 := HD.out x3 (List.mem_of_getElem? hx3)
              have C3 : Hid (∀ W, Below w.heap.size w W → W.cell? ⟨b3, off3 + k, none⟩ = some (.int .u32 x3)) := Lib.hid (fun W hW => (hW.cell (p := ⟨b3, off3 + k, none⟩) hb3).trans (hc3' k x3 hx3))
              have hc3 : ∀ i l, ds[i]? = some l → w.cell? ⟨b3, off3 + i, none⟩ = some (.int .u32 l) := hc3'
              clear hc3'
              by_cases hz3 : x3 = 0
              · have t3 : (x3 != 0) = false := by rw [hz3]; rfl
                have GN : Hid (ss.getD k ⟨#[]⟩ = ⟨#[]⟩) := Lib.hid (by rw [List.getD_eq_getElem?_getD, List.getElem?_eq_none (by have := L0.out; omega)]; rfl)
                have c2 := hc2 k x2 hx2
                have GL : Hid (ls.getD k 0 = x2) := Lib.hid (by rw [List.getD_eq_getElem?_getD, hx2]; rfl)
                clear hc2 hx2
                have c3 := hc3 k x3 hx3
                have GD : Hid (ds.getD k 0 = x3) := Lib.hid (by rw [List.getD_eq_getElem?_getD, hx3]; rfl)
                clear hc3 hx3
                have HOK : Hid (lkOk n ls k) := Lib.hid (by unfold lkOk; rw [GL.out]; omega)
                have HSY : Hid (symF n ss ks ls ds k = ⟨⟨#[]⟩, (0 : Int), x2, 0, 0, kdOf x1⟩) := Lib.hid (by unfold symF; rw [GN.out, GK.out, GD.out, GL.out]; simp only [if_pos HOK.out, if_pos hz3])
                clear hz3
                have BS0 : Hid (BSt w wr g n k (fun m => if m < k then symF n ss ks ls ds m else SymR.zero) SymR.zero) := Lib.hid ⟨by have e := upd_self (fun m => if m < k then symF n ss ks ls ds m else SymR.zero) k; simp only [Nat.lt_irrefl, if_false] at e; rw [e]; exact htab, hbel⟩
                have HRES0 := Lib.hid hres
                clear htab hres
                go_wp2_with (go_at_call 21; refine (kind_any x1 q1.1 q1.2 _).mono ?_)
                rintro e w1 ⟨rfl, hg1⟩
                have BS1 : Hid (BSt w w1 g n k (fun m => if m < k then symF n ss ks ls ds m else SymR.zero) SymR.zero) := Lib.hid (BS0.out.grown hg1)
                have HRES1 : Hid (Blk w1 w.heap.size 30 #[.slice none 0 0]) := Lib.hid (HRES0.out.grown hg1 (by simp))
                clear hg1 BS0 HRES0 c1
                obtain ⟨v8, d8⟩ := BS1.out.tab.old (show k * 10 + 8 < n * 10 by omega)
                have z8 := BS1.out.tab.frozen (k * 10 + 8)
                go_wp2_with (go_at_call 22; refine (inval_any _).mono ?_)
                rintro e w2 ⟨rfl, hg2⟩
                have BS2 : Hid (BSt w w2 g n k (fun m => if m < k then symF n ss ks ls ds m else SymR.zero) ⟨⟨#[]⟩, 0, 0, 0, 0, kdOf x1⟩) := Lib.hid ((BS1.out.set hgw hlt (j := 8) (by omega) _ ⟨⟨#[]⟩, 0, 0, 0, 0, kdOf x1⟩ rfl).grown hg2)
                have HRES2 : Hid (Blk w2 w.heap.size 30 #[.slice none 0 0]) := Lib.hid ((HRES1.out.far (p := ⟨g, k * 10 + 8, none⟩) (by show w.heap.size ≠ g; omega) _).grown hg2 (by simp))
                clear hg2 BS1 HRES1
                clear d8 z8
                obtain ⟨v2, d2⟩ := BS2.out.tab.old (show k * 10 + 2 < n * 10 by omega)
                have z2 := BS2.out.tab.frozen (k * 10 + 2)
                obtain ⟨v3, d3⟩ := BS2.out.tab.old (show k * 10 + 3 < n * 10 by omega)
                have z3 := BS2.out.tab.frozen (k * 10 + 3)
                have c2 : w2.cell? ⟨b2, off2 + k, none⟩ = some (.int .u32 x2) := C2.out w2 BS2.out.bel
                go_wp2_with (go_at_call 11; refine (ref_any x2 _).mono ?_)
                rintro e w3 ⟨rfl, hg3⟩
                have BS3 : Hid (BSt w w3 g n k (fun m => if m < k then symF n ss ks ls ds m else SymR.zero) ⟨⟨#[]⟩, 4294967295, 4294967295, 0, 0, kdOf x1⟩) := Lib.hid (((BS2.out.set hgw hlt (j := 2) (by omega) (.int .u32 4294967295) ⟨⟨#[]⟩, 4294967295, 0, 0, 0, kdOf x1⟩ rfl).set hgw hlt (j := 3) (by omega) (.int .u32 4294967295) ⟨⟨#[]⟩, 4294967295, 4294967295, 0, 0, kdOf x1⟩ rfl).grown hg3)
                have HRES3 : Hid (Blk w3 w.heap.size 30 #[.slice none 0 0]) := Lib.hid (((HRES2.out.far (p := ⟨g, k * 10 + 2, none⟩) (by show w.heap.size ≠ g; omega) (.int .u32 4294967295)).far (p := ⟨g, k * 10 + 3, none⟩) (by show w.heap.size ≠ g; omega) (.int .u32 4294967295)).grown hg3 (by simp))
                clear hg3 BS2 HRES2 c2
                clear d2 z2 d3 z3
                obtain ⟨v2, d2⟩ := BS3.out.tab.old (show k * 10 + 2 < n * 10 by omega)
                have z2 := BS3.out.tab.frozen (k * 10 + 2)
                obtain ⟨v3, d3⟩ := BS3.out.tab.old (show k * 10 + 3 < n * 10 by omega)
                have z3 := BS3.out.tab.frozen (k * 10 + 3)
                have c3 : w3.cell? ⟨b3, off3 + k, none⟩ = some (.int .u32 x3) := C3.out w3 BS3.out.bel
                have HFB := Lib.hid ((BS3.out.set hgw hlt (j := 2) (by omega) (.int .u32 0) ⟨⟨#[]⟩, 0, 4294967295, 0, 0, kdOf x1⟩ rfl).set hgw hlt (j := 3) (by omega) (.int .u32 x2) ⟨⟨#[]⟩, 0, x2, 0, 0, kdOf x1⟩ rfl)
                have HFR := Lib.hid ((HRES3.out.far (p := ⟨g, k * 10 + 2, none⟩) (by show w.heap.size ≠ g; omega) (.int .u32 0)).far (p := ⟨g, k * 10 + 3, none⟩) (by show w.heap.size ≠ g; omega) (.int .u32 x2))
                go_wp2
                go_roundw
                case rel =>
                  refine ⟨k + 1, by go_num, by omega, HFB.out.tab.ext (fun m hm => ?_), HFR.out, HFB.out.bel⟩
                  exact upd_next HSY.out m hm
                case measure => simp [intOf]; omega
              · have t3 : (x3 != 0) = true := by rw [bne_iff_ne]; exact hz3
                have GN : Hid (ss.getD k ⟨#[]⟩ = ⟨#[]⟩) := Lib.hid (by rw [List.getD_eq_getElem?_getD, List.getElem?_eq_none (by have := L0.out; omega)]; rfl)
                have c2 := hc2 k x2 hx2
                have GL : Hid (ls.getD k 0 = x2) := Lib.hid (by rw [List.getD_eq_getElem?_getD, hx2]; rfl)
                clear hc2 hx2
                have c3 := hc3 k x3 hx3
                have GD : Hid (ds.getD k 0 = x3) := Lib.hid (by rw [List.getD_eq_getElem?_getD, hx3]; rfl)
                clear hc3 hx3
                have HOK : Hid (lkOk n ls k) := Lib.hid (by unfold lkOk; rw [GL.out]; omega)
                have HSY : Hid (symF n ss ks ls ds k = ⟨⟨#[]⟩, (0 : Int), x2, 4294967295 - (x3 - 1), 0, kdOf x1⟩) := Lib.hid (by unfold symF; rw [GN.out, GK.out, GD.out, GL.out]; simp only [if_pos HOK.out, if_neg hz3])
                have BS0 : Hid (BSt w wr g n k (fun m => if m < k then symF n ss ks ls ds m else SymR.zero) SymR.zero) := Lib.hid ⟨by have e := upd_self (fun m => if m < k then symF n ss ks ls ds m else SymR.zero) k; simp only [Nat.lt_irrefl, if_false] at e; rw [e]; exact htab, hbel⟩
                have HRES0 := Lib.hid hres
                clear htab hres
                go_wp2_with (go_at_call 21; refine (kind_any x1 q1.1 q1.2 _).mono ?_)
                rintro e w1 ⟨rfl, hg1⟩
                have BS1 : Hid (BSt w w1 g n k (fun m => if m < k then symF n ss ks ls ds m else SymR.zero) SymR.zero) := Lib.hid (BS0.out.grown hg1)
                have HRES1 : Hid (Blk w1 w.heap.size 30 #[.slice none 0 0]) := Lib.hid (HRES0.out.grown hg1 (by simp))
                clear hg1 BS0 HRES0 c1
                obtain ⟨v8, d8⟩ := BS1.out.tab.old (show k * 10 + 8 < n * 10 by omega)
                have z8 := BS1.out.tab.frozen (k * 10 + 8)
                go_wp2_with (go_at_call 22; refine (inval_any _).mono ?_)
                rintro e w2 ⟨rfl, hg2⟩
                have BS2 : Hid (BSt w w2 g n k (fun m => if m < k then symF n ss ks ls ds m else SymR.zero) ⟨⟨#[]⟩, 0, 0, 0, 0, kdOf x1⟩) := Lib.hid ((BS1.out.set hgw hlt (j := 8) (by omega) _ ⟨⟨#[]⟩, 0, 0, 0, 0, kdOf x1⟩ rfl).grown hg2)
                have HRES2 : Hid (Blk w2 w.heap.size 30 #[.slice none 0 0]) := Lib.hid ((HRES1.out.far (p := ⟨g, k * 10 + 8, none⟩) (by show w.heap.size ≠ g; omega) _).grown hg2 (by simp))
                clear hg2 BS1 HRES1
                clear d8 z8
                obtain ⟨v2, d2⟩ := BS2.out.tab.old (show k * 10 + 2 < n * 10 by omega)
                have z2 := BS2.out.tab.frozen (k * 10 + 2)
                obtain ⟨v3, d3⟩ := BS2.out.tab.old (show k * 10 + 3 < n * 10 by omega)
                have z3 := BS2.out.tab.frozen (k * 10 + 3)
                have c2 : w2.cell? ⟨b2, off2 + k, none⟩ = some (.int .u32 x2) := C2.out w2 BS2.out.bel
                go_wp2_with (go_at_call 11; refine (ref_any x2 _).mono ?_)
                rintro e w3 ⟨rfl, hg3⟩
                have BS3 : Hid (BSt w w3 g n k (fun m => if m < k then symF n ss ks ls ds m else SymR.zero) ⟨⟨#[]⟩, 4294967295, 4294967295, 0, 0, kdOf x1⟩) := Lib.hid (((BS2.out.set hgw hlt (j := 2) (by omega) (.int .u32 4294967295) ⟨⟨#[]⟩, 4294967295, 0, 0, 0, kdOf x1⟩ rfl).set hgw hlt (j := 3) (by omega) (.int .u32 4294967295) ⟨⟨#[]⟩, 4294967295, 4294967295, 0, 0, kdOf x1⟩ rfl).grown hg3)
                have HRES3 : Hid (Blk w3 w.heap.size 30 #[.slice none 0 0]) := Lib.hid (((HRES2.out.far (p := ⟨g, k * 10 + 2, none⟩) (by show w.heap.size ≠ g; omega) (.int .u32 4294967295)).far (p := ⟨g, k * 10 + 3, none⟩) (by show w.heap.size ≠ g; omega) (.int .u32 4294967295)).grown hg3 (by simp))
                clear hg3 BS2 HRES2 c2
                clear d2 z2 d3 z3
                obtain ⟨v2, d2⟩ := BS3.out.tab.old (show k * 10 + 2 < n * 10 by omega)
                have z2 := BS3.out.tab.frozen (k * 10 + 2)
                obtain ⟨v3, d3⟩ := BS3.out.tab.old (show k * 10 + 3 < n * 10 by omega)
                have z3 := BS3.out.tab.frozen (k * 10 + 3)
                have c3 : w3.cell? ⟨b3, off3 + k, none⟩ = some (.int .u32 x3) := C3.out w3 BS3.out.bel
                go_wp2_with (go_at_call 23; refine (mki_any (x3 - 1) (by omega) (by omega) _).mono ?_)
                rintro e w4 ⟨rfl, hg4⟩
                have BS4 : Hid (BSt w w4 g n k (fun m => if m < k then symF n ss ks ls ds m else SymR.zero) ⟨⟨#[]⟩, 0, x2, 0, 0, kdOf x1⟩) := Lib.hid (((BS3.out.set hgw hlt (j := 2) (by omega) (.int .u32 0) ⟨⟨#[]⟩, 0, 4294967295, 0, 0, kdOf x1⟩ rfl).set hgw hlt (j := 3) (by omega) (.int .u32 x2) ⟨⟨#[]⟩, 0, x2, 0, 0, kdOf x1⟩ rfl).grown hg4)
                have HRES4 : Hid (Blk w4 w.heap.size 30 #[.slice none 0 0]) := Lib.hid (((HRES3.out.far (p := ⟨g, k * 10 + 2, none⟩) (by show w.heap.size ≠ g; omega) (.int .u32 0)).far (p := ⟨g, k * 10 + 3, none⟩) (by show w.heap.size ≠ g; omega) (.int .u32 x2)).grown hg4 (by simp))
                clear hg4 BS3 HRES3 c3
                clear d2 z2 d3 z3
                obtain ⟨v6, d6⟩ := BS4.out.tab.old (show k * 10 + 6 < n * 10 by omega)
                have z6 := BS4.out.tab.frozen (k * 10 + 6)
                have HFB := Lib.hid (BS4.out.set hgw hlt (j := 6) (by omega) (.int .u32 (4294967295 - (x3 - 1))) ⟨⟨#[]⟩, 0, x2, 4294967295 - (x3 - 1), 0, kdOf x1⟩ rfl)
                have HFR := Lib.hid (HRES4.out.far (p := ⟨g, k * 10 + 6, none⟩) (by show w.heap.size ≠ g; omega) (.int .u32 (4294967295 - (x3 - 1))))
                go_wp2
                go_roundw
                case rel =>
                  refine ⟨k + 1, by go_num, by omega, HFB.out.tab.ext (fun m hm => ?_), HFR.out, HFB.out.bel⟩
                  exact upd_next HSY.out m hm
                case measure => simp [intOf]; omega
            · skip
              have GN : Hid (ss.getD k ⟨#[]⟩ = ⟨#[]⟩) := Lib.hid (by rw [List.getD_eq_getElem?_getD, List.getElem?_eq_none (by have := L0.out; omega)]; rfl)
              have c2 := hc2 k x2 hx2
              have GL : Hid (ls.getD k 0 = x2) := Lib.hid (by rw [List.getD_eq_getElem?_getD, hx2]; rfl)
              clear hc2 hx2
              have GD : Hid (ds.getD k 0 = 0) := Lib.hid (by rw [List.getD_eq_getElem?_getD, List.getElem?_eq_none (by have := L3.out; omega)]; rfl)
              have HOK : Hid (lkOk n ls k) := Lib.hid (by unfold lkOk; rw [GL.out]; omega)
              have HSY : Hid (symF n ss ks ls ds k = ⟨⟨#[]⟩, (0 : Int), x2, 0, 0, kdOf x1⟩) := Lib.hid (by unfold symF; rw [GN.out, GK.out, GD.out, GL.out]; simp only [if_pos HOK.out, if_true])
              have BS0 : Hid (BSt w wr g n k (fun m => if m < k then symF n ss ks ls ds m else SymR.zero) SymR.zero) := Lib.hid ⟨by have e := upd_self (fun m => if m < k then symF n ss ks ls ds m else SymR.zero) k; simp only [Nat.lt_irrefl, if_false] at e; rw [e]; exact htab, hbel⟩
              have HRES0 := Lib.hid hres
              clear htab hres
              go_wp2_with (go_at_call 21; refine (kind_any x1 q1.1 q1.2 _).mono ?_)
              rintro e w1 ⟨rfl, hg1⟩
              have BS1 : Hid (BSt w w1 g n k (fun m => if m < k then symF n ss ks ls ds m else SymR.zero) SymR.zero) := Lib.hid (BS0.out.grown hg1)
              have HRES1 : Hid (Blk w1 w.heap.size 30 #[.slice none 0 0]) := Lib.hid (HRES0.out.grown hg1 (by simp))
              clear hg1 BS0 HRES0 c1
              obtain ⟨v8, d8⟩ := BS1.out.tab.old (show k * 10 + 8 < n * 10 by omega)
              have z8 := BS1.out.tab.frozen (k * 10 + 8)
              go_wp2_with (go_at_call 22; refine (inval_any _).mono ?_)
              rintro e w2 ⟨rfl, hg2⟩
              have BS2 : Hid (BSt w w2 g n k (fun m => if m < k then symF n ss ks ls ds m else SymR.zero) ⟨⟨#[]⟩, 0, 0, 0, 0, kdOf x1⟩) := Lib.hid ((BS1.out.set hgw hlt (j := 8) (by omega) _ ⟨⟨#[]⟩, 0, 0, 0, 0, kdOf x1⟩ rfl).grown hg2)
              have HRES2 : Hid (Blk w2 w.heap.size 30 #[.slice none 0 0]) := Lib.hid ((HRES1.out.far (p := ⟨g, k * 10 + 8, none⟩) (by show w.heap.size ≠ g; omega) _).grown hg2 (by simp))
              clear hg2 BS1 HRES1
              clear d8 z8
              obtain ⟨v2, d2⟩ := BS2.out.tab.old (show k * 10 + 2 < n * 10 by omega)
              have z2 := BS2.out.tab.frozen (k * 10 + 2)
              obtain ⟨v3, d3⟩ := BS2.out.tab.old (show k * 10 + 3 < n * 10 by omega)
              have z3 := BS2.out.tab.frozen (k * 10 + 3)
              have c2 : w2.cell? ⟨b2, off2 + k, none⟩ = some (.int .u32 x2) := C2.out w2 BS2.out.bel
              go_wp2_with (go_at_call 11; refine (ref_any x2 _).mono ?_)
              rintro e w3 ⟨rfl, hg3⟩
              have BS3 : Hid (BSt w w3 g n k (fun m => if m < k then symF n ss ks ls ds m else SymR.zero) ⟨⟨#[]⟩, 4294967295, 4294967295, 0, 0, kdOf x1⟩) := Lib.hid (((BS2.out.set hgw hlt (j := 2) (by omega) (.int .u32 4294967295) ⟨⟨#[]⟩, 4294967295, 0, 0, 0, kdOf x1⟩ rfl).set hgw hlt (j := 3) (by omega) (.int .u32 4294967295) ⟨⟨#[]⟩, 4294967295, 4294967295, 0, 0, kdOf x1⟩ rfl).grown hg3)
              have HRES3 : Hid (Blk w3 w.heap.size 30 #[.slice none 0 0]) := Lib.hid (((HRES2.out.far (p := ⟨g, k * 10 + 2, none⟩) (by show w.heap.size ≠ g; omega) (.int .u32 4294967295)).far (p := ⟨g, k * 10 + 3, none⟩) (by show w.heap.size ≠ g; omega) (.int .u32 4294967295)).grown hg3 (by simp))
              clear hg3 BS2 HRES2 c2
              clear d2 z2 d3 z3
              obtain ⟨v2, d2⟩ := BS3.out.tab.old (show k * 10 + 2 < n * 10 by omega)
              have z2 := BS3.out.tab.frozen (k * 10 + 2)
              obtain ⟨v3, d3⟩ := BS3.out.tab.old (show k * 10 + 3 < n * 10 by omega)
              have z3 := BS3.out.tab.frozen (k * 10 + 3)
              have HFB := Lib.hid ((BS3.out.set hgw hlt (j := 2) (by omega) (.int .u32 0) ⟨⟨#[]⟩, 0, 4294967295, 0, 0, kdOf x1⟩ rfl).set hgw hlt (j := 3) (by omega) (.int .u32 x2) ⟨⟨#[]⟩, 0, x2, 0, 0, kdOf x1⟩ rfl)
              have HFR := Lib.hid ((HRES3.out.far (p := ⟨g, k * 10 + 2, none⟩) (by show w.heap.size ≠ g; omega) (.int .u32 0)).far (p := ⟨g, k * 10 + 3, none⟩) (by show w.heap.size ≠ g; omega) (.int .u32 x2))
              go_wp2
              go_roundw
              case rel =>
                refine ⟨k + 1, by go_num, by omega, HFB.out.tab.ext (fun m hm => ?_), HFR.out, HFB.out.bel⟩
                exact upd_next HSY.out m hm
              case measure => simp [intOf]; omega
        · skip
          by_cases hnd : k < nd
          · skip
            obtain ⟨b3, off3, e3, hb3, hc3'⟩ := reads_any (H3.out) (by omega)
            subst e3
            have hb3' : ¬ b3 = g := by omega
            have hb3'' : ¬ g = b3 := by omega
            obtain ⟨x3, hx3⟩ : ∃ x, ds[k]? = some x := ⟨_, List.getElem?_eq_getElem (by have := L3.out; omega)⟩
            have q3 := HD.out x3 (List.mem_of_getElem? hx3)
            have C3 : Hid (∀ W, Below w.heap.size w W → W.cell? ⟨b3, off3 + k, none⟩ = some (.int .u32 x3)) := Lib.hid (fun W hW => (hW.cell (p := ⟨b3, off3 + k, none⟩) hb3).trans (hc3' k x3 hx3))
            have hc3 : ∀ i l, ds[i]? = some l → w.cell? ⟨b3, off3 + i, none⟩ = some (.int .u32 l) := hc3'
            clear hc3'
            by_cases hz3 : x3 = 0
            · have t3 : (x3 != 0) = false := by rw [hz3]; rfl
              have GN : Hid (ss.getD k ⟨#[]⟩ = ⟨#[]⟩) := Lib.hid (by rw [List.getD_eq_getElem?_getD, List.getElem?_eq_none (by have := L0.out; omega)]; rfl)
              have GL : Hid (ls.getD k 0 = 0) := Lib.hid (by rw [List.getD_eq_getElem?_getD, List.getElem?_eq_none (by have := L2.out; omega)]; rfl)
              have c3 := hc3 k x3 hx3
              have GD : Hid (ds.getD k 0 = x3) := Lib.hid (by rw [List.getD_eq_getElem?_getD, hx3]; rfl)
              clear hc3 hx3
              have HOK : Hid (¬ lkOk n ls k) := Lib.hid (by unfold lkOk; rw [GL.out]; omega)
              have HSY : Hid (symF n ss ks ls ds k = ⟨⟨#[]⟩, 4294967295, 4294967295, 0, 0, kdOf x1⟩) := Lib.hid (by unfold symF; rw [GN.out, GK.out, GD.out, GL.out]; simp only [if_neg HOK.out, if_pos hz3])
              clear hz3
              have BS0 : Hid (BSt w wr g n k (fun m => if m < k then symF n ss ks ls ds m else SymR.zero) SymR.zero) := Lib.hid ⟨by have e := upd_self (fun m => if m < k then symF n ss ks ls ds m else SymR.zero) k; simp only [Nat.lt_irrefl, if_false] at e; rw [e]; exact htab, hbel⟩
              have HRES0 := Lib.hid hres
              clear htab hres
              go_wp2_with (go_at_call 21; refine (kind_any x1 q1.1 q1.2 _).mono ?_)
              rintro e w1 ⟨rfl, hg1⟩
              have BS1 : Hid (BSt w w1 g n k (fun m => if m < k then symF n ss ks ls ds m else SymR.zero) SymR.zero) := Lib.hid (BS0.out.grown hg1)
              have HRES1 : Hid (Blk w1 w.heap.size 30 #[.slice none 0 0]) := Lib.hid (HRES0.out.grown hg1 (by simp))
              clear hg1 BS0 HRES0 c1
              obtain ⟨v8, d8⟩ := BS1.out.tab.old (show k * 10 + 8 < n * 10 by omega)
              have z8 := BS1.out.tab.frozen (k * 10 + 8)
              go_wp2_with (go_at_call 22; refine (inval_any _).mono ?_)
              rintro e w2 ⟨rfl, hg2⟩
              have BS2 : Hid (BSt w w2 g n k (fun m => if m < k then symF n ss ks ls ds m else SymR.zero) ⟨⟨#[]⟩, 0, 0, 0, 0, kdOf x1⟩) := Lib.hid ((BS1.out.set hgw hlt (j := 8) (by omega) _ ⟨⟨#[]⟩, 0, 0, 0, 0, kdOf x1⟩ rfl).grown hg2)
              have HRES2 : Hid (Blk w2 w.heap.size 30 #[.slice none 0 0]) := Lib.hid ((HRES1.out.far (p := ⟨g, k * 10 + 8, none⟩) (by show w.heap.size ≠ g; omega) _).grown hg2 (by simp))
              clear hg2 BS1 HRES1
              clear d8 z8
              obtain ⟨v2, d2⟩ := BS2.out.tab.old (show k * 10 + 2 < n * 10 by omega)
              have z2 := BS2.out.tab.frozen (k * 10 + 2)
              obtain ⟨v3, d3⟩ := BS2.out.tab.old (show k * 10 + 3 < n * 10 by omega)
              have z3 := BS2.out.tab.frozen (k * 10 + 3)
              have c3 : w2.cell? ⟨b3, off3 + k, none⟩ = some (.int .u32 x3) := C3.out w2 BS2.out.bel
              have HFB := Lib.hid ((BS2.out.set hgw hlt (j := 2) (by omega) (.int .u32 4294967295) ⟨⟨#[]⟩, 4294967295, 0, 0, 0, kdOf x1⟩ rfl).set hgw hlt (j := 3) (by omega) (.int .u32 4294967295) ⟨⟨#[]⟩, 4294967295, 4294967295, 0, 0, kdOf x1⟩ rfl)
              have HFR := Lib.hid ((HRES2.out.far (p := ⟨g, k * 10 + 2, none⟩) (by show w.heap.size ≠ g; omega) (.int .u32 4294967295)).far (p := ⟨g, k * 10 + 3, none⟩) (by show w.heap.size ≠ g; omega) (.int .u32 4294967295))
              go_wp2
              go_roundw
              case rel =>
                refine ⟨k + 1, by go_num, by omega, HFB.out.tab.ext (fun m hm => ?_), HFR.out, HFB.out.bel⟩
                exact upd_next HSY.out m hm
              case measure => simp [intOf]; omega
            · have t3 : (x3 != 0) = true := by rw [bne_iff_ne]; exact hz3
              have GN : Hid (ss.getD k ⟨#[]⟩ = ⟨#[]⟩) := Lib.hid (by rw [List.getD_eq_getElem?_getD, List.getElem?_eq_none (by have := L0.out; omega)]; rfl)
              have GL : Hid (ls.getD k 0 = 0) := Lib.hid (by rw [List.getD_eq_getElem?_getD, List.getElem?_eq_none (by have := L2.out; omega)]; rfl)
              have c3 := hc3 k x3 hx3
              have GD : Hid (ds.getD k 0 = x3) := Lib.hid (by rw [List.getD_eq_getElem?_getD, hx3]; rfl)
              clear hc3 hx3
              have HOK : Hid (¬ lkOk n ls k) := Lib.hid (by unfold lkOk; rw [GL.out]; omega)
              have HSY : Hid (symF n ss ks ls ds k = ⟨⟨#[]⟩, 4294967295, 4294967295, 4294967295 - (x3 - 1), 0, kdOf x1⟩) := Lib.hid (by unfold symF; rw [GN.out, GK.out, GD.out, GL.out]; simp only [if_neg HOK.out, if_neg hz3])
              have BS0 : Hid (BSt w wr g n k (fun m => if m < k then symF n ss ks ls ds m else SymR.zero) SymR.zero) := Lib.hid ⟨by have e := upd_self (fun m => if m < k then symF n ss ks ls ds m else SymR.zero) k; simp only [Nat.lt_irrefl, if_false] at e; rw [e]; exact htab, hbel⟩
              have HRES0 := Lib.hid hres
              clear htab hres
              go_wp2_with (go_at_call 21; refine (kind_any x1 q1.1 q1.2 _).mono ?_)
              rintro e w1 ⟨rfl, hg1⟩
              have BS1 : Hid (BSt w w1 g n k (fun m => if m < k then symF n ss ks ls ds m else SymR.zero) SymR.zero) := Lib.hid (BS0.out.grown hg1)
              have HRES1 : Hid (Blk w1 w.heap.size 30 #[.slice none 0 0]) := Lib.hid (HRES0.out.grown hg1 (by simp))
              clear hg1 BS0 HRES0 c1
              obtain ⟨v8, d8⟩ := BS1.out.tab.old (show k * 10 + 8 < n * 10 by omega)
              have z8 := BS1.out.tab.frozen (k * 10 + 8)
              go_wp2_with (go_at_call 22; refine (inval_any _).mono ?_)
              rintro e w2 ⟨rfl, hg2⟩
              have BS2 : Hid (BSt w w2 g n k (fun m => if m < k then symF n ss ks ls ds m else SymR.zero) ⟨⟨#[]⟩, 0, 0, 0, 0, kdOf x1⟩) := Lib.hid ((BS1.out.set hgw hlt (j := 8) (by omega) _ ⟨⟨#[]⟩, 0, 0, 0, 0, kdOf x1⟩ rfl).grown hg2)
              have HRES2 : Hid (Blk w2 w.heap.size 30 #[.slice none 0 0]) := Lib.hid ((HRES1.out.far (p := ⟨g, k * 10 + 8, none⟩) (by show w.heap.size ≠ g; omega) _).grown hg2 (by simp))
              clear hg2 BS1 HRES1
              clear d8 z8
              obtain ⟨v2, d2⟩ := BS2.out.tab.old (show k * 10 + 2 < n * 10 by omega)
              have z2 := BS2.out.tab.frozen (k * 10 + 2)
              obtain ⟨v3, d3⟩ := BS2.out.tab.old (show k * 10 + 3 < n * 10 by omega)
              have z3 := BS2.out.tab.frozen (k * 10 + 3)
              have c3 : w2.cell? ⟨b3, off3 + k, none⟩ = some (.int .u32 x3) := C3.out w2 BS2.out.bel
              go_wp2_with (go_at_call 23; refine (mki_any (x3 - 1) (by omega) (by omega) _).mono ?_)
              rintro e w4 ⟨rfl, hg4⟩
              have BS4 : Hid (BSt w w4 g n k (fun m => if m < k then symF n ss ks ls ds m else SymR.zero) ⟨⟨#[]⟩, 4294967295, 4294967295, 0, 0, kdOf x1⟩) := Lib.hid (((BS2.out.set hgw hlt (j := 2) (by omega) (.int .u32 4294967295) ⟨⟨#[]⟩, 4294967295, 0, 0, 0, kdOf x1⟩ rfl).set hgw hlt (j := 3) (by omega) (.int .u32 4294967295) ⟨⟨#[]⟩, 4294967295, 4294967295, 0, 0, kdOf x1⟩ rfl).grown hg4)
              have HRES4 : Hid (Blk w4 w.heap.size 30 #[.slice none 0 0]) := Lib.hid (((HRES2.out.far (p := ⟨g, k * 10 + 2, none⟩) (by show w.heap.size ≠ g; omega) (.int .u32 4294967295)).far (p := ⟨g, k * 10 + 3, none⟩) (by show w.heap.size ≠ g; omega) (.int .u32 4294967295)).grown hg4 (by simp))
              clear hg4 BS2 HRES2 c3
              clear d2 z2 d3 z3
              obtain ⟨v6, d6⟩ := BS4.out.tab.old (show k * 10 + 6 < n * 10 by omega)
              have z6 := BS4.out.tab.frozen (k * 10 + 6)
              have HFB := Lib.hid (BS4.out.set hgw hlt (j := 6) (by omega) (.int .u32 (4294967295 - (x3 - 1))) ⟨⟨#[]⟩, 4294967295, 4294967295, 4294967295 - (x3 - 1), 0, kdOf x1⟩ rfl)
              have HFR := Lib.hid (HRES4.out.far (p := ⟨g, k * 10 + 6, none⟩) (by show w.heap.size ≠ g; omega) (.int .u32 (4294967295 - (x3 - 1))))
              go_wp2
              go_roundw
              case rel =>
                refine ⟨k + 1, by go_num, by omega, HFB.out.tab.ext (fun m hm => ?_), HFR.out, HFB.out.bel⟩
                exact upd_next HSY.out m hm
              case measure => simp [intOf]; omega
          · skip
            have GN : Hid (ss.getD k ⟨#[]⟩ = ⟨#[]⟩) := Lib.hid (by rw [List.getD_eq_getElem?_getD, List.getElem?_eq_none (by have := L0.out; omega)]; rfl)
            have GL : Hid (ls.getD k 0 = 0) := Lib.hid (by rw [List.getD_eq_getElem?_getD, List.getElem?_eq_none (by have := L2.out; omega)]; rfl)
            have GD : Hid (ds.getD k 0 = 0) := Lib.hid (by rw [List.getD_eq_getElem?_getD, List.getElem?_eq_none (by have := L3.out; omega)]; rfl)
            have HOK : Hid (¬ lkOk n ls k) := Lib.hid (by unfold lkOk; rw [GL.out]; omega)
            have HSY : Hid (symF n ss ks ls ds k = ⟨⟨#[]⟩, 4294967295, 4294967295, 0, 0, kdOf x1⟩) := Lib.hid (by unfold symF; rw [GN.out, GK.out, GD.out, GL.out]; simp only [if_neg HOK.out, if_true])
            have BS0 : Hid (BSt w wr g n k (fun m => if m < k then symF n ss ks ls ds m else SymR.zero) SymR.zero) := Lib.hid ⟨by have e := upd_self (fun m => if m < k then symF n ss ks ls ds m else SymR.zero) k; simp only [Nat.lt_irrefl, if_false] at e; rw [e]; exact htab, hbel⟩
            have HRES0 := Lib.hid hres
            clear htab hres
            go_wp2_with (go_at_call 21; refine (kind_any x1 q1.1 q1.2 _).mono ?_)
            rintro e w1 ⟨rfl, hg1⟩
            have BS1 : Hid (BSt w w1 g n k (fun m => if m < k then symF n ss ks ls ds m else SymR.zero) SymR.zero) := Lib.hid (BS0.out.grown hg1)
            have HRES1 : Hid (Blk w1 w.heap.size 30 #[.slice none 0 0]) := Lib.hid (HRES0.out.grown hg1 (by simp))
            clear hg1 BS0 HRES0 c1
            obtain ⟨v8, d8⟩ := BS1.out.tab.old (show k * 10 + 8 < n * 10 by omega)
            have z8 := BS1.out.tab.frozen (k * 10 + 8)
            go_wp2_with (go_at_call 22; refine (inval_any _).mono ?_)
            rintro e w2 ⟨rfl, hg2⟩
            have BS2 : Hid (BSt w w2 g n k (fun m => if m < k then symF n ss ks ls ds m else SymR.zero) ⟨⟨#[]⟩, 0, 0, 0, 0, kdOf x1⟩) := Lib.hid ((BS1.out.set hgw hlt (j := 8) (by omega) _ ⟨⟨#[]⟩, 0, 0, 0, 0, kdOf x1⟩ rfl).grown hg2)
            have HRES2 : Hid (Blk w2 w.heap.size 30 #[.slice none 0 0]) := Lib.hid ((HRES1.out.far (p := ⟨g, k * 10 + 8, none⟩) (by show w.heap.size ≠ g; omega) _).grown hg2 (by simp))
            clear hg2 BS1 HRES1
            clear d8 z8
            obtain ⟨v2, d2⟩ := BS2.out.tab.old (show k * 10 + 2 < n * 10 by omega)
            have z2 := BS2.out.tab.frozen (k * 10 + 2)
            obtain ⟨v3, d3⟩ := BS2.out.tab.old (show k * 10 + 3 < n * 10 by omega)
            have z3 := BS2.out.tab.frozen (k * 10 + 3)
            have HFB := Lib.hid ((BS2.out.set hgw hlt (j := 2) (by omega) (.int .u32 4294967295) ⟨⟨#[]⟩, 4294967295, 0, 0, 0, kdOf x1⟩ rfl).set hgw hlt (j := 3) (by omega) (.int .u32 4294967295) ⟨⟨#[]⟩, 4294967295, 4294967295, 0, 0, kdOf x1⟩ rfl)
            have HFR := Lib.hid ((HRES2.out.far (p := ⟨g, k * 10 + 2, none⟩) (by show w.heap.size ≠ g; omega) (.int .u32 4294967295)).far (p := ⟨g, k * 10 + 3, none⟩) (by show w.heap.size ≠ g; omega) (.int .u32 4294967295))
            go_wp2
            go_roundw
            case rel =>
              refine ⟨k + 1, by go_num, by omega, HFB.out.tab.ext (fun m hm => ?_), HFR.out, HFB.out.bel⟩
              exact upd_next HSY.out m hm
            case measure => simp [intOf]; omega
    · obtain rfl : k = n := by omega
      have HTB := Lib.hid (htab.ext (S' := symF k ss ks ls ds) (fun m hm => by rw [if_pos hm])); have HRS := Lib.hid hres; have HBL := Lib.hid hbel
      have r0 : wr.cell? ⟨w.heap.size, 0, none⟩ = some (.slice none 0 0) := hres.cell 0
      have r1 : wr.frozen? ⟨w.heap.size, 0, none⟩ = false := hres.frozen 0
      have rl := hres.lt
      have gl := htab.lt
      have HFB := Lib.hid (((hres.set_ 0 (.slice (some ⟨wr.heap.size, 0, none⟩) 1 1)).alloc (.cells #[.slice (some ⟨g, 0, none⟩) k k] 57)))
      have HFO : Hid (Out1 ((wr.setCell ⟨w.heap.size, 0, none⟩ (.slice (some ⟨wr.heap.size, 0, none⟩) 1 1)).alloc (.cells #[.slice (some ⟨g, 0, none⟩) k k] 57)) wr.heap.size g k) := Lib.hid (by
        have := Blk.new (wr.setCell ⟨w.heap.size, 0, none⟩ (.slice (some ⟨wr.heap.size, 0, none⟩) 1 1)) 57 #[.slice (some ⟨g, 0, none⟩) k k]
        rwa [size_setCell] at this)
      have HFT := Lib.hid (((htab.ext (S' := symF k ss ks ls ds) (fun m hm => by rw [if_pos hm])).far (p := ⟨w.heap.size, 0, none⟩) (by show g ≠ w.heap.size; omega) (.slice (some ⟨wr.heap.size, 0, none⟩) 1 1)).alloc (.cells #[.slice (some ⟨g, 0, none⟩) k k] 57))
      have HFW := Lib.hid ((hbel.setCell (p := ⟨w.heap.size, 0, none⟩) (Nat.le_refl _) (.slice (some ⟨wr.heap.size, 0, none⟩) 1 1)).alloc (by rw [size_setCell]; exact hbel.size) (.cells #[.slice (some ⟨g, 0, none⟩) k k] 57))
      clear htab hres hbel HTB HRS HBL
      go_wp2
      refine bodyPost_ret (results_cell_row rfl _ _ w.heap.size _ #[.slice (some ⟨wr.heap.size, 0, none⟩) 1 1] (0, 0) _ rfl HFB.out Try.underlying30 rfl sm_size) rfl ?_
      exact ⟨wr.heap.size, g, rfl, by omega, hgw, by omega, HFO.out, HFT.out, HFW.out⟩
end Go.Proofs.Ytlpmkbdglpnjhaa
