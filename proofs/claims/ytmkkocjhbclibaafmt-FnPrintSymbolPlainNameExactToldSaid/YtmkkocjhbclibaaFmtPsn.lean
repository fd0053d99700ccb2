/- n011_125: ZZNewSymbolPrinter: the table of symbols, the map of renamings, the printer. -/
import Derived.Test.YtmkkocjhbclibaaFmtPsj
import Derived.Test.YtmkkocjhbclibaaFmtFlw
import Derived.Test.YtmkkocjhbclibaaFmtRfk
import Derived.BigRegion
namespace Go.Proofs.YtmkkocjhbclibaaFmt
open Go.RowKit Go.Maps Go.WideMaps
set_option linter.unusedVariables false
set_option linter.unusedSimpArgs false
def zSym : Value := .agg #[.pointer none, .string ⟨#[]⟩, .int .u32 0, .int .u32 0, .int .u32 0, .int .u32 0, .int .u32 0, .int .u16 0, .int .u8 0, .int .u8 0]
theorem sym_info : (Tryf.prog.info? 52).map (fun i => (i.zero, i.size, i.bytes)) = some (some zSym, 10, 48) := by kernel_rfl
def mkSy (n : Nat) : Array Value := madeCells zSym.cells (n * 10)
theorem mkSy_tbl (w : World) (n : Nat) : Tbl (w.alloc (.cells (mkSy n) 52)) w.heap.size n (fun _ => SymR.zero) := by
  refine ⟨_, Blk.new _ _ _, by simp [mkSy, madeCells, zSym, Value.cells], fun m hm j hj => ?_⟩
  have hb : m * 10 + j < n * 10 := by omega
  have hmod : (m * 10 + j) % 10 = j := by omega
  unfold mkSy madeCells
  simp only [zSym, Value.cells, SymR.cells, SymR.zero]
  rw [Array.getElem?_map, Array.getElem?_range, if_pos hb]
  rcases (by omega : j = 0 ∨ j = 1 ∨ j = 2 ∨ j = 3 ∨ j = 4 ∨ j = 5 ∨ j = 6 ∨ j = 7 ∨ j = 8 ∨ j = 9) with rfl | rfl | rfl | rfl | rfl | rfl | rfl | rfl | rfl | rfl <;> simp [hmod]
theorem upd_next {n k : Nat} {F : Nat → SymR} {r : SymR} (hF : F k = r) (m : Nat) (hm : m < n) : upd (fun m => if m < k then F m else SymR.zero) k r m = if m < k + 1 then F m else SymR.zero := by
  unfold upd
  by_cases e : m = k
  · subst e; rw [if_pos rfl, if_pos (by omega), hF]
  · rw [if_neg e]
    by_cases e2 : m < k
    · rw [if_pos (by omega)]; exact if_pos e2
    · rw [if_neg (by omega)]; exact if_neg e2
/-- The symbol that the maker lays. -/
def symP (names : List ByteArray) (ls : List Int) (m : Nat) : SymR :=
  ⟨names.getD m ⟨#[]⟩, if ls.getD m 0 = 0 then 4294967295 else 0, if ls.getD m 0 = 0 then 4294967295 else ls.getD m 0 - 1, 0, 0, 0⟩
theorem symP_no {names : List ByteArray} {ls : List Int} {m : Nat} {nm : ByteArray} (h1 : names.getD m ⟨#[]⟩ = nm) (h2 : ls.getD m 0 = 0) : symP names ls m = ⟨nm, 4294967295, 4294967295, 0, 0, 0⟩ := by
  unfold symP; rw [if_pos h2, if_pos h2, h1]
theorem symP_yes {names : List ByteArray} {ls : List Int} {m : Nat} {nm : ByteArray} {j : Int} (h1 : names.getD m ⟨#[]⟩ = nm) (h2 : ls.getD m 0 = j + 1) (hj : 0 ≤ j) : symP names ls m = ⟨nm, 0, j, 0, 0, 0⟩ := by
  unfold symP; rw [if_neg (by omega), if_neg (by omega), h1, h2, show j + 1 - 1 = j by omega]
abbrev RMap (w : World) (b n : Nat) (D : DataW Unit) : Prop := w.ownsMap (H := Unit) Tryf.prog 44 (plainElem Tryf.prog 9) b n D
/-- What the map of renamings answers. -/
def RenIs (ks : List Int) (vs : List ByteArray) (k : Nat) (D : DataW Unit) : Prop :=
  ∀ r : Nat, r ≤ 4294967295 → has D (refK r) = (pickR ks vs r k).isSome ∧ ∀ v, pickR ks vs r k = some v → D.atKey (refK r) (.lit (.string [])) = .lit (.string v.data.toList)
theorem refK_isKey (r : Nat) : WideAt.IsKeyLit (refK r) := by simp [refK, WideAt.IsKeyLit]
theorem RenIs.step {ks : List Int} {vs : List ByteArray} {k : Nat} {D : DataW Unit} (hD : IsMap D) (h : RenIs ks vs k D) {q : Nat} (hq : q ≤ 4294967295) {v : ByteArray} (h1 : ks.getD k 0 = q) (h2 : vs.getD k ⟨#[]⟩ = v) :
    RenIs ks vs (k + 1) (D.put (refK q) (.lit (.string v.data.toList))) := by
  intro r hr
  obtain ⟨a, b⟩ := h r hr
  have e : pickR ks vs r (k + 1) = if ks.getD k 0 = r then some (vs.getD k ⟨#[]⟩) else pickR ks vs r k := rfl
  rw [e, h1, h2]
  by_cases c : q = r
  · subst c
    rw [if_pos rfl]
    refine ⟨has_put_same hD (refK_isKey _) _, fun v' hv' => ?_⟩
    obtain rfl := Option.some.inj hv'
    exact atKey_put_same hD (refK_isKey _) _ _
  · have hne : refK r ≠ refK q := fun h => c (refK_inj hr hq h).symm
    rw [if_neg (by omega)]
    exact ⟨(has_put_other hne _).trans a, fun v' hv' => (atKey_put_other hne _ _).trans (b v' hv')⟩
def symK (asc : Bool) (m o : Nat) (v : Value) : Array Value := #[.pointer none, .slice none 0 0, .map (some m), .int .i64 0, .int .u32 0, .int .u16 0, .bool false, .bool asc, .int .u8 0, .bool false, .int .u8 0, .bool false, .int .u8 0, .slice (some ⟨o, 0, none⟩) 1 1, .slice none 0 0, v, .map none, .slice none 0 0, .slice none 0 0, .pointer none, .slice none 0 0, .slice none 0 0, .map none, .slice none 0 0, .string ⟨#[]⟩, .int .i64 0, .int .i64 0, .int .i64 0, .int .i64 0, .int .i64 0, .int .i64 0, .bool false, .int .i64 0, .int .i64 0, .int .i64 0, .int .i32 0, .int .u32 0, .bool false, .bool false, .bool false, .bool false, .int .i64 0, .int .i64 0]
/-- The printer with its table of symbols (block g, outer row o) and its map of renamings (block m). -/
structure SymP (B b : Nat) (asc : Bool) (m o g n : Nat) (S : Nat → SymR) (ks : List Int) (vs : List ByteArray) (n3 : Nat) (A : Option Addr) (cap : Nat) (bs : List Value) (w : World) : Prop where
  p : ∃ v, IsP B b (symK asc m o v) A cap bs w
  out : Out1 w o g n
  tab : Tbl w g n S
  map : ∃ k D, RMap w m k D ∧ RenIs ks vs n3 D
  lo : B ≤ o ∧ B ≤ g ∧ B ≤ m ∧ o ≠ g
def NewPost (B : Nat) (asc : Bool) (n : Nat) (S : Nat → SymR) (ks : List Int) (vs : List ByteArray) (n3 : Nat) (A : Option Addr) (cap : Nat) (bs : List Value) (w : World) (e : Ending) (w' : World) : Prop :=
  ∃ b m o g, e = .returned (.pointer (some ⟨b, 0, none⟩)) ∧ SymP B b asc m o g n S ks vs n3 A cap bs w' ∧ Below w.heap.size w w'
set_option maxHeartbeats 8000000 in
set_option maxRecDepth 100000 in
theorem new_any (B : Nat) (A0 : Option Addr) (n0 c0 : Nat) (bs : List Value) (asc : Bool) (A1 : Option Addr) (n1 c1 : Nat) (names : List ByteArray) (A2 : Option Addr) (c2 : Nat) (ls : List Int) (A3 : Option Addr) (n3 c3 : Nat) (ks : List Int) (A4 : Option Addr) (c4 : Nat) (vs : List ByteArray) (w : World)
    (hn0 : bs.length = n0) (hown : w.ownsRow B 5 1 (.slice A0 n0 c0) n0 bs) (hB : B ≤ w.heap.size)
    (h1 : StrL w A1 n1 names) (h2 : U32L w A2 n1 ls) (h3 : U32L w A3 n3 ks) (h4 : StrL w A4 n3 vs) (b1 : n1 ≤ 65536) (b3 : n3 ≤ 65536) :
    Calls Tryf.prog 12 #[.slice A0 n0 c0, .bool asc, .slice A1 n1 c1, .slice A2 n1 c2, .slice A3 n3 c3, .slice A4 n3 c4] w (NewPost B asc n1 (symP names ls) ks vs n3 A0 c0 bs w) := by
  obtain ⟨i0, hi, hz0, hz1, hz2⟩ := info_parts sym_info
  have hmk : ∀ W : World, (Instr.makeSlice 41 (.int .i64 (n1 : Int)) (.int .i64 (n1 : Int))).run Tryf.prog W = .ok (.slice (some ⟨W.heap.size, 0, none⟩) n1 n1) (W.alloc (.cells (mkSy n1) 52)) := fun W => by
    have hr := run_make (P := Tryf.prog) W 41 52 i0 zSym Tryf.underlying41 hi hz0 .i64 .i64 n1 n1 (by omega) (by omega) (by rw [hz2]; omega) (by omega)
    simp only [Int.toNat_natCast, hz1] at hr
    exact hr
  have hmm := @run_makeMap Tryf.prog
  have H1 := Lib.hid h1; have H2 := Lib.hid h2; have H3 := Lib.hid h3; have H4 := Lib.hid h4; have HO := Lib.hid hown; have HN0 := Lib.hid hn0
  obtain ⟨W0, hW0⟩ : ∃ W0, W0 = w.alloc (.cells (mkSy n1) 52) := ⟨_, rfl⟩
  have HT0 : Hid (Tbl W0 w.heap.size n1 (fun m => if m < 0 then symP names ls m else SymR.zero)) := Lib.hid (by rw [hW0]; exact mkSy_tbl w n1)
  have HB0 : Hid (Below w.heap.size w W0) := Lib.hid (by rw [hW0]; exact (Below.refl _ _).alloc (Nat.le_refl _) _)
  have HZ0 : Hid (W0.heap.size = w.heap.size + 1) := Lib.hid (by rw [hW0]; simp)
  have HW0 := Lib.hid hW0
  clear h1 h2 h3 h4 hown hn0 hW0
  go_enter Tryf.func12, Tryf.ntmps12
  go_upto_region 2 with fail
  rw [← HW0.out]
  clear HW0 hmk
  go_wp2_with fail
  go_loopw [14] (fun t wr => ∃ k : Nat, t = .int .i64 k ∧ k ≤ n1 ∧ Tbl wr w.heap.size n1 (fun m => if m < k then symP names ls m else SymR.zero) ∧ Below w.heap.size w wr ∧ w.heap.size + 1 ≤ wr.heap.size) (fun t _ => n1 - (intOf t).toNat)
  case atStart => exact ⟨0, rfl, by omega, HT0.out, HB0.out, by have := HZ0.out; omega⟩
  case round =>
    obtain ⟨k, rfl, hk, htab, hbel, hsz⟩ := hrel
    have HTAB := Lib.hid htab; have HBEL := Lib.hid hbel
    clear htab hbel
    by_cases hlt : k < n1
    · obtain ⟨bn, on, rfl, hbn, hcn⟩ := str_at H1.out (show 0 < n1 by omega)
      obtain ⟨bl, ol, rfl, hbl, hcl⟩ := u32_at H2.out (show 0 < n1 by omega)
      have cn : wr.cell? ⟨bn, on + k, none⟩ = some (.string (names.getD k ⟨#[]⟩)) := (HBEL.out.cell (p := ⟨bn, on + k, none⟩) hbn).trans (hcn k hlt)
      obtain ⟨cl0, cl1, cl2⟩ := hcl k hlt
      have cl : wr.cell? ⟨bl, ol + k, none⟩ = some (.int .u32 (ls.getD k 0)) := (HBEL.out.cell (p := ⟨bl, ol + k, none⟩) hbl).trans cl0
      generalize hnm : names.getD k ⟨#[]⟩ = nm at cn
      generalize hlv : ls.getD k 0 = x at cl cl1 cl2
      have HNM := Lib.hid hnm; have HLV := Lib.hid hlv
      have d1 : wr.cell? ⟨w.heap.size, k * 10 + 1, none⟩ = some (.string SymR.zero.nm) := by have := HTAB.out.name hlt; rwa [if_neg (by omega)] at this
      have d2 : wr.cell? ⟨w.heap.size, k * 10 + 2, none⟩ = some (.int .u32 SymR.zero.la) := by have := HTAB.out.link0 hlt; rwa [if_neg (by omega)] at this
      have d3 : wr.cell? ⟨w.heap.size, k * 10 + 3, none⟩ = some (.int .u32 SymR.zero.lb) := by have := HTAB.out.link1 hlt; rwa [if_neg (by omega)] at this
      have z1 := HTAB.out.frozen (k * 10 + 1); have z2 := HTAB.out.frozen (k * 10 + 2); have z3 := HTAB.out.frozen (k * 10 + 3)
      have hTS : ∀ r1 : SymR, symP names ls k = r1 → ∀ W, Tbl W w.heap.size n1 (upd (fun m => if m < k then symP names ls m else SymR.zero) k r1) → Tbl W w.heap.size n1 (fun m => if m < k + 1 then symP names ls m else SymR.zero) := fun r1 hr1 W hW => hW.ext (fun m hm => upd_next (n := n1) hr1 m hm)
      have HTS := Lib.hid hTS
      have hup : Tbl wr w.heap.size n1 (upd (fun m => if m < k then symP names ls m else SymR.zero) k SymR.zero) := HTAB.out.ext (fun m hm => by
        unfold upd
        by_cases e : m = k
        · subst e; rw [if_pos rfl, if_neg (by omega)]
        · rw [if_neg e])
      have HUP := Lib.hid hup
      have hbne : ¬ bl = w.heap.size := by omega
      clear hcn cl0 hcl hnm hlv hTS hup
      have HT3 : Hid (Tbl (((wr.setCell ⟨w.heap.size, k * 10 + 1, none⟩ (.string nm)).setCell ⟨w.heap.size, k * 10 + 2, none⟩ (.int .u32 4294967295)).setCell ⟨w.heap.size, k * 10 + 3, none⟩ (.int .u32 4294967295)) w.heap.size n1 (upd (fun m => if m < k then symP names ls m else SymR.zero) k ⟨nm, 4294967295, 4294967295, 0, 0, 0⟩)) := Lib.hid
        (((HUP.out.upd_set hlt (j := 1) (by omega) (.string nm) ⟨nm, 0, 0, 0, 0, 0⟩ rfl).upd_set hlt (j := 2) (by omega) (.int .u32 4294967295) ⟨nm, 4294967295, 0, 0, 0, 0⟩ rfl).upd_set hlt (j := 3) (by omega) (.int .u32 4294967295) ⟨nm, 4294967295, 4294967295, 0, 0, 0⟩ rfl)
      have HB3 : Hid (Below w.heap.size w (((wr.setCell ⟨w.heap.size, k * 10 + 1, none⟩ (.string nm)).setCell ⟨w.heap.size, k * 10 + 2, none⟩ (.int .u32 4294967295)).setCell ⟨w.heap.size, k * 10 + 3, none⟩ (.int .u32 4294967295))) := Lib.hid
        (((HBEL.out.setCell (p := ⟨w.heap.size, k * 10 + 1, none⟩) (Nat.le_refl _) _).setCell (p := ⟨w.heap.size, k * 10 + 2, none⟩) (Nat.le_refl _) _).setCell (p := ⟨w.heap.size, k * 10 + 3, none⟩) (Nat.le_refl _) _)
      by_cases h0 : x = 0
      · have t0 : (x != 0) = false := by rw [h0]; rfl
        have HFIN := Lib.hid (HTS.out _ (symP_no HNM.out (HLV.out.trans h0)) _ HT3.out)
        clear h0
        go_wp2_with fail
        go_roundw
        case rel => exact ⟨k + 1, by go_num, by omega, HFIN.out, HB3.out, by simp only [size_setCell]; omega⟩
        case measure => simp [intOf]; omega
      · obtain ⟨j, hxj⟩ : ∃ j : Nat, x - 1 = (j : Int) := ⟨(x - 1).toNat, by omega⟩
        have t0 : (x != 0) = true := by rw [bne_iff_ne]; omega
        have hx1 : 1 ≤ x := by omega
        have HFIN := Lib.hid (HTS.out _ (symP_yes HNM.out (HLV.out.trans (show x = (j : Int) + 1 by omega)) (by omega)) _ ((HT3.out.upd_set hlt (j := 2) (by omega) (.int .u32 0) ⟨nm, 0, 4294967295, 0, 0, 0⟩ rfl).upd_set hlt (j := 3) (by omega) (.int .u32 (j : Int)) ⟨nm, 0, j, 0, 0, 0⟩ rfl))
        have HBF := Lib.hid ((HB3.out.setCell (p := ⟨w.heap.size, k * 10 + 2, none⟩) (Nat.le_refl _) (.int .u32 0)).setCell (p := ⟨w.heap.size, k * 10 + 3, none⟩) (Nat.le_refl _) (.int .u32 (j : Int)))
        clear h0
        go_wp2_with fail
        go_roundw
        case rel => exact ⟨k + 1, by go_num, by omega, HFIN.out, HBF.out, by simp only [size_setCell]; omega⟩
        case measure => simp [intOf]; omega
    · obtain rfl : n1 = k := by omega
      have HTF : Hid (Tbl wr w.heap.size n1 (symP names ls)) := Lib.hid (HTAB.out.ext (fun m hm => if_pos hm))
      clear HTAB
      obtain ⟨M0, hM0⟩ : ∃ M0, M0 = wr.alloc (.map #[] 0) := ⟨_, rfl⟩
      have HMM : Hid (RMap M0 wr.heap.size 0 (.map [])) := Lib.hid (by rw [hM0]; exact World.ownsMap_made (H := Unit) wr Tryf.prog _ _)
      have HMT : Hid (Tbl M0 w.heap.size n1 (symP names ls)) := Lib.hid (by rw [hM0]; exact HTF.out.alloc _)
      have HMB : Hid (Below w.heap.size w M0) := Lib.hid (by rw [hM0]; exact HBEL.out.alloc (by omega) _)
      have HMS : Hid (M0.heap.size = wr.heap.size + 1) := Lib.hid (by rw [hM0]; simp)
      have HM0 := Lib.hid hM0
      clear hM0
      go_upto_region 10 with fail
      rw [← HM0.out]
      obtain ⟨mb, hmb⟩ : ∃ mb, mb = wr.heap.size := ⟨_, rfl⟩
      rw [← hmb]
      rw [← hmb] at HMM HMS hsz
      clear HM0 hmm hmb HBEL HTF
      go_wp2_with fail
      go_loopw [16] (fun t wr => ∃ (k : Nat) (D : DataW Unit), t = .int .i64 k ∧ k ≤ n3 ∧ RMap wr mb k D ∧ RenIs ks vs k D ∧ Tbl wr w.heap.size n1 (symP names ls) ∧ Below w.heap.size w wr) (fun t _ => n3 - (intOf t).toNat)
      case atStart => exact ⟨0, .map [], rfl, by omega, HMM.out, (fun r hr => ⟨rfl, fun v hv => by cases hv⟩), HMT.out, HMB.out⟩
      case round =>
        obtain ⟨k, D, rfl, hk, hmap, hren, htab, hbel⟩ := hrel
        have HREN := Lib.hid hren; have HTAB := Lib.hid htab; have HBEL := Lib.hid hbel; have HMAP := Lib.hid hmap
        clear hren htab hbel hmap
        by_cases hlt : k < n3
        · obtain ⟨bk, ok, rfl, hbk, hck⟩ := u32_at H3.out (show 0 < n3 by omega)
          obtain ⟨bv, ov, rfl, hbv, hcv⟩ := str_at H4.out (show 0 < n3 by omega)
          obtain ⟨ck0, ck1, ck2⟩ := hck k hlt
          have ck := (HBEL.out.cell (p := ⟨bk, ok + k, none⟩) hbk).trans ck0
          have cv := (HBEL.out.cell (p := ⟨bv, ov + k, none⟩) hbv).trans (hcv k hlt)
          obtain ⟨q, hq⟩ := Int.eq_ofNat_of_zero_le ck1
          generalize hv : vs.getD k ⟨#[]⟩ = v at cv
          rw [hq] at ck ck2
          have hvs : v.size ≤ 9223372036854775807 := by
            rw [← hv, List.getD_eq_getElem?_getD, List.getElem?_eq_getElem (by have := H4.out.len; omega)]
            exact H4.out.sz _ (List.getElem_mem _)
          have hpe := plainElem_string (H := Unit) Tryf.underlying9 (show v.size ≤ maxLen by unfold maxLen; omega)
          have hkey := refK_key q (by omega)
          have HNX := Lib.hid (HREN.out.step HMAP.out.isMap (show q ≤ 4294967295 by omega) hq hv)
          have HPE := Lib.hid hpe
          clear hck hcv ck0 hq hv hpe
          obtain ⟨w1, hrun, hown1, hturn⟩ := World.ownsMap.store (w := wr.drew) HMAP.out lawR Tryf.underlying53 (by unfold maxLen; omega) hkey HPE.out
          have hgrow1 : wr.grownBy w1 (some mb) := by
            have h := hturn.grown
            exact ⟨h.os, h.tape, h.output, h.size, h.block⟩
          have i0 : (0 : Int) ≤ (k : Int) := by omega
          have i1 : (k : Int) < (n3 : Int) := by omega
          have hne := HMAP.out
          have HT1 := Lib.hid (HTAB.out.grown hgrow1 (fun e => by cases e; omega))
          have HB1 := Lib.hid (HBEL.out.grown hgrow1 HBEL.out.size (fun j hj => by cases hj; omega))
          have HO1 := Lib.hid hown1
          clear hown1 hgrow1 hne hkey hturn
          go_wp2_with fail
          go_region
          all_goals
            go_wp2_with fail
            go_roundw
            case rel => exact ⟨k + 1, _, by go_num, by omega, HO1.out, HNX.out, HT1.out, HB1.out⟩
            case measure => simp [intOf]; omega
        · obtain rfl : n3 = k := by omega
          have hsz2 := HBEL.out.size
          have hgl := HTAB.out.lt
          have hml := World.ownsMap.lt HMAP.out
          obtain ⟨P1, hP1⟩ : ∃ P1, P1 = wr.alloc (.cells #[.slice (some ⟨w.heap.size, 0, none⟩) n1 n1] 41) := ⟨_, rfl⟩
          have hfin : NewPost B asc n1 (symP names ls) ks vs n3 A0 c0 bs w (.returned (.pointer (some ⟨wr.heap.size + 1, 0, none⟩))) ((wr.alloc (.cells #[.slice (some ⟨w.heap.size, 0, none⟩) n1 n1] 41)).alloc (.cells (symK asc mb wr.heap.size (.slice A0 n0 c0)) 76)) := by
            refine ⟨wr.heap.size + 1, mb, wr.heap.size, w.heap.size, rfl, ⟨⟨.slice A0 bs.length c0, ?_, rfl, ?_, ?_⟩, ?_, ?_, ⟨n3, D, ?_, HREN.out⟩, ⟨by omega, by omega, by omega, by omega⟩⟩, ?_⟩
            · omega
            · have := Blk.new (wr.alloc (.cells #[.slice (some ⟨w.heap.size, 0, none⟩) n1 n1] 41)) 76 (symK asc mb wr.heap.size (.slice A0 n0 c0))
              rw [HN0.out, show (symK asc mb wr.heap.size (.slice A0 n0 c0)).setIfInBounds 15 (.slice A0 n0 c0) = symK asc mb wr.heap.size (.slice A0 n0 c0) from rfl]
              simpa using this
            · rw [HN0.out]
              exact own_below HO.out (((HBEL.out).alloc hsz2 _).alloc (by simp; omega) _)
            · exact (Blk.new wr _ _).alloc _
            · exact (HTAB.out.alloc _).alloc _
            · exact (World.ownsMap.alloc HMAP.out _).alloc _
            · exact ((HBEL.out).alloc hsz2 _).alloc (by simp; omega) _
          have HFIN := Lib.hid hfin
          clear hfin hP1 P1
          go_wp2_with fail
          go_ret
          exact HFIN.out
end Go.Proofs.YtmkkocjhbclibaaFmt
