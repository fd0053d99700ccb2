/- n011_287: zzBuild: the table of symbols, its flags, kinds, links and nested slots -/
import Derived.Test.YtdmllmipcfkaaaaBzh
namespace Go.Proofs.Ytdmllmipcfkaaaa
open Go.RowKit
set_option linter.unusedVariables false
set_option linter.unusedSimpArgs false
theorem link_ex (A : Option Addr) (n c : Nat) (xs : List Int) (i : Nat) (w : World) (h : Reads w w.heap.size 1 A n (xs.map (Value.int .u32))) (hn : n ≤ 65536) (hi : i ≤ 65536) (hx : ∀ x ∈ xs, 0 ≤ x ∧ x ≤ 4294967295) :
    Calls Try.prog 14 #[.slice A n c, .int .i64 (i : Int)] w fun e w' => ∃ lv : Nat, e = .returned (.tuple #[.int .i64 lv, .bool (lkd xs n i)]) ∧ (lkd xs n i = true → xs.getD i 0 = lv) ∧ lv ≤ 4294967295 ∧ w = w' := by
  refine (link_any A n c xs i w h hn hi hx).mono ?_
  rintro e w' ⟨rfl, rfl⟩
  have hl : xs.length = n := by have := h.1; simpa using this
  cases hb : lkd xs n i
  · exact ⟨0, by simp, (fun h => by cases h), by omega, rfl⟩
  · have h1 : i < n := by unfold lkd at hb; have := of_decide_eq_true hb; exact this.1
    have h2 := hx (xs.getD i 0) (by rw [List.getD_eq_getElem?_getD, List.getElem?_eq_getElem (by omega)]; exact List.getElem_mem _)
    have e2 : xs.getD i 0 = (((xs.getD i 0).toNat : Nat) : Int) := by omega
    exact ⟨(xs.getD i 0).toNat, by rw [if_pos rfl, ← e2], (fun _ => e2), by omega, rfl⟩
theorem nest_ex (A : Option Addr) (n c : Nat) (ds : List Int) (sc : Int) (i : Nat) (w : World) (h : Reads w w.heap.size 1 A n (ds.map (Value.int .u32))) (hn : n ≤ 9223372036854775807) (hs : 0 ≤ sc ∧ sc ≤ 4294967295) (hx : 0 ≤ ds.getD i 0 ∧ ds.getD i 0 ≤ 4294967295) :
    Calls Try.prog 16 #[.slice A n c, .int .u32 sc, .int .i64 (i : Int)] w fun e w' => ∃ sv : Nat, e = .returned (.tuple #[.int .u32 sv, .bool (nsd ds sc i)]) ∧ (nsd ds sc i = true → (ds.getD i 0 - 1) % sc = sv) ∧ sv ≤ 4294967295 ∧ w = w' := by
  refine (nestS_any A n c ds sc i w h hn hs hx).mono ?_
  rintro e w' ⟨rfl, rfl⟩
  cases hb : nsd ds sc i
  · exact ⟨0, by simp, (fun h => by cases h), by omega, rfl⟩
  · have h1 : ds.getD i 0 ≠ 0 ∧ sc ≠ 0 := of_decide_eq_true hb
    have h2 : 0 ≤ (ds.getD i 0 - 1) % sc := Int.emod_nonneg _ h1.2
    have h3 : (ds.getD i 0 - 1) % sc < sc := Int.emod_lt_of_pos _ (by omega)
    have e2 : (ds.getD i 0 - 1) % sc = ((((ds.getD i 0 - 1) % sc).toNat : Nat) : Int) := by omega
    exact ⟨((ds.getD i 0 - 1) % sc).toNat, by rw [if_pos rfl, ← e2], (fun _ => e2), by omega, rfl⟩
def zSym : Value := .agg #[.pointer none, .string ⟨#[]⟩, .int .u32 0, .int .u32 0, .int .u32 0, .int .u32 0, .int .u32 0, .int .u16 0, .int .u8 0, .int .u8 0]
theorem sym_info : (Try.prog.info? 61).map (fun i => (i.zero, i.size, i.bytes)) = some (some zSym, 10, 48) := by kernel_rfl
theorem sm_size : (Try.prog.info? 30).map (·.size) = some 1 := by kernel_rfl
def mkSy (n : Nat) : Array Value := madeCells zSym.cells (n * 10)
theorem mkSy_tbl (w : World) (n : Nat) : Tbl (w.alloc (.cells (mkSy n) 61)) w.heap.size n (fun _ => SymR.zero) := by
  refine ⟨_, Blk.new _ _ _, by simp [mkSy, madeCells, zSym, Value.cells], fun m hm j hj => ?_⟩
  have hb : m * 10 + j < n * 10 := by omega
  have hmod : (m * 10 + j) % 10 = j := by omega
  unfold mkSy madeCells
  simp only [zSym, Value.cells, SymR.cells, SymR.zero]
  rw [Array.getElem?_map, Array.getElem?_range, if_pos hb]
  rcases (by omega : j = 0 ∨ j = 1 ∨ j = 2 ∨ j = 3 ∨ j = 4 ∨ j = 5 ∨ j = 6 ∨ j = 7 ∨ j = 8 ∨ j = 9) with rfl | rfl | rfl | rfl | rfl | rfl | rfl | rfl | rfl | rfl <;> simp [hmod]
theorem upd_next {n k : Nat} {F : Nat → SymR} {r : SymR} (hF : F k = r) (m : Nat) (hm : m < n) : upd (fun m => if m < k then F m else SymR.zero) k r m = if m < k + 1 then F m else SymR.zero := by
  unfold upd
  by_cases e : m = k
  · subst e; rw [if_pos rfl, if_pos (by omega), hF]
  · rw [if_neg e]
    by_cases e2 : m < k
    · rw [if_pos (by omega)]; exact if_pos e2
    · rw [if_neg (by omega)]; exact if_neg e2
/-- The table while symbol k is made: it is r so far; the result's own cell. -/
structure ZSt (w W : World) (g n k : Nat) (S : Nat → SymR) (r : SymR) : Prop where
  tab : Tbl W g n (upd S k r)
  bel : Below w.heap.size w W
  res : Blk W w.heap.size 30 #[.slice none 0 0]
theorem ZSt.grown {w W W' : World} {g n k : Nat} {S : Nat → SymR} {r : SymR} (h : ZSt w W g n k S r) (hg : W.grownBy W' none) : ZSt w W' g n k S r :=
  ⟨h.tab.grown hg (by simp), h.bel.grown hg h.bel.size (fun k hk => by cases hk), h.res.grown hg (by simp)⟩
theorem ZSt.set {w W : World} {g n k : Nat} {S : Nat → SymR} {r : SymR} (h : ZSt w W g n k S r) (hg : w.heap.size < g) (hk : k < n) {j : Nat} (hj : j < 10) (v : Value) (r' : SymR) (hr : r'.cells = r.cells.set j v) : ZSt w (W.setCell ⟨g, k * 10 + j, none⟩ v) g n k S r' :=
  ⟨h.tab.upd_set hk hj v r' hr, h.bel.setCell (p := ⟨g, k * 10 + j, none⟩) (Nat.le_of_lt hg) _, h.res.far (p := ⟨g, k * 10 + j, none⟩) (by show w.heap.size ≠ g; omega) _⟩
/-- The symbol that zzBuild makes. -/
def kdA (ap : Bool) (k : Int) : Int := if ap = true then (if k % 3 = 0 then 27 else if k % 3 = 1 then 18 else 0) else (if k % 2 = 1 then 18 else 27)
def flA (ap : Bool) (f : Int) : Int := (if ap = true ∧ ¬ bits .and .u8 f 1 = 0 then 1 else 0) + (if ¬ bits .and .u8 f 2 = 0 then 2 else 0)
def symB (ap : Bool) (n4 : Nat) (ks fs ds : List Int) (sc : Int) (ls : List Int) (m : Nat) : SymR :=
  ⟨⟨#[]⟩, if lkd ls n4 m = true then 0 else 4294967295, if lkd ls n4 m = true then ls.getD m 0 else 4294967295, if nsd ds sc m = true then 4294967295 - (ds.getD m 0 - 1) % sc else 0, flA ap (fs.getD m 0), kdA ap (ks.getD m 0)⟩
def BldPost (w : World) (n : Nat) (S : Nat → SymR) (e : Ending) (w' : World) : Prop :=
  ∃ o g, e = .returned (.agg #[.slice (some ⟨o, 0, none⟩) 1 1]) ∧ w.heap.size ≤ o ∧ w.heap.size ≤ g ∧ o ≠ g ∧ Out1 w' o g n ∧ Tbl w' g n S ∧ Below w.heap.size w w'
theorem or01 : bits .or .u16 0 1 = 1 := by kernel_rfl
theorem or02 : bits .or .u16 0 2 = 2 := by kernel_rfl
theorem or12 : bits .or .u16 1 2 = 3 := by kernel_rfl
theorem getD_rg {xs : List Int} {M : Int} (h : ∀ x ∈ xs, 0 ≤ x ∧ x ≤ M) (hM : 0 ≤ M) (i : Nat) : 0 ≤ xs.getD i 0 ∧ xs.getD i 0 ≤ M := by
  rw [List.getD_eq_getElem?_getD]
  cases he : xs[i]? with
  | none => exact ⟨Int.le_refl _, hM⟩
  | some y => exact h y (List.mem_of_getElem? he)
set_option maxHeartbeats 16000000 in
set_option maxRecDepth 100000 in
theorem build_true (A1 : Option Addr) (n c1 : Nat) (ks : List Int) (A2 : Option Addr) (n2 c2 : Nat) (fs : List Int) (A3 : Option Addr) (n3 c3 : Nat) (ds : List Int) (sc : Int) (A4 : Option Addr) (n4 c4 : Nat) (ls : List Int) (w : World)
    (h1 : Reads w w.heap.size 1 A1 n (ks.map (Value.int .u8))) (h2 : Reads w w.heap.size 1 A2 n2 (fs.map (Value.int .u8))) (h3 : Reads w w.heap.size 1 A3 n3 (ds.map (Value.int .u32))) (h4 : Reads w w.heap.size 1 A4 n4 (ls.map (Value.int .u32)))
    (b1 : n ≤ 65536) (b2 : n2 ≤ 65536) (b3 : n3 ≤ 65536) (b4 : n4 ≤ 65536) (hsc : 0 ≤ sc ∧ sc ≤ 4294967295) (rk : ∀ x ∈ ks, 0 ≤ x ∧ x ≤ 255) (rd : ∀ x ∈ ds, 0 ≤ x ∧ x ≤ 4294967295) (rl : ∀ x ∈ ls, 0 ≤ x ∧ x ≤ 4294967295) :
    Calls Try.prog 6 #[.slice A1 n c1, .slice A2 n2 c2, .slice A3 n3 c3, .int .u32 sc, .slice A4 n4 c4, .bool true] w (BldPost w n (symB true n4 ks fs ds sc ls)) := by
  obtain ⟨i0, hi, hz0, hz1, hz2⟩ := info_parts sym_info
  have hmk : ∀ W : World, (Instr.makeSlice 51 (.int .i64 (n : Int)) (.int .i64 (n : Int))).run Try.prog W = .ok (.slice (some ⟨W.heap.size, 0, none⟩) n n) (W.alloc (.cells (mkSy n) 61)) := fun W => by
    have hr := run_make (P := Try.prog) W 51 61 i0 zSym Try.underlying51 hi hz0 .i64 .i64 n n (by omega) (by omega) (by rw [hz2]; omega) (by omega)
    simp only [Int.toNat_natCast, hz1] at hr
    exact hr
  have l1 : ks.length = n := by have := h1.1; simpa using this
  have H1 := Lib.hid h1; have H2 := Lib.hid h2; have H3 := Lib.hid h3; have H4 := Lib.hid h4; have L1 := Lib.hid l1
  have RK := Lib.hid rk; have RD := Lib.hid rd; have RL := Lib.hid rl
  obtain ⟨W0, hW0⟩ : ∃ W0, W0 = (w.alloc (.cells #[.slice none 0 0] 30)).alloc (.cells (mkSy n) 61) := ⟨_, rfl⟩
  obtain ⟨g, hg⟩ : ∃ g, g = w.heap.size + 1 := ⟨_, rfl⟩
  have HT0 : Hid (Tbl W0 g n (fun m => if m < 0 then symB true n4 ks fs ds sc ls m else SymR.zero)) := Lib.hid (by
    rw [hW0, hg]
    have := mkSy_tbl (w.alloc (.cells #[.slice none 0 0] 30)) n
    simpa using this)
  have HR0 : Hid (Blk W0 w.heap.size 30 #[.slice none 0 0]) := Lib.hid (by rw [hW0]; exact (Blk.new w _ _).alloc _)
  have HB0 : Hid (Below w.heap.size w W0) := Lib.hid (by rw [hW0]; exact ((Below.refl _ _).alloc (Nat.le_refl _) _).alloc (by simp) _)
  have hgw : w.heap.size < g := by omega
  have HW0 := Lib.hid hW0; have HG := Lib.hid hg
  clear h1 h2 h3 h4 l1 rk rd rl hW0 hg
  go_enter Try.func6, Try.ntmps6
  go_upto_region 3 with fail
  rw [← HW0.out, ← HG.out]
  clear HW0 HG hmk
  go_wp2_with fail
  go_loopw [15, 16, 17, 18, 19, 20, 21, 22] (fun t s1 s2 s3 s4 s5 s6 s7 wr => ∃ k : Nat, t = .int .i64 k ∧ k ≤ n ∧ Tbl wr g n (fun m => if m < k then symB true n4 ks fs ds sc ls m else SymR.zero) ∧ Below w.heap.size w wr ∧ Blk wr w.heap.size 30 #[.slice none 0 0]) (fun t s1 s2 s3 s4 s5 s6 s7 _ => n - (intOf t).toNat)
  case atStart => exact ⟨0, rfl, by omega, HT0.out, HB0.out, HR0.out⟩
  case round =>
    obtain ⟨k, rfl, hk, htab, hbel, hres⟩ := hrel
    have HTAB := Lib.hid htab; have HBEL := Lib.hid hbel; have HRES := Lib.hid hres
    clear htab hbel hres
    by_cases hlt : k < n
    · have Z0 : ZSt w wr g n k (fun m => if m < k then symB true n4 ks fs ds sc ls m else SymR.zero) SymR.zero := ⟨HTAB.out.ext (fun m hm => by
        unfold upd
        by_cases e : m = k
        · subst e; rw [if_pos rfl, if_neg (by omega)]
        · rw [if_neg e]), HBEL.out, HRES.out⟩
      have HZ0 := Lib.hid Z0
      clear Z0
      go_wp2_with (go_at_call 13; refine (inval_any _).mono ?_)
      rintro e w1 ⟨rfl, hg1⟩
      have HZ1 := Lib.hid (HZ0.out.grown hg1)
      clear hg1 HZ0
      obtain ⟨v2, d2⟩ := HZ1.out.tab.old (show k * 10 + 2 < n * 10 by omega)
      obtain ⟨v3, d3⟩ := HZ1.out.tab.old (show k * 10 + 3 < n * 10 by omega)
      have z2 := HZ1.out.tab.frozen (k * 10 + 2); have z3 := HZ1.out.tab.frozen (k * 10 + 3)
      have HZ2 := Lib.hid ((HZ1.out.set hgw hlt (j := 2) (by omega) (.int .u32 4294967295) ⟨⟨#[]⟩, 4294967295, 0, 0, 0, 0⟩ rfl).set hgw hlt (j := 3) (by omega) (.int .u32 4294967295) ⟨⟨#[]⟩, 4294967295, 4294967295, 0, 0, 0⟩ rfl)
      have HR4 := Lib.hid ((H4.out.below HZ2.out.bel).more HZ2.out.bel.size)
      clear HZ1
      go_wp2_with (go_at_call 14; refine (link_ex A4 n4 c4 ls k _ HR4.out b4 (by omega) RL.out).mono ?_)
      rintro e w2 ⟨lv, rfl, hlv, hlv2, rfl⟩
      have HLV := Lib.hid hlv
      clear hlv d2 d3 z2 z3
      obtain ⟨W2, hW2⟩ : ∃ W2, W2 = (w1.setCell ⟨g, k * 10 + 2, none⟩ (.int .u32 4294967295)).setCell ⟨g, k * 10 + 3, none⟩ (.int .u32 4294967295) := ⟨_, rfl⟩
      rw [← hW2]
      rw [← hW2] at HZ2
      clear hW2 HR4
      obtain ⟨lb, hlb⟩ : ∃ lb, lb = lkd ls n4 k := ⟨_, rfl⟩
      rw [← hlb]
      rw [← hlb] at HLV
      have HLB := Lib.hid hlb
      clear hlb
      go_upto_if 45 with fail
      go_cut [] (fun wx => ZSt w wx g n k (fun m => if m < k then symB true n4 ks fs ds sc ls m else SymR.zero) ⟨⟨#[]⟩, if lb = true then 0 else 4294967295, if lb = true then ls.getD k 0 else 4294967295, 0, 0, 0⟩)
      case first =>
        cases lb
        · go_wp2_with fail
          go_meet
          exact HZ2.out
        · have hl := HLV.out rfl
          go_wp2_with (go_at_call 12; refine (ref_any lv (by omega) _).mono ?_)
          rintro e w3 ⟨rfl, hg3⟩
          have HZ3 := Lib.hid (HZ2.out.grown hg3)
          obtain ⟨v2, d2⟩ := HZ3.out.tab.old (show k * 10 + 2 < n * 10 by omega)
          obtain ⟨v3, d3⟩ := HZ3.out.tab.old (show k * 10 + 3 < n * 10 by omega)
          have z2 := HZ3.out.tab.frozen (k * 10 + 2); have z3 := HZ3.out.tab.frozen (k * 10 + 3)
          have HZ4 := Lib.hid ((HZ3.out.set hgw hlt (j := 2) (by omega) (.int .u32 0) ⟨⟨#[]⟩, 0, 4294967295, 0, 0, 0⟩ rfl).set hgw hlt (j := 3) (by omega) (.int .u32 (lv : Int)) ⟨⟨#[]⟩, 0, lv, 0, 0, 0⟩ rfl)
          have HL := Lib.hid hl
          clear hg3 HZ2 HZ3 hl
          go_wp2_with fail
          go_meet
          simp only [if_true]
          rw [HL.out]
          exact HZ4.out
      case rest =>
      obtain ⟨W3, rfl⟩ : ∃ W : World, W = wc := ⟨_, rfl⟩
      have HZ5 := Lib.hid hcut
      obtain ⟨la, hla⟩ : ∃ x : Int, x = if lb = true then 0 else 4294967295 := ⟨_, rfl⟩
      obtain ⟨lw, hlw⟩ : ∃ x : Int, x = if lb = true then ls.getD k 0 else 4294967295 := ⟨_, rfl⟩
      rw [← hla, ← hlw] at HZ5
      have HLA := Lib.hid hla; have HLW := Lib.hid hlw
      clear hcut HZ2 HLV hla hlw
      obtain ⟨bk, ok, rfl, hbk, hck⟩ := reads_any H1.out (show 0 < n by omega)
      obtain ⟨kv, hkv⟩ : ∃ x, ks[k]? = some x := ⟨_, List.getElem?_eq_getElem (by have := L1.out; omega)⟩
      have ck : W3.cell? ⟨bk, ok + k, none⟩ = some (.int .u8 kv) := (HZ5.out.bel.cell (p := ⟨bk, ok + k, none⟩) hbk).trans (hck k kv hkv)
      have GK : Hid (ks.getD k 0 = kv) := Lib.hid (by rw [List.getD_eq_getElem?_getD, hkv]; rfl)
      obtain ⟨kv0, kv1⟩ := RK.out kv (List.mem_of_getElem? hkv)
      have HBY := Lib.hid (byte_any A2 n2 c2 fs k W3 ((H2.out.below HZ5.out.bel).more HZ5.out.bel.size) (by omega))
      clear hck hkv
      obtain ⟨fv, hfv⟩ : ∃ x, x = fs.getD k 0 := ⟨_, rfl⟩
      rw [← hfv] at HBY
      have HFV := Lib.hid hfv
      clear hfv
      go_upto_if 61 with (go_at_call 15; refine HBY.out.mono ?_; rintro e w' ⟨rfl, rfl⟩)
      go_cut [] (fun wx => ZSt w wx g n k (fun m => if m < k then symB true n4 ks fs ds sc ls m else SymR.zero) ⟨⟨#[]⟩, la, lw, 0, 0, kdA true kv⟩)
      case first =>
        obtain ⟨v8, d8⟩ := HZ5.out.tab.old (show k * 10 + 8 < n * 10 by omega)
        have z8 := HZ5.out.tab.frozen (k * 10 + 8)
        rcases (by omega : kv % 3 = 0 ∨ kv % 3 = 1 ∨ kv % 3 = 2) with hq | hq | hq
        · have HK : Hid (kdA true kv = 27) := Lib.hid (by unfold kdA; rw [if_pos rfl, hq]; rfl)
          have t0 : ((kv % 3) == 0) = true := by rw [hq]; rfl
          have t1 : ((kv % 3) == 1) = false := by rw [hq]; rfl
          have HZ6 := Lib.hid (HZ5.out.set hgw hlt (j := 8) (by omega) (.int .u8 27) ⟨⟨#[]⟩, la, lw, 0, 0, 27⟩ rfl)
          clear hq
          go_wp2_with fail
          go_meet
          rw [HK.out]
          exact HZ6.out
        · have HK : Hid (kdA true kv = 18) := Lib.hid (by unfold kdA; rw [if_pos rfl, hq]; rfl)
          have t0 : ((kv % 3) == 0) = false := by rw [hq]; rfl
          have t1 : ((kv % 3) == 1) = true := by rw [hq]; rfl
          have HZ6 := Lib.hid (HZ5.out.set hgw hlt (j := 8) (by omega) (.int .u8 18) ⟨⟨#[]⟩, la, lw, 0, 0, 18⟩ rfl)
          clear hq
          go_wp2_with fail
          go_meet
          rw [HK.out]
          exact HZ6.out
        · have HK : Hid (kdA true kv = 0) := Lib.hid (by unfold kdA; rw [if_pos rfl, hq]; rfl)
          have t0 : ((kv % 3) == 0) = false := by rw [hq]; rfl
          have t1 : ((kv % 3) == 1) = false := by rw [hq]; rfl
          have HZ6 := Lib.hid (HZ5.out.set hgw hlt (j := 8) (by omega) (.int .u8 0) ⟨⟨#[]⟩, la, lw, 0, 0, 0⟩ rfl)
          clear hq
          go_wp2_with fail
          go_meet
          rw [HK.out]
          exact HZ6.out
      case rest =>
      obtain ⟨W4, rfl⟩ : ∃ W : World, W = wc := ⟨_, rfl⟩
      have HZ6 := Lib.hid hcut
      clear hcut HZ5 ck HBY
      obtain ⟨kd, hkd⟩ : ∃ x, x = kdA true kv := ⟨_, rfl⟩
      rw [← hkd] at HZ6
      have HKD := Lib.hid hkd
      clear hkd
      obtain ⟨q1, hq1⟩ : ∃ x, x = bits .and .u8 fv 1 := ⟨_, rfl⟩
      have HQ1 := Lib.hid hq1
      have hq1' := hq1.symm
      clear hq1
      go_upto_if 76 with fail
      clear hq1'
      go_cut [] (fun wx => ZSt w wx g n k (fun m => if m < k then symB true n4 ks fs ds sc ls m else SymR.zero) ⟨⟨#[]⟩, la, lw, 0, if ¬ q1 = 0 then 1 else 0, kd⟩)
      case first =>
        by_cases h0 : q1 = 0
        · have t0 : (q1 != 0) = false := by rw [h0]; rfl
          have HH := Lib.hid h0
          clear h0
          go_wp2_with fail
          go_meet
          rw [if_neg (fun h => h HH.out)]
          exact HZ6.out
        · have t0 : (q1 != 0) = true := by rw [bne_iff_ne]; exact h0
          have d7 : W4.cell? ⟨g, k * 10 + 7, none⟩ = some (.int .u16 0) := by
            have := HZ6.out.tab.flags hlt
            rwa [upd_at] at this
          have z7 := HZ6.out.tab.frozen (k * 10 + 7)
          have h01 := or01
          have HZ7 := Lib.hid (HZ6.out.set hgw hlt (j := 7) (by omega) (.int .u16 1) ⟨⟨#[]⟩, la, lw, 0, 1, kd⟩ rfl)
          have HH := Lib.hid h0
          clear h0
          go_wp2_with fail
          go_meet
          rw [if_pos HH.out]
          exact HZ7.out
      case rest =>
      obtain ⟨W5, rfl⟩ : ∃ W : World, W = wc := ⟨_, rfl⟩
      have HZ7 := Lib.hid hcut
      obtain ⟨f1, hf1⟩ : ∃ x : Int, x = if ¬ q1 = 0 then 1 else 0 := ⟨_, rfl⟩
      rw [← hf1] at HZ7
      have HF1 := Lib.hid hf1
      have hf01 : f1 = 0 ∨ f1 = 1 := by rw [hf1]; split <;> simp
      clear hcut HZ6 hf1
      obtain ⟨q2, hq2⟩ : ∃ x, x = bits .and .u8 fv 2 := ⟨_, rfl⟩
      have HQ2 := Lib.hid hq2
      have hq2' := hq2.symm
      clear hq2
      go_upto_if 95 with fail
      clear hq2'
      go_cut [] (fun wx => ZSt w wx g n k (fun m => if m < k then symB true n4 ks fs ds sc ls m else SymR.zero) ⟨⟨#[]⟩, la, lw, 0, f1 + (if ¬ q2 = 0 then 2 else 0), kd⟩)
      case first =>
        by_cases h0 : q2 = 0
        · have t0 : (q2 != 0) = false := by rw [h0]; rfl
          have HH := Lib.hid h0
          clear h0 hf01
          go_wp2_with fail
          go_meet
          rw [if_neg (fun h => h HH.out), Int.add_zero]
          exact HZ7.out
        · have t0 : (q2 != 0) = true := by rw [bne_iff_ne]; exact h0
          have d7 : W5.cell? ⟨g, k * 10 + 7, none⟩ = some (.int .u16 f1) := by
            have := HZ7.out.tab.flags hlt
            rwa [upd_at] at this
          have z7 := HZ7.out.tab.frozen (k * 10 + 7)
          have h02 : bits .or .u16 f1 2 = f1 + 2 := by rcases hf01 with rfl | rfl; exact or02; exact or12
          have HZ8 := Lib.hid (HZ7.out.set hgw hlt (j := 7) (by omega) (.int .u16 (f1 + 2)) ⟨⟨#[]⟩, la, lw, 0, f1 + 2, kd⟩ rfl)
          have HH := Lib.hid h0
          clear h0 hf01
          go_wp2_with fail
          go_meet
          rw [if_pos HH.out]
          exact HZ8.out
      case rest =>
      obtain ⟨W6, rfl⟩ : ∃ W : World, W = wc := ⟨_, rfl⟩
      have HZ8 := Lib.hid hcut
      obtain ⟨fl, hfl⟩ : ∃ x : Int, x = f1 + (if ¬ q2 = 0 then 2 else 0) := ⟨_, rfl⟩
      rw [← hfl] at HZ8
      have HFL := Lib.hid hfl
      clear hcut HZ7 hfl hf01
      go_wp2_with (go_at_call 16; refine (nest_ex A3 n3 c3 ds sc k _ ((H3.out.below HZ8.out.bel).more HZ8.out.bel.size) (by omega) hsc (getD_rg RD.out (by omega) k)).mono ?_)
      rintro e w7 ⟨sv, rfl, hsv, hsv2, rfl⟩
      have HSV := Lib.hid hsv
      obtain ⟨nb, hnb⟩ : ∃ nb, nb = nsd ds sc k := ⟨_, rfl⟩
      rw [← hnb]
      rw [← hnb] at HSV
      have HNB := Lib.hid hnb
      clear hsv hnb
      have HSYM : Hid (symB true n4 ks fs ds sc ls k = ⟨⟨#[]⟩, la, lw, if nb = true then 4294967295 - (ds.getD k 0 - 1) % sc else 0, fl, kd⟩) := Lib.hid (by
        unfold symB flA
        rw [← HLB.out, ← HNB.out, ← HFV.out, GK.out, HLA.out, HLW.out, HFL.out, HQ2.out, HKD.out, HF1.out, HQ1.out]
        congr 1
        simp)
      cases nb
      · have HNX := Lib.hid (HZ8.out.tab.ext (fun m hm => upd_next (n := n) (by have := HSYM.out; simp only [Bool.false_eq_true, if_false] at this; exact this) m hm))
        go_wp2_with fail
        go_roundw
        case rel => exact ⟨k + 1, by go_num, by omega, HNX.out, HZ8.out.bel, HZ8.out.res⟩
        case measure => simp [intOf]; omega
      · have hs := HSV.out rfl
        go_wp2_with (go_at_call 17; refine (mki_any (sv : Int) (by omega) (by omega) _).mono ?_)
        rintro e w8 ⟨rfl, hg8⟩
        have HZ9 := Lib.hid (HZ8.out.grown hg8)
        obtain ⟨v6, d6⟩ := HZ9.out.tab.old (show k * 10 + 6 < n * 10 by omega)
        have z6 := HZ9.out.tab.frozen (k * 10 + 6)
        have HZA := Lib.hid (HZ9.out.set hgw hlt (j := 6) (by omega) (.int .u32 (4294967295 - (sv : Int))) ⟨⟨#[]⟩, la, lw, 4294967295 - (sv : Int), fl, kd⟩ rfl)
        have HNX := Lib.hid (HZA.out.tab.ext (fun m hm => upd_next (n := n) (by have := HSYM.out; simp only [if_true] at this; rw [hs] at this; exact this) m hm))
        clear hs hg8 HZ8 HZ9
        go_wp2_with fail
        go_roundw
        case rel => exact ⟨k + 1, by go_num, by omega, HNX.out, HZA.out.bel, HZA.out.res⟩
        case measure => simp [intOf]; omega
    · obtain rfl : k = n := by omega
      have htab := HTAB.out; have hres := HRES.out; have hbel := HBEL.out
      have r0 : wr.cell? ⟨w.heap.size, 0, none⟩ = some (.slice none 0 0) := hres.cell 0
      have r1 : wr.frozen? ⟨w.heap.size, 0, none⟩ = false := hres.frozen 0
      have rl := hres.lt
      have gl := htab.lt
      have HFB := Lib.hid (((hres.set_ 0 (.slice (some ⟨wr.heap.size, 0, none⟩) 1 1)).alloc (.cells #[.slice (some ⟨g, 0, none⟩) k k] 51)))
      have HFO : Hid (Out1 ((wr.setCell ⟨w.heap.size, 0, none⟩ (.slice (some ⟨wr.heap.size, 0, none⟩) 1 1)).alloc (.cells #[.slice (some ⟨g, 0, none⟩) k k] 51)) wr.heap.size g k) := Lib.hid (by
        have := Blk.new (wr.setCell ⟨w.heap.size, 0, none⟩ (.slice (some ⟨wr.heap.size, 0, none⟩) 1 1)) 51 #[.slice (some ⟨g, 0, none⟩) k k]
        rwa [size_setCell] at this)
      have HFT := Lib.hid (((htab.ext (S' := symB true n4 ks fs ds sc ls) (fun m hm => by rw [if_pos hm])).far (p := ⟨w.heap.size, 0, none⟩) (by show g ≠ w.heap.size; omega) (.slice (some ⟨wr.heap.size, 0, none⟩) 1 1)).alloc (.cells #[.slice (some ⟨g, 0, none⟩) k k] 51))
      have HFW := Lib.hid ((hbel.setCell (p := ⟨w.heap.size, 0, none⟩) (Nat.le_refl _) (.slice (some ⟨wr.heap.size, 0, none⟩) 1 1)).alloc (by rw [size_setCell]; exact hbel.size) (.cells #[.slice (some ⟨g, 0, none⟩) k k] 51))
      clear htab hres hbel HTAB HRES HBEL
      go_wp2_with fail
      refine bodyPost_ret (results_cell_row rfl _ _ w.heap.size _ #[.slice (some ⟨wr.heap.size, 0, none⟩) 1 1] (0, 0) _ rfl HFB.out Try.underlying30 rfl sm_size) rfl ?_
      exact ⟨wr.heap.size, g, rfl, by omega, by omega, by omega, HFO.out, HFT.out, HFW.out⟩
set_option maxHeartbeats 16000000 in
set_option maxRecDepth 100000 in
theorem build_false (A1 : Option Addr) (n c1 : Nat) (ks : List Int) (A2 : Option Addr) (n2 c2 : Nat) (fs : List Int) (A3 : Option Addr) (n3 c3 : Nat) (ds : List Int) (sc : Int) (A4 : Option Addr) (n4 c4 : Nat) (ls : List Int) (w : World)
    (h1 : Reads w w.heap.size 1 A1 n (ks.map (Value.int .u8))) (h2 : Reads w w.heap.size 1 A2 n2 (fs.map (Value.int .u8))) (h3 : Reads w w.heap.size 1 A3 n3 (ds.map (Value.int .u32))) (h4 : Reads w w.heap.size 1 A4 n4 (ls.map (Value.int .u32)))
    (b1 : n ≤ 65536) (b2 : n2 ≤ 65536) (b3 : n3 ≤ 65536) (b4 : n4 ≤ 65536) (hsc : 0 ≤ sc ∧ sc ≤ 4294967295) (rk : ∀ x ∈ ks, 0 ≤ x ∧ x ≤ 255) (rd : ∀ x ∈ ds, 0 ≤ x ∧ x ≤ 4294967295) (rl : ∀ x ∈ ls, 0 ≤ x ∧ x ≤ 4294967295) :
    Calls Try.prog 6 #[.slice A1 n c1, .slice A2 n2 c2, .slice A3 n3 c3, .int .u32 sc, .slice A4 n4 c4, .bool false] w (BldPost w n (symB false n4 ks fs ds sc ls)) := by
  obtain ⟨i0, hi, hz0, hz1, hz2⟩ := info_parts sym_info
  have hmk : ∀ W : World, (Instr.makeSlice 51 (.int .i64 (n : Int)) (.int .i64 (n : Int))).run Try.prog W = .ok (.slice (some ⟨W.heap.size, 0, none⟩) n n) (W.alloc (.cells (mkSy n) 61)) := fun W => by
    have hr := run_make (P := Try.prog) W 51 61 i0 zSym Try.underlying51 hi hz0 .i64 .i64 n n (by omega) (by omega) (by rw [hz2]; omega) (by omega)
    simp only [Int.toNat_natCast, hz1] at hr
    exact hr
  have l1 : ks.length = n := by have := h1.1; simpa using this
  have H1 := Lib.hid h1; have H2 := Lib.hid h2; have H3 := Lib.hid h3; have H4 := Lib.hid h4; have L1 := Lib.hid l1
  have RK := Lib.hid rk; have RD := Lib.hid rd; have RL := Lib.hid rl
  obtain ⟨W0, hW0⟩ : ∃ W0, W0 = (w.alloc (.cells #[.slice none 0 0] 30)).alloc (.cells (mkSy n) 61) := ⟨_, rfl⟩
  obtain ⟨g, hg⟩ : ∃ g, g = w.heap.size + 1 := ⟨_, rfl⟩
  have HT0 : Hid (Tbl W0 g n (fun m => if m < 0 then symB false n4 ks fs ds sc ls m else SymR.zero)) := Lib.hid (by
    rw [hW0, hg]
    have := mkSy_tbl (w.alloc (.cells #[.slice none 0 0] 30)) n
    simpa using this)
  have HR0 : Hid (Blk W0 w.heap.size 30 #[.slice none 0 0]) := Lib.hid (by rw [hW0]; exact (Blk.new w _ _).alloc _)
  have HB0 : Hid (Below w.heap.size w W0) := Lib.hid (by rw [hW0]; exact ((Below.refl _ _).alloc (Nat.le_refl _) _).alloc (by simp) _)
  have hgw : w.heap.size < g := by omega
  have HW0 := Lib.hid hW0; have HG := Lib.hid hg
  clear h1 h2 h3 h4 l1 rk rd rl hW0 hg
  go_enter Try.func6, Try.ntmps6
  go_upto_region 3 with fail
  rw [← HW0.out, ← HG.out]
  clear HW0 HG hmk
  go_wp2_with fail
  go_loopw [15, 16, 17, 18, 19, 20, 21, 22] (fun t s1 s2 s3 s4 s5 s6 s7 wr => ∃ k : Nat, t = .int .i64 k ∧ k ≤ n ∧ Tbl wr g n (fun m => if m < k then symB false n4 ks fs ds sc ls m else SymR.zero) ∧ Below w.heap.size w wr ∧ Blk wr w.heap.size 30 #[.slice none 0 0]) (fun t s1 s2 s3 s4 s5 s6 s7 _ => n - (intOf t).toNat)
  case atStart => exact ⟨0, rfl, by omega, HT0.out, HB0.out, HR0.out⟩
  case round =>
    obtain ⟨k, rfl, hk, htab, hbel, hres⟩ := hrel
    have HTAB := Lib.hid htab; have HBEL := Lib.hid hbel; have HRES := Lib.hid hres
    clear htab hbel hres
    by_cases hlt : k < n
    · have Z0 : ZSt w wr g n k (fun m => if m < k then symB false n4 ks fs ds sc ls m else SymR.zero) SymR.zero := ⟨HTAB.out.ext (fun m hm => by
        unfold upd
        by_cases e : m = k
        · subst e; rw [if_pos rfl, if_neg (by omega)]
        · rw [if_neg e]), HBEL.out, HRES.out⟩
      have HZ0 := Lib.hid Z0
      clear Z0
      go_wp2_with (go_at_call 13; refine (inval_any _).mono ?_)
      rintro e w1 ⟨rfl, hg1⟩
      have HZ1 := Lib.hid (HZ0.out.grown hg1)
      clear hg1 HZ0
      obtain ⟨v2, d2⟩ := HZ1.out.tab.old (show k * 10 + 2 < n * 10 by omega)
      obtain ⟨v3, d3⟩ := HZ1.out.tab.old (show k * 10 + 3 < n * 10 by omega)
      have z2 := HZ1.out.tab.frozen (k * 10 + 2); have z3 := HZ1.out.tab.frozen (k * 10 + 3)
      have HZ2 := Lib.hid ((HZ1.out.set hgw hlt (j := 2) (by omega) (.int .u32 4294967295) ⟨⟨#[]⟩, 4294967295, 0, 0, 0, 0⟩ rfl).set hgw hlt (j := 3) (by omega) (.int .u32 4294967295) ⟨⟨#[]⟩, 4294967295, 4294967295, 0, 0, 0⟩ rfl)
      have HR4 := Lib.hid ((H4.out.below HZ2.out.bel).more HZ2.out.bel.size)
      clear HZ1
      go_wp2_with (go_at_call 14; refine (link_ex A4 n4 c4 ls k _ HR4.out b4 (by omega) RL.out).mono ?_)
      rintro e w2 ⟨lv, rfl, hlv, hlv2, rfl⟩
      have HLV := Lib.hid hlv
      clear hlv d2 d3 z2 z3
      obtain ⟨W2, hW2⟩ : ∃ W2, W2 = (w1.setCell ⟨g, k * 10 + 2, none⟩ (.int .u32 4294967295)).setCell ⟨g, k * 10 + 3, none⟩ (.int .u32 4294967295) := ⟨_, rfl⟩
      rw [← hW2]
      rw [← hW2] at HZ2
      clear hW2 HR4
      obtain ⟨lb, hlb⟩ : ∃ lb, lb = lkd ls n4 k := ⟨_, rfl⟩
      rw [← hlb]
      rw [← hlb] at HLV
      have HLB := Lib.hid hlb
      clear hlb
      go_upto_if 45 with fail
      go_cut [] (fun wx => ZSt w wx g n k (fun m => if m < k then symB false n4 ks fs ds sc ls m else SymR.zero) ⟨⟨#[]⟩, if lb = true then 0 else 4294967295, if lb = true then ls.getD k 0 else 4294967295, 0, 0, 0⟩)
      case first =>
        cases lb
        · go_wp2_with fail
          go_meet
          exact HZ2.out
        · have hl := HLV.out rfl
          go_wp2_with (go_at_call 12; refine (ref_any lv (by omega) _).mono ?_)
          rintro e w3 ⟨rfl, hg3⟩
          have HZ3 := Lib.hid (HZ2.out.grown hg3)
          obtain ⟨v2, d2⟩ := HZ3.out.tab.old (show k * 10 + 2 < n * 10 by omega)
          obtain ⟨v3, d3⟩ := HZ3.out.tab.old (show k * 10 + 3 < n * 10 by omega)
          have z2 := HZ3.out.tab.frozen (k * 10 + 2); have z3 := HZ3.out.tab.frozen (k * 10 + 3)
          have HZ4 := Lib.hid ((HZ3.out.set hgw hlt (j := 2) (by omega) (.int .u32 0) ⟨⟨#[]⟩, 0, 4294967295, 0, 0, 0⟩ rfl).set hgw hlt (j := 3) (by omega) (.int .u32 (lv : Int)) ⟨⟨#[]⟩, 0, lv, 0, 0, 0⟩ rfl)
          have HL := Lib.hid hl
          clear hg3 HZ2 HZ3 hl
          go_wp2_with fail
          go_meet
          simp only [if_true]
          rw [HL.out]
          exact HZ4.out
      case rest =>
      obtain ⟨W3, rfl⟩ : ∃ W : World, W = wc := ⟨_, rfl⟩
      have HZ5 := Lib.hid hcut
      obtain ⟨la, hla⟩ : ∃ x : Int, x = if lb = true then 0 else 4294967295 := ⟨_, rfl⟩
      obtain ⟨lw, hlw⟩ : ∃ x : Int, x = if lb = true then ls.getD k 0 else 4294967295 := ⟨_, rfl⟩
      rw [← hla, ← hlw] at HZ5
      have HLA := Lib.hid hla; have HLW := Lib.hid hlw
      clear hcut HZ2 HLV hla hlw
      obtain ⟨bk, ok, rfl, hbk, hck⟩ := reads_any H1.out (show 0 < n by omega)
      obtain ⟨kv, hkv⟩ : ∃ x, ks[k]? = some x := ⟨_, List.getElem?_eq_getElem (by have := L1.out; omega)⟩
      have ck : W3.cell? ⟨bk, ok + k, none⟩ = some (.int .u8 kv) := (HZ5.out.bel.cell (p := ⟨bk, ok + k, none⟩) hbk).trans (hck k kv hkv)
      have GK : Hid (ks.getD k 0 = kv) := Lib.hid (by rw [List.getD_eq_getElem?_getD, hkv]; rfl)
      obtain ⟨kv0, kv1⟩ := RK.out kv (List.mem_of_getElem? hkv)
      have HBY := Lib.hid (byte_any A2 n2 c2 fs k W3 ((H2.out.below HZ5.out.bel).more HZ5.out.bel.size) (by omega))
      clear hck hkv
      obtain ⟨fv, hfv⟩ : ∃ x, x = fs.getD k 0 := ⟨_, rfl⟩
      rw [← hfv] at HBY
      have HFV := Lib.hid hfv
      clear hfv
      go_upto_if 86 with (go_at_call 15; refine HBY.out.mono ?_; rintro e w' ⟨rfl, rfl⟩)
      go_cut [] (fun wx => ZSt w wx g n k (fun m => if m < k then symB false n4 ks fs ds sc ls m else SymR.zero) ⟨⟨#[]⟩, la, lw, 0, 0, kdA false kv⟩)
      case first =>
        obtain ⟨v8, d8⟩ := HZ5.out.tab.old (show k * 10 + 8 < n * 10 by omega)
        have z8 := HZ5.out.tab.frozen (k * 10 + 8)
        rcases (by omega : kv % 2 = 1 ∨ kv % 2 = 0) with hq | hq
        · have HK : Hid (kdA false kv = 18) := Lib.hid (by unfold kdA; rw [if_neg (by decide), hq]; rfl)
          have t1 : ((kv % 2) == 1) = true := by rw [hq]; rfl
          have HZ6 := Lib.hid (HZ5.out.set hgw hlt (j := 8) (by omega) (.int .u8 18) ⟨⟨#[]⟩, la, lw, 0, 0, 18⟩ rfl)
          clear hq
          go_wp2_with fail
          go_meet
          rw [HK.out]
          exact HZ6.out
        · have HK : Hid (kdA false kv = 27) := Lib.hid (by unfold kdA; rw [if_neg (by decide), hq]; rfl)
          have t1 : ((kv % 2) == 1) = false := by rw [hq]; rfl
          have HZ6 := Lib.hid (HZ5.out.set hgw hlt (j := 8) (by omega) (.int .u8 27) ⟨⟨#[]⟩, la, lw, 0, 0, 27⟩ rfl)
          clear hq
          go_wp2_with fail
          go_meet
          rw [HK.out]
          exact HZ6.out
      case rest =>
      obtain ⟨W5, rfl⟩ : ∃ W : World, W = wc := ⟨_, rfl⟩
      have HZ7 := Lib.hid hcut
      clear hcut HZ5 ck HBY
      obtain ⟨kd, hkd⟩ : ∃ x, x = kdA false kv := ⟨_, rfl⟩
      rw [← hkd] at HZ7
      have HKD := Lib.hid hkd
      clear hkd
      obtain ⟨f1, hf1⟩ : ∃ x : Int, x = 0 := ⟨_, rfl⟩
      replace HZ7 : Hid (ZSt w W5 g n k (fun m => if m < k then symB false n4 ks fs ds sc ls m else SymR.zero) ⟨⟨#[]⟩, la, lw, 0, f1, kd⟩) := Lib.hid (by rw [hf1]; exact HZ7.out)
      have HF1 := Lib.hid hf1
      have hf01 : f1 = 0 ∨ f1 = 1 := .inl hf1
      clear hf1
      obtain ⟨q2, hq2⟩ : ∃ x, x = bits .and .u8 fv 2 := ⟨_, rfl⟩
      have HQ2 := Lib.hid hq2
      have hq2' := hq2.symm
      clear hq2
      go_upto_if 95 with fail
      clear hq2'
      go_cut [] (fun wx => ZSt w wx g n k (fun m => if m < k then symB false n4 ks fs ds sc ls m else SymR.zero) ⟨⟨#[]⟩, la, lw, 0, f1 + (if ¬ q2 = 0 then 2 else 0), kd⟩)
      case first =>
        by_cases h0 : q2 = 0
        · have t0 : (q2 != 0) = false := by rw [h0]; rfl
          have HH := Lib.hid h0
          clear h0 hf01
          go_wp2_with fail
          go_meet
          rw [if_neg (fun h => h HH.out), Int.add_zero]
          exact HZ7.out
        · have t0 : (q2 != 0) = true := by rw [bne_iff_ne]; exact h0
          have d7 : W5.cell? ⟨g, k * 10 + 7, none⟩ = some (.int .u16 f1) := by
            have := HZ7.out.tab.flags hlt
            rwa [upd_at] at this
          have z7 := HZ7.out.tab.frozen (k * 10 + 7)
          have h02 : bits .or .u16 f1 2 = f1 + 2 := by rcases hf01 with rfl | rfl; exact or02; exact or12
          have HZ8 := Lib.hid (HZ7.out.set hgw hlt (j := 7) (by omega) (.int .u16 (f1 + 2)) ⟨⟨#[]⟩, la, lw, 0, f1 + 2, kd⟩ rfl)
          have HH := Lib.hid h0
          clear h0 hf01
          go_wp2_with fail
          go_meet
          rw [if_pos HH.out]
          exact HZ8.out
      case rest =>
      obtain ⟨W6, rfl⟩ : ∃ W : World, W = wc := ⟨_, rfl⟩
      have HZ8 := Lib.hid hcut
      obtain ⟨fl, hfl⟩ : ∃ x : Int, x = f1 + (if ¬ q2 = 0 then 2 else 0) := ⟨_, rfl⟩
      rw [← hfl] at HZ8
      have HFL := Lib.hid hfl
      clear hcut HZ7 hfl hf01
      go_wp2_with (go_at_call 16; refine (nest_ex A3 n3 c3 ds sc k _ ((H3.out.below HZ8.out.bel).more HZ8.out.bel.size) (by omega) hsc (getD_rg RD.out (by omega) k)).mono ?_)
      rintro e w7 ⟨sv, rfl, hsv, hsv2, rfl⟩
      have HSV := Lib.hid hsv
      obtain ⟨nb, hnb⟩ : ∃ nb, nb = nsd ds sc k := ⟨_, rfl⟩
      rw [← hnb]
      rw [← hnb] at HSV
      have HNB := Lib.hid hnb
      clear hsv hnb
      have HSYM : Hid (symB false n4 ks fs ds sc ls k = ⟨⟨#[]⟩, la, lw, if nb = true then 4294967295 - (ds.getD k 0 - 1) % sc else 0, fl, kd⟩) := Lib.hid (by
        unfold symB flA
        rw [← HLB.out, ← HNB.out, ← HFV.out, GK.out, HLA.out, HLW.out, HFL.out, HQ2.out, HKD.out, HF1.out]
        congr 1
        try simp)
      cases nb
      · have HNX := Lib.hid (HZ8.out.tab.ext (fun m hm => upd_next (n := n) (by have := HSYM.out; simp only [Bool.false_eq_true, if_false] at this; exact this) m hm))
        go_wp2_with fail
        go_roundw
        case rel => exact ⟨k + 1, by go_num, by omega, HNX.out, HZ8.out.bel, HZ8.out.res⟩
        case measure => simp [intOf]; omega
      · have hs := HSV.out rfl
        go_wp2_with (go_at_call 17; refine (mki_any (sv : Int) (by omega) (by omega) _).mono ?_)
        rintro e w8 ⟨rfl, hg8⟩
        have HZ9 := Lib.hid (HZ8.out.grown hg8)
        obtain ⟨v6, d6⟩ := HZ9.out.tab.old (show k * 10 + 6 < n * 10 by omega)
        have z6 := HZ9.out.tab.frozen (k * 10 + 6)
        have HZA := Lib.hid (HZ9.out.set hgw hlt (j := 6) (by omega) (.int .u32 (4294967295 - (sv : Int))) ⟨⟨#[]⟩, la, lw, 4294967295 - (sv : Int), fl, kd⟩ rfl)
        have HNX := Lib.hid (HZA.out.tab.ext (fun m hm => upd_next (n := n) (by have := HSYM.out; simp only [if_true] at this; rw [hs] at this; exact this) m hm))
        clear hs hg8 HZ8 HZ9
        go_wp2_with fail
        go_roundw
        case rel => exact ⟨k + 1, by go_num, by omega, HNX.out, HZA.out.bel, HZA.out.res⟩
        case measure => simp [intOf]; omega
    · obtain rfl : k = n := by omega
      have htab := HTAB.out; have hres := HRES.out; have hbel := HBEL.out
      have r0 : wr.cell? ⟨w.heap.size, 0, none⟩ = some (.slice none 0 0) := hres.cell 0
      have r1 : wr.frozen? ⟨w.heap.size, 0, none⟩ = false := hres.frozen 0
      have rl := hres.lt
      have gl := htab.lt
      have HFB := Lib.hid (((hres.set_ 0 (.slice (some ⟨wr.heap.size, 0, none⟩) 1 1)).alloc (.cells #[.slice (some ⟨g, 0, none⟩) k k] 51)))
      have HFO : Hid (Out1 ((wr.setCell ⟨w.heap.size, 0, none⟩ (.slice (some ⟨wr.heap.size, 0, none⟩) 1 1)).alloc (.cells #[.slice (some ⟨g, 0, none⟩) k k] 51)) wr.heap.size g k) := Lib.hid (by
        have := Blk.new (wr.setCell ⟨w.heap.size, 0, none⟩ (.slice (some ⟨wr.heap.size, 0, none⟩) 1 1)) 51 #[.slice (some ⟨g, 0, none⟩) k k]
        rwa [size_setCell] at this)
      have HFT := Lib.hid (((htab.ext (S' := symB false n4 ks fs ds sc ls) (fun m hm => by rw [if_pos hm])).far (p := ⟨w.heap.size, 0, none⟩) (by show g ≠ w.heap.size; omega) (.slice (some ⟨wr.heap.size, 0, none⟩) 1 1)).alloc (.cells #[.slice (some ⟨g, 0, none⟩) k k] 51))
      have HFW := Lib.hid ((hbel.setCell (p := ⟨w.heap.size, 0, none⟩) (Nat.le_refl _) (.slice (some ⟨wr.heap.size, 0, none⟩) 1 1)).alloc (by rw [size_setCell]; exact hbel.size) (.cells #[.slice (some ⟨g, 0, none⟩) k k] 51))
      clear htab hres hbel HTAB HRES HBEL
      go_wp2_with fail
      refine bodyPost_ret (results_cell_row rfl _ _ w.heap.size _ #[.slice (some ⟨wr.heap.size, 0, none⟩) 1 1] (0, 0) _ rfl HFB.out Try.underlying30 rfl sm_size) rfl ?_
      exact ⟨wr.heap.size, g, rfl, by omega, by omega, by omega, HFO.out, HFT.out, HFW.out⟩
end Go.Proofs.Ytdmllmipcfkaaaa
