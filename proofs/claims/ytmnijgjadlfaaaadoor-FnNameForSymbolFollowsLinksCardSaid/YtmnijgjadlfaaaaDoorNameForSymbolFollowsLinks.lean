/-
  PROVED: a fresh renamer's NameForSymbol answers the original name of the root at the end of the symbol's link chain.
-/
import Derived.Test.YtmnijgjadlfaaaaDoorRows
import Derived.Test.YtmnijgjadlfaaaaDoorCards
import Derived.Test.YtmnijgjadlfaaaaDoorTie
import Derived.WalkKit
import Derived.ProofKit
import Derived.Outline
import Derived.LoopTactic
import Derived.WalkSpells
import Derived.Deep.RegionWith
import Derived.Deep.DeepCutAuto
import Derived.Deep.Light
import Derived.Test.YtmnijgjadlfaaaaDoorCll
import Derived.Test.YtmnijgjadlfaaaaDoorLnk
import Derived.Test.YtmnijgjadlfaaaaDoorInv
import Derived.OpenShut
import Derived.ShutString
import Derived.ChangeOld
import Derived.Below
import Derived.Carry
import Derived.SliceStrings
import Derived.OpenVars
import Derived.Handy
import Derived.Lay
import Derived.SevenTiedAt
namespace Go.Proofs.YtmnijgjadlfaaaaDoor.fnNameForSymbolFollowsLinks
open Go.ChangeShapes Go.WideShapes Go.ChangeAt Go.RowKit
open Go.ChangeMaps (open_string shut_string)
set_option linter.unusedVariables false
set_option linter.unusedSimpArgs false

theorem own : ownKnob Tryd.prog.godebug = none := by kernel_rfl
theorem laidOut : laidOutB Tryd.pinned.checked.prog = true := by kernel_rfl

/-- What the walk is told of a slice of integers that came in. -/
def IsRow (k : IntKind) (w : World) (a : Option Addr) (len cap : Nat) (zs : List Int) : Prop :=
  (a = none ∧ len = 0 ∧ cap = 0 ∧ zs = []) ∨
  ∃ x, a = some x ∧ len ≤ cap ∧ cap ≤ maxLen ∧ zs.length = cap ∧ (∀ i, i < zs.length → w.cell? (x.add i) = some (.int k (zs.getD i 0))) ∧ ∀ n ∈ zs, (Lit.int k n).wf = true
theorem isrow_reads {k : IntKind} {w : World} {a : Option Addr} {len cap : Nat} {zs : List Int} (h : IsRow k w a len cap zs) : Reads w w.heap.size 1 a len ((zs.take len).map (Value.int k)) ∧ (a = none → len = 0) ∧ len ≤ maxLen := by
  rcases h with ⟨rfl, rfl, rfl, rfl⟩ | ⟨x, rfl, hl, hm, hz, hc, _⟩
  · exact ⟨Reads.none_, fun _ => rfl, by unfold maxLen; omega⟩
  · refine ⟨⟨by simp; omega, fun hn => ⟨x, rfl, ?_, fun j u hu => ?_⟩⟩, (fun h => by cases h), by omega⟩
    · have := hc 0 (by omega)
      exact World.block_lt_of_cell? w x (by simpa [Addr.add] using this)
    · have hj : j < len := by
        have := (List.getElem?_eq_some_iff.1 hu).1
        simp at this; omega
      rw [hc j (by omega)]
      rw [List.getElem?_map, List.getElem?_take_of_lt hj, List.getElem?_eq_getElem (by omega)] at hu
      rw [List.getD_eq_getElem?_getD, List.getElem?_eq_getElem (by omega)]
      exact hu

/-- What the walk is told of a slice of strings that came in. -/
def IsStrs (w : World) (a : Option Addr) (len cap : Nat) (ss : List ByteArray) : Prop :=
  (a = none ∧ len = 0 ∧ cap = 0 ∧ ss = []) ∨
  ∃ x, a = some x ∧ len ≤ cap ∧ cap ≤ maxLen ∧ ss.length = cap ∧ (∀ i, i < ss.length → w.cell? (x.add i) = some (.string (ss.getD i ByteArray.empty))) ∧ ∀ s ∈ ss, s.size ≤ maxLen
theorem isstrs_reads {w : World} {a : Option Addr} {len cap : Nat} {ss : List ByteArray} (h : IsStrs w a len cap ss) : Reads w w.heap.size 1 a len ((ss.take len).map Value.string) ∧ (a = none → len = 0) ∧ len ≤ maxLen ∧ ∀ s ∈ ss.take len, s.size ≤ maxLen := by
  rcases h with ⟨rfl, rfl, rfl, rfl⟩ | ⟨x, rfl, hl, hm, hz, hc, hs⟩
  · exact ⟨Reads.none_, fun _ => rfl, by unfold maxLen; omega, fun s h => by simp at h⟩
  · refine ⟨⟨by simp; omega, fun hn => ⟨x, rfl, ?_, fun j u hu => ?_⟩⟩, (fun h => by cases h), by omega, fun s h => hs s (List.mem_of_mem_take h)⟩
    · have := hc 0 (by omega)
      exact World.block_lt_of_cell? w x (by simpa [Addr.add] using this)
    · have hj : j < len := by
        have := (List.getElem?_eq_some_iff.1 hu).1
        simp at this; omega
      rw [hc j (by omega)]
      rw [List.getElem?_map, List.getElem?_take_of_lt hj, List.getElem?_eq_getElem (by omega)] at hu
      rw [List.getD_eq_getElem?_getD, List.getElem?_eq_getElem (by omega)]
      exact hu



theorem lv_strs {w : World} {a : Option Addr} {len cap : Nat} {z : List ByteArray} (h : IsStrs w a len cap z) : Lv.ok w w.heap.size ⟨a, len, cap, z.take len⟩ := by
  obtain ⟨h1, h2, h3, h4⟩ := isstrs_reads h
  exact ⟨h1, h2, h3, by have := h1.1; simpa using this, h4⟩
theorem lv_keep {W W' : World} {B g : Nat} {l : Lv} (h : l.ok W B) (hg : W.grownBy W' (some g)) (hB : B ≤ g) (hs : B ≤ W.heap.size) : l.ok W' B :=
  ⟨h.1.keep fun p hp => World.cell?_of_block (hg.block p.block (by omega) (fun e => by have := Option.some.inj e; omega)), h.2⟩

structure L1 (w W : World) (B g o br bn n : Nat) (A1 : Option Addr) (c1 : Nat) (ss : List ByteArray) (A2 : Option Addr) (zs : List Int) : Prop where
  tab : Linked W g n (fun m => ss.getD m ByteArray.empty) (root (fun m => zs.getD m 0)) 0
  out : OutAt W o 0 1 g n
  ren : Ren W br o 1 1 none bn
  inv : Inv W
  lA : Lv.ok W B ⟨A1, n, c1, ss⟩
  lB : Reads W B 1 A2 n (zs.map (Value.int .i32))
  bel : Below w.heap.size w W
structure Far1 (w : World) (B g o br bn : Nat) : Prop where
  hw : w.heap.size ≤ B
  hB : 0 < B
  a : B ≤ g
  c : g < o
  d : o < br
  e : o < bn
theorem L1.drew {w W : World} {B g o br bn n : Nat} {A1 : Option Addr} {c1 : Nat} {ss : List ByteArray} {A2 : Option Addr} {zs : List Int} (h : L1 w W B g o br bn n A1 c1 ss A2 zs) : L1 w W.drew B g o br bn n A1 c1 ss A2 zs :=
  ⟨h.tab, h.out, ⟨h.ren.blk, h.ren.lt, h.ren.nms⟩, h.inv, h.lA, h.lB, h.bel.drew⟩
theorem L1.step {w W : World} {B g o br bn n : Nat} {A1 : Option Addr} {c1 : Nat} {ss : List ByteArray} {A2 : Option Addr} {zs : List Int} {W' : World} (h : L1 w W B g o br bn n A1 c1 ss A2 zs) (f : Far1 w B g o br bn) (hg : W.grownBy W' (some g)) (ht : Linked W' g n (fun m => ss.getD m ByteArray.empty) (root (fun m => zs.getD m 0)) 0) : L1 w W' B g o br bn n A1 c1 ss A2 zs := by
  obtain ⟨f1, f2, f3, f5, f6, f7⟩ := f
  have hs : B ≤ W.heap.size := by have := h.tab.lt; omega
  exact ⟨ht, h.out.grown hg (fun e => by have := Option.some.inj e; omega), h.ren.grown hg (fun e => by have := Option.some.inj e; omega) (fun e => by have := Option.some.inj e; omega), h.inv.grown hg (fun e => by have := Option.some.inj e; omega),
    lv_keep h.lA hg f3 hs, h.lB.keep fun p hp => World.cell?_of_block (hg.block p.block (by omega) (fun e => by have := Option.some.inj e; omega)), h.bel.grown hg (by omega) (fun k hk => by obtain rfl := Option.some.inj hk; omega)⟩
def AskPost (w : World) (B g o br bn n : Nat) (A1 : Option Addr) (c1 : Nat) (ss : List ByteArray) (A2 : Option Addr) (zs : List Int) (x : ByteArray) (e : Ending) (w' : World) : Prop :=
  e = .returned (.string x) ∧ L1 w w' B g o br bn n A1 c1 ss A2 zs
theorem ask {w W : World} {B g o br bn n : Nat} {A1 : Option Addr} {c1 : Nat} {ss : List ByteArray} {A2 : Option Addr} {zs : List Int} (h : L1 w W B g o br bn n A1 c1 ss A2 zs) (f : Far1 w B g o br bn) {k r : Nat} (hk : k < n) (hn : n ≤ 4096) {x : ByteArray} (hr : root (fun m => zs.getD m 0) k = r) (hx : ss.getD r ByteArray.empty = x) :
    Calls Tryd.prog 11 #[.pointer (some ⟨br, 0, none⟩), .agg #[.int .u32 0, .int .u32 k]] W (AskPost w B g o br bn n A1 c1 ss A2 zs x) := by
  have f' := f
  obtain ⟨f1, f2, f3, f5, f6, f7⟩ := f'
  have := nameFor br o 1 1 none bn g n (fun m => ss.getD m ByteArray.empty) (root (fun m => zs.getD m 0)) 0 k W (by omega) (by omega) (by omega) (by omega) (by omega) (by omega) (by omega) (roots_root _ _) hk h.inv h.out h.tab h.ren
  refine Calls.mono this ?_
  rintro e w' ⟨rfl, ht, hg⟩
  exact ⟨by rw [← hx, ← hr], h.step f hg ht⟩
def CloneL (w : World) (n : Nat) (xs : List Value) (e : Ending) (w' : World) : Prop :=
  ∃ A c, e = .returned (.slice A n c) ∧ Reads w' w'.heap.size 1 A n xs ∧ Below w.heap.size w w'
theorem cloneLR (A : Option Addr) (n cap : Nat) (zs : List Int) (w : World) (hr : Reads w w.heap.size 1 A n (zs.map (Value.int .i32))) (hA : A = none → n = 0) (hn : n ≤ 16777216) :
    Calls Tryd.prog 13 #[.slice A n cap] w (CloneL w n (zs.map (Value.int .i32))) := by
  refine (cloneL A n cap zs w hr hn).mono ?_
  rintro e w' (⟨hn0, rfl, rfl⟩ | ⟨g, _, rfl, hge, hbk, hb⟩)
  · obtain rfl := hA hn0
    exact ⟨none, 0, rfl, by have := hr.1; obtain rfl : zs = [] := List.eq_nil_of_length_eq_zero (by simpa using this); exact Reads.none_, Below.refl _ _⟩
  · refine ⟨_, _, rfl, ⟨hr.1, fun hn => ⟨_, rfl, hbk.lt, fun j u hu => ?_⟩⟩, hb⟩
    have := hbk.cell j
    rw [List.getElem?_toArray, hu] at this
    rw [← this]
    unfold Addr.add
    split
    · rename_i h0; subst h0; rfl
    · show World.cell? _ ⟨g, 0 + j, none⟩ = _
      rw [Nat.zero_add]
/-! ### STEP 1: THE WALK -/
set_option maxHeartbeats 4000000 in
set_option maxRecDepth 100000 in
theorem walk (a0 : Option Addr) (len0 cap0 : Nat) (z0 : List ByteArray) (a1 : Option Addr) (len1 cap1 : Nat) (z1 : List Int) (w : World) (w0 : IsStrs w a0 len0 cap0 z0) (w1 : IsRow .i32 w a1 len1 cap1 z1) (hI : Inv w) :
    Calls Tryd.prog 4 #[.slice a0 len0 cap0, .slice a1 len1 cap1] w fun e w' => e = .returned (.bool true) ∧ Below w.heap.size w w' := by
  have v0 := lv_strs w0
  obtain ⟨hr1, hA1, hl1⟩ := isrow_reads w1
  have hwf : ∀ m ∈ z1.take len1, -2147483648 ≤ m ∧ m ≤ 2147483647 := fun m hm => by
    rcases w1 with ⟨_, _, _, rfl⟩ | ⟨_, _, _, _, _, _, hw⟩
    · simp at hm
    · have := hw m (List.mem_of_mem_take hm)
      simp [Lit.wf, IntKind.min, IntKind.max, IntKind.signed, IntKind.bits] at this
      omega
  generalize z0.take len0 = ss at v0
  generalize z1.take len1 = zs at hr1 hwf
  have V0 := Lib.hid v0; have HR1 := Lib.hid hr1; have HA1 := Lib.hid hA1; have HI := Lib.hid hI; have HL1 := Lib.hid hl1; have HWF := Lib.hid hwf
  have HZL := Lib.hid (show zs.length = len1 by have := hr1.1; simpa using this)
  have l0 : len0 ≤ 9223372036854775807 := v0.2.2.1
  have l1 : len1 ≤ 9223372036854775807 := hl1
  clear v0 hr1 hA1 w0 w1 hI hl1 hwf
  go_enter Tryd.func4, Tryd.ntmps4
  go_wp2_with (go_at_call 12; refine (zbytes2 a0 len0 cap0 ss a1 len1 cap1 _ V0.out HL1.out).mono ?_)
  rintro e wz ⟨bz, rfl, rfl⟩
  cases bz
  · go_wp2
    go_ret
    exact ⟨rfl, Below.refl _ _⟩
  by_cases hbad : 4096 < len0 ∨ 4096 < len1
  · have HBAD := Lib.hid hbad
    clear hbad
    go_wp2
    all_goals first | (go_ret; exact ⟨rfl, Below.refl _ _⟩) | (exfalso; have hq := HBAD.out; go_light; omega)
  have hn0 : len0 ≤ 4096 := by omega
  have hn1 : len1 ≤ 4096 := by omega
  clear hbad l0 l1
  go_wp2_with (go_at_call 6; refine (zstr a0 len0 cap0 ss _ V0.out).mono ?_)
  rintro e wz ⟨y0, rfl, rfl⟩
  by_cases hne : len0 = len1
  case neg =>
    have q1 : ((len0 : Int) != len1) = true := by rw [bne_iff_ne]; omega
    go_wp2
    all_goals (go_ret; exact ⟨rfl, Below.refl _ _⟩)
  subst hne
  have q1 : ((len0 : Int) != len0) = false := by simp
  go_wp2
  all_goals first | (go_ret; exact ⟨rfl, Below.refl _ _⟩) | skip
  go_loopw [5] (fun t wx => ∃ k : Nat, t = .int .i64 k ∧ k ≤ len0 ∧ (∀ i, i < k → zs.getD i 0 < i) ∧ w = wx) (fun t _ => len0 - (intOf t).toNat)
  case atStart => exact ⟨0, rfl, by omega, fun i hi => by omega, rfl⟩
  case round =>
    obtain ⟨k, rfl, hk, hok, rfl⟩ := hrel
    have HOK := Lib.hid hok
    clear hok
    by_cases hlt : k < len0
    · obtain ⟨b, off, rfl, hbk, hc⟩ := reads_any HR1.out (by omega)
      obtain ⟨x, hx⟩ : ∃ x, zs[k]? = some x := ⟨_, List.getElem?_eq_getElem (by have := HZL.out; omega)⟩
      have c0 := hc k x hx
      have HXX := Lib.hid (show zs.getD k 0 = x by rw [List.getD_eq_getElem?_getD, hx]; rfl)
      have hw32 : IntKind.i32.wrap (k : Int) = k := by first | (rw [IntKind.wrap_i32]; omega) | (simp [IntKind.wrap, IntKind.bits, IntKind.signed]; omega)
      clear hc hx
      by_cases hge : (k : Int) ≤ x
      · go_wp2
        all_goals first | (go_ret; exact ⟨rfl, Below.refl _ _⟩) | (exfalso; go_light; omega)
      · go_wp2
        go_roundw
        case rel =>
          refine ⟨k + 1, by go_num, by omega, fun i hi => ?_, by first | rfl | trivial⟩
          by_cases e : i = k
          · subst e; rw [HXX.out]; omega
          · exact HOK.out i (by omega)
        case measure => simp [intOf]; omega
    obtain rfl : len0 = k := by omega
    have hL := HOK.out
    have HL := Lib.hid hL
    clear hL HOK
    go_wp2_with (go_at_call 7; refine (cloneS a0 len0 cap0 ss _ V0.out (by omega)).mono ?_)
    rintro e wa ⟨A1, c1, rfl, hl, hb⟩
    have LA := Lib.hid hl; have BA := Lib.hid hb; have HR2 := Lib.hid ((HR1.out.below hb).more hb.size)
    clear hl hb
    go_wp2_with (go_at_call 13; refine (cloneLR a1 len0 cap1 zs _ HR2.out HA1.out (by omega)).mono ?_)
    rintro e wb ⟨A2, c2, rfl, hl, hb⟩
    have LB := Lib.hid hl; have LA2 := Lib.hid ((LA.out.below hb).more hb.size); have BB := Lib.hid (BA.out.trans (hb.mono BA.out.size))
    clear hl hb LA HR2
    go_wp2_with (go_at_call 14; refine (linkedS A1 len0 c1 ss A2 c2 zs _ LA2.out LB.out (by omega) HL.out).mono ?_)
    rintro e we ⟨g, rfl, hgB, htab, hb⟩
    have ST := Lib.hid htab; have LAe := Lib.hid (LA2.out.below hb); have LBe := Lib.hid (LB.out.below hb); have BE := Lib.hid (BB.out.trans (hb.mono BB.out.size))
    have hgl := htab.lt
    have hsb := hb.size
    have hsw := BB.out.size
    have HIe := Lib.hid (HI.out.below BE.out HI.out.pos)
    have hwp := HI.out.pos
    clear htab hb LA2 LB
    obtain ⟨wf, hwf⟩ : ∃ wf, wf = (we.alloc (.cells #[.slice (some ⟨g, 0, none⟩) len0 len0] 26)).alloc (.cells #[.slice (some ⟨we.heap.size, 0, none⟩) 1 1] 30) := ⟨_, rfl⟩
    have hgf : we.grownBy wf none := by rw [hwf]; exact only_alloc (only_alloc (World.grownBy.refl _ _) _) _
    have hko : Blk wf we.heap.size 26 #[.slice (some ⟨g, 0, none⟩) len0 len0] := by rw [hwf]; exact (Blk.new we 26 _).alloc _
    have HBASE : Hid (∀ (w9 : World) (br bn : Nat), Ren w9 br we.heap.size 1 1 none bn → wf.heap.size ≤ br → wf.heap.size ≤ bn → wf.grownBy w9 none →
        L1 w w9 wb.heap.size g we.heap.size br bn len0 A1 c1 ss A2 zs ∧ Far1 w wb.heap.size g we.heap.size br bn) := Lib.hid (fun w9 br bn hr hbr hbn h9 => by
      have hg : we.grownBy w9 none := grown_tr hgf h9
      have hkl := hko.lt
      have hko9 := hko.grown h9 (by simp)
      exact ⟨⟨ST.out.grown hg (by simp), ⟨hko9.lt, by omega, ⟨_, hko9.cell 0⟩⟩, hr, HIe.out.grown hg (by simp),
        ⟨LAe.out.1.keep fun p hp => World.cell?_of_block (hg.block p.block (by omega) (by simp)), LAe.out.2⟩,
        LBe.out.keep fun p hp => World.cell?_of_block (hg.block p.block (by omega) (by simp)), BE.out.grown hg BE.out.size (fun k hk => by cases hk)⟩, ⟨hsw, by omega, hgB, by omega, by omega, by omega⟩⟩)
    have HWFE := Lib.hid hwf
    clear hgf hko hwf
    go_wp2_with (go_at_call 9; rw [← HWFE.out]; refine (newR we.heap.size 1 1 none _ (by omega)).mono ?_)
    rintro e w9 ⟨br, bn, rfl, hren, hbr, hbn, hg9⟩
    obtain ⟨hls, hfar⟩ := HBASE.out w9 br bn hren hbr hbn hg9
    have HLN := Lib.hid hls; have HF := Lib.hid hfar
    obtain ⟨B, hB⟩ : ∃ B, B = wb.heap.size := ⟨_, rfl⟩
    obtain ⟨o, ho⟩ : ∃ o, o = we.heap.size := ⟨_, rfl⟩
    rw [← hB, ← ho] at HLN HF
    clear hls hfar HBASE hren hbr hbn hg9 HWFE
    go_wp2
    go_loopw [8] (fun t wx => ∃ k : Nat, t = .int .i64 k ∧ k ≤ len0 ∧ L1 w wx B g o br bn len0 A1 c1 ss A2 zs) (fun t _ => len0 - (intOf t).toNat)
    case atStart => exact ⟨0, rfl, by omega, HLN.out⟩
    case round =>
      clear HLN
      obtain ⟨k, rfl, hk, hls⟩ := hrel
      have HLS := Lib.hid hls
      clear hls
      by_cases hlt2 : k < len0
      · obtain ⟨b, off, e1, hbk, hc⟩ := reads_any HLS.out.lA.1 (by show 0 < len0; omega)
        simp only at e1
        subst e1
        obtain ⟨b2, off2, e2, hbk2, hc2⟩ := reads_any HLS.out.lB (by omega)
        subst e2
        have HC := Lib.hid hc; have HC2 := Lib.hid hc2
        clear hc hc2
        obtain ⟨w10, rfl⟩ : ∃ x, x = wr := ⟨_, rfl⟩
        go_wp2
        go_loopw [9] (fun t wx => ∃ r : Nat, t = .int .i64 r ∧ r ≤ k ∧ root (fun m => zs.getD m 0) r = root (fun m => zs.getD m 0) k ∧ w10 = wx) (fun t _ => (intOf t).toNat)
        case atStart => exact ⟨k, rfl, Nat.le_refl _, rfl, rfl⟩
        case round =>
          obtain ⟨r, rfl, hrk, hroot, rfl⟩ := hrel
          obtain ⟨y, hy⟩ : ∃ y, zs[r]? = some y := ⟨_, List.getElem?_eq_getElem (by have := HZL.out; omega)⟩
          have c3 := HC2.out r y hy
          have hyy : zs.getD r 0 = y := by rw [List.getD_eq_getElem?_getD, hy]; rfl
          have hyr : y < r := by rw [← hyy]; exact HL.out r (by omega)
          have hyw := HWF.out y (List.mem_of_getElem? hy)
          have HROOT := Lib.hid hroot; have HYY := Lib.hid hyy
          clear hy hroot hyy
          by_cases h0 : 0 ≤ y
          · obtain ⟨q, rfl⟩ : ∃ q : Nat, y = q := ⟨y.toNat, by omega⟩
            have HRQ : Hid (root (fun m => zs.getD m 0) q = root (fun m => zs.getD m 0) k) := Lib.hid (by
              rw [← HROOT.out, root_step (L := fun m => zs.getD m 0) (k := r) (by show 0 ≤ zs.getD r 0; rw [HYY.out]; omega) (by show zs.getD r 0 < r; rw [HYY.out]; omega)]
              show root _ q = root _ (zs.getD r 0).toNat
              rw [HYY.out]; rfl)
            go_wp2
            go_roundw
            case rel => exact ⟨q, rfl, by omega, HRQ.out, by first | rfl | trivial⟩
            case measure => simp [intOf]; omega
          · have HRE : Hid (root (fun m => zs.getD m 0) k = r) := Lib.hid (by
              rw [← HROOT.out]; exact root_end (by show ¬ 0 ≤ zs.getD r 0; rw [HYY.out]; exact h0))
            obtain ⟨x, hx⟩ : ∃ x, ss[r]? = some x := ⟨_, List.getElem?_eq_getElem (by have : ss.length = len0 := HLS.out.lA.2.2.2.1; omega)⟩
            have HX := Lib.hid hx
            have HXX := Lib.hid (show ss.getD r ByteArray.empty = x by rw [List.getD_eq_getElem?_getD, hx]; rfl)
            have c0 := HC.out r x hx
            have qx : (x.toList != x.toList) = false := by simp
            have HSW : Hid (∀ W : World, (W = w10 ∨ W = w10.drew ∨ W = w10.drew.drew) → L1 w W B g o br bn len0 (some ⟨b, off, none⟩) c1 ss (some ⟨b2, off2, none⟩) zs) := Lib.hid (fun W hW => by
              have h := HLS.out
              rcases hW with rfl | rfl | rfl
              · exact h
              · exact h.drew
              · exact h.drew.drew)
            have HCX : Hid (∀ W : World, L1 w W B g o br bn len0 (some ⟨b, off, none⟩) c1 ss (some ⟨b2, off2, none⟩) zs → W.cell? ⟨b, off + r, none⟩ = some (.string x)) := Lib.hid (fun W h => by
              obtain ⟨b', off', e', _, hc'⟩ := reads_any h.lA.1 (by show 0 < len0; omega)
              simp only at e'
              obtain ⟨rfl, rfl⟩ : b = b' ∧ off = off' := by injection e' with e'; injection e' with e1 e2; exact ⟨e1, e2⟩
              exact hc' r x HX.out)
            have HW32 := Lib.hid (show IntKind.u32.wrap (k : Int) = k by first | (rw [IntKind.wrap_u32]; omega) | (simp [IntKind.wrap, IntKind.bits, IntKind.signed]; omega))
            clear hx
            go_wp2
            go_region_with (go_at_call 11; (try rw [HW32.out]); refine (ask (HSW.out _ (by first | exact Or.inl rfl | exact Or.inr (Or.inl rfl) | exact Or.inr (Or.inr rfl))) HF.out hlt2 (by omega) HRE.out HXX.out).mono ?_; rintro e w5 ⟨rfl, hl5⟩; have c5 := HCX.out w5 hl5; have HL5 := Lib.hid hl5; clear hl5)
            all_goals
              go_wp2
              go_roundw
              case rel => exact ⟨k + 1, by go_num, by omega, HL5.out⟩
              case measure => simp [intOf]; omega
      · obtain rfl : len0 = k := by omega
        go_wp2
        go_ret
        exact ⟨rfl, HLS.out.bel⟩

/-! ### THE ROW's STEP -/
set_option maxRecDepth 100000 in
theorem lifted (os : Os) (started : os.Started) (H : Type) (enc : TypeId × Value → H) :
    ReturnsInHanded {} Tryd.checked os 4 .any (fun w args => (Rows.fnNameForSymbolFollowsLinksSpec.pre enc Tryd.prog Tryd.f4 [] false w args ∧ laidMetH Tryd.prog Rows.fnNameForSymbolFollowsLinksRow.laid w) ∧ sizedMet enc Tryd.prog Tryd.f4 (OpenSpec.ofChange Rows.fnNameForSymbolFollowsLinksSpec) false w args)
      (Rows.fnNameForSymbolFollowsLinksSpec.post enc Tryd.prog Tryd.f4 false true false false) := by
  refine returnsInHanded_of_change_and (C := Tryd.checked) (X := fun w _ => laidMetH Tryd.prog Rows.fnNameForSymbolFollowsLinksRow.laid w) (fun _ _ _ hh h => h.of_heap hh) own started (by kernel_rfl) Tryd.func4
    (ChangeSpec.witness_shaped (enc := enc) (C := Tryd.checked) (os := os) (X := fun w _ => laidMetH Tryd.prog Rows.fnNameForSymbolFollowsLinksRow.laid w) false (World.laidAll Tryd.prog os Rows.fnNameForSymbolFollowsLinksRow.laid) #[.slice none 0 0, .slice none 0 0] 8 (World.laidAll_os _ _ _)
      (World.shaped_of_ZipB (by kernel_rfl) (by kernel_rfl)) (by kernel_rfl) (by kernel_rfl) (by kernel_rfl)
      (by rw [MakeChecks.laidMetH_plain _ _ _ (by kernel_rfl)]; exact laidMet_laidAll _ (by kernel_rfl) (by kernel_rfl))) ?_
  intro W base args ds gs before hval0 hW _ _ hL _
  have hval : ∀ (j : Nat) t v, Tryd.f4.params[j]? = some t → args[j]? = some v → Value.okWide Tryd.prog W .any base t v := hval0
  have hW' := hW
  obtain ⟨p, q, hA0, hV, rfl, hfz, hnd⟩ := hW
  have hA : DataW.TrodAll enc Tryd.prog W 0 (fun _ => true) true Tryd.f4.params.toList args.toList ds p := hA0
  rw [Tryd.params4] at hA hval
  obtain ⟨v0, vs0, d0, ds0, p0, q0, hargs, rfl, rfl, h0, r0⟩ := trodAll_cons hA
  obtain ⟨v1, vs1, d1, ds1, p1, q1, rfl, rfl, rfl, h1, r1⟩ := trodAll_cons r0
  obtain ⟨rfl, rfl, rfl⟩ := trodAll_nil r1
  obtain rfl : args = #[v0, v1] := by cases args; simp_all
  have hV1 : DataW.TrodVars enc Tryd.prog W (fun _ => true) ["github.com/evanw/esbuild/internal/ast.InvalidRef"] gs q := hV
  obtain ⟨g1, rfl⟩ : ∃ g, gs = [g] := by
    match gs, hV1 with
    | [g], _ => exact ⟨g, rfl⟩
    | [], h => exact h.elim
    | _ :: _ :: _, ⟨_, _, _, _, _, _, _, _, _, _, h, _⟩ => exact h.elim
  have k0 := h0
  have lt0 : ∀ x ∈ p0, x.block < W.heap.size := by obtain ⟨m, hm⟩ := k0; exact DataW.trod_lt m _ _ _ hm
  have k1 := h1
  have lt1 : ∀ x ∈ p1, x.block < W.heap.size := by obtain ⟨m, hm⟩ := k1; exact DataW.trod_lt m _ _ _ hm
  obtain ⟨a0, len0, cap0, rfl⟩ := okWide_slice Tryd.underlying22 (hval 0 22 v0 rfl rfl)
  obtain ⟨z0, w0⟩ : ∃ zs, IsStrs W a0 len0 cap0 zs := by
    obtain ⟨fuel, hf⟩ := h0
    rcases open_strings Tryd.underlying22 Tryd.underlying9 (by kernel_rfl) hf with ⟨hcs, _⟩ | ⟨x, l, c, zs, hcs, _, hl, hm, hz, _, hcell, hwz⟩
    · simp [Value.cells] at hcs
      obtain ⟨rfl, rfl, rfl⟩ := hcs
      exact ⟨[], .inl ⟨rfl, rfl, rfl, rfl⟩⟩
    · simp [Value.cells] at hcs
      obtain ⟨rfl, rfl, rfl⟩ := hcs
      exact ⟨zs, .inr ⟨_, rfl, hl, hm, by simpa using hz, hcell, hwz⟩⟩
  obtain ⟨a1, len1, cap1, rfl⟩ := okWide_slice Tryd.underlying39 (hval 1 39 v1 rfl rfl)
  obtain ⟨z1, w1⟩ : ∃ zs, IsRow .i32 W a1 len1 cap1 zs := by
    obtain ⟨fuel, hf⟩ := h1
    rcases open_ints Tryd.underlying39 Tryd.underlying21 (by kernel_rfl) hf with ⟨hcs, _⟩ | ⟨x, l, c, zs, hcs, _, hl, hm, hz, _, hcell, hwz⟩
    · simp [Value.cells] at hcs
      obtain ⟨rfl, rfl, rfl⟩ := hcs
      exact ⟨[], .inl ⟨rfl, rfl, rfl, rfl⟩⟩
    · simp [Value.cells] at hcs
      obtain ⟨rfl, rfl, rfl⟩ := hcs
      exact ⟨zs, .inr ⟨_, rfl, hl, hm, by simpa using hz, hcell, hwz⟩⟩
  clear hA0 hval0
  refine (walk a0 len0 cap0 z0 a1 len1 cap1 z1 W w0 w1 (inv_of hL)).mono fun e W' ⟨he, bel⟩ => ?_
  subst he
  exact ⟨_, rfl, _, _, _, [], _, q, hW', trodAll_mk1 (shut_bool Tryd.underlying4 _), (trodAll_cons_mk (Below.trod laidOut (by kernel_rfl) (of_decide_eq_true (by kernel_rfl)) k0 bel lt0) (trodAll_cons_mk (Below.trod laidOut (by kernel_rfl) (of_decide_eq_true (by kernel_rfl)) k1 bel lt1) trodAll_mk0)), Below.trodVars laidOut bel (by kernel_rfl) hV1, bel.frame _, fun h => by cases h⟩

theorem over : Rows.fnNameForSymbolFollowsLinksRow.holds Tryd.pinned (OpenSpec.ofChange Rows.fnNameForSymbolFollowsLinksSpec) :=
  OpenClaim.holds_of_wide 4 Tryd.f4 rfl rfl rfl rfl rfl rfl rfl ⟨rfl, rfl, rfl, rfl, rfl⟩ rfl rfl rfl rfl rfl (by kernel_rfl) Tryd.func4 (by kernel_rfl)
    (of_decide_eq_true (by kernel_rfl)) (by unfold Func.isWrapper; first | (rw [if_pos (by decide +kernel)]; kernel_rfl) | (rw [if_neg (by decide +kernel)]; exact ⟨rfl, rfl⟩))
    (fun os started H enc _ => lifted os started H enc)

theorem proved : Rows.FnNameForSymbolFollowsLinksCardSaid :=
  Claim7.holds_tied_plain_at .later [] [.data] true (true, "47a94166668715c549b2f44e931c091203db12c0b29e38e4943cc65de94bd5aa") false over (fun _ h => by cases h) (by kernel_rfl) (fun _ h => by cases h) fnNameForSymbolFollowsLinks_row_tie rfl ⟨rfl, rfl⟩ (by kernel_rfl) rfl
    (fun f fn hf hfn => by
      obtain rfl : f = 4 := Option.some.inj ((show Tryd.prog.funcNamed "github.com/evanw/esbuild/n011_29.FnNameForSymbolFollowsLinks" = some 4 by kernel_rfl).symm.trans hf) |>.symm
      obtain rfl : fn = Tryd.f4 := (Option.some.inj (Tryd.func4.symm.trans hfn)).symm
      exact ⟨by kernel_rfl, fun j t ht => by
        rw [Tryd.params4] at ht
        have hm : t ∈ [22, 39] := by simpa using Array.mem_of_getElem? ht
        have hall : ([22, 39].all fun u => !Tryd.prog.wantsStandIn u) = true := by kernel_rfl
        exact (show Tryd.prog.wantsStandIn t = false by simpa using List.all_eq_true.1 hall t hm)⟩)
    (by kernel_rfl)
#print axioms proved
end Go.Proofs.YtmnijgjadlfaaaaDoor.fnNameForSymbolFollowsLinks