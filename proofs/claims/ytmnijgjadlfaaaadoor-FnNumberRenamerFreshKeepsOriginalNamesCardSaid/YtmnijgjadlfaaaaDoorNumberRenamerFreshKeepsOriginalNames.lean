/-
  PROVED: a freshly made NumberRenamer answers every symbol of the sources 0 and 2 with its own original name.
-/
import Derived.Test.YtmnijgjadlfaaaaDoorRows
import Derived.Test.YtmnijgjadlfaaaaDoorCards
import Derived.Test.YtmnijgjadlfaaaaDoorTie
import Derived.WalkKit
import Derived.ProofKit
import Derived.Outline
import Derived.LoopTactic
import Derived.WalkSpells
import Derived.Deep.RegionWith
import Derived.Deep.DeepCutAuto
import Derived.Deep.Light
import Derived.Test.YtmnijgjadlfaaaaDoorNub
import Derived.Test.YtmnijgjadlfaaaaDoorInv
import Derived.OpenShut
import Derived.ShutString
import Derived.ChangeOld
import Derived.Below
import Derived.Carry
import Derived.SliceStrings
import Derived.OpenVars
import Derived.Handy
import Derived.Lay
import Derived.SevenTiedAt
namespace Go.Proofs.YtmnijgjadlfaaaaDoor.fnNumberRenamerFreshKeepsOriginalNames
open Go.ChangeShapes Go.WideShapes Go.ChangeAt Go.RowKit
open Go.ChangeMaps (open_string shut_string)
set_option linter.unusedVariables false
set_option linter.unusedSimpArgs false

theorem own : ownKnob Tryd.prog.godebug = none := by kernel_rfl
theorem laidOut : laidOutB Tryd.pinned.checked.prog = true := by kernel_rfl

/-- What the walk is told of a slice of strings that came in. -/
def IsStrs (w : World) (a : Option Addr) (len cap : Nat) (ss : List ByteArray) : Prop :=
  (a = none ∧ len = 0 ∧ cap = 0 ∧ ss = []) ∨
  ∃ x, a = some x ∧ len ≤ cap ∧ cap ≤ maxLen ∧ ss.length = cap ∧ (∀ i, i < ss.length → w.cell? (x.add i) = some (.string (ss.getD i ByteArray.empty))) ∧ ∀ s ∈ ss, s.size ≤ maxLen
theorem isstrs_reads {w : World} {a : Option Addr} {len cap : Nat} {ss : List ByteArray} (h : IsStrs w a len cap ss) : Reads w w.heap.size 1 a len ((ss.take len).map Value.string) ∧ (a = none → len = 0) ∧ len ≤ maxLen ∧ ∀ s ∈ ss.take len, s.size ≤ maxLen := by
  rcases h with ⟨rfl, rfl, rfl, rfl⟩ | ⟨x, rfl, hl, hm, hz, hc, hs⟩
  · exact ⟨Reads.none_, fun _ => rfl, by unfold maxLen; omega, fun s h => by simp at h⟩
  · refine ⟨⟨by simp; omega, fun hn => ⟨x, rfl, ?_, fun j u hu => ?_⟩⟩, (fun h => by cases h), by omega, fun s h => hs s (List.mem_of_mem_take h)⟩
    · have := hc 0 (by omega)
      exact World.block_lt_of_cell? w x (by simpa [Addr.add] using this)
    · have hj : j < len := by
        have := (List.getElem?_eq_some_iff.1 hu).1
        simp at this; omega
      rw [hc j (by omega)]
      rw [List.getElem?_map, List.getElem?_take_of_lt hj, List.getElem?_eq_getElem (by omega)] at hu
      rw [List.getD_eq_getElem?_getD, List.getElem?_eq_getElem (by omega)]
      exact hu



theorem lv_strs {w : World} {a : Option Addr} {len cap : Nat} {z : List ByteArray} (h : IsStrs w a len cap z) : Lv.ok w w.heap.size ⟨a, len, cap, z.take len⟩ := by
  obtain ⟨h1, h2, h3, h4⟩ := isstrs_reads h
  exact ⟨h1, h2, h3, by have := h1.1; simpa using this, h4⟩
theorem roots_id (n : Nat) : Roots n (fun m => m) := fun m _ => ⟨Nat.le_refl _, rfl⟩
theorem linked_plain {w : World} {g n s : Nat} {nm : Nat → ByteArray} (h : Syms w g n n nm (fun _ => 4294967295) (fun _ => 4294967295)) : Linked w g n nm (fun m => m) s :=
  ⟨_, _, h, fun m _ => .inl ⟨rfl, rfl, rfl⟩⟩
/-- What stands while the law asks for names. -/
structure LSt (w W : World) (B gA gB o br bn n0 n1 : Nat) (mo : Option Nat) (A1 : Option Addr) (c1 : Nat) (sA : List ByteArray) (A2 : Option Addr) (c2 : Nat) (sB : List ByteArray) : Prop where
  tA : Linked W gA n0 (fun m => sA.getD m ByteArray.empty) (fun m => m) 0
  tB : Linked W gB n1 (fun m => sB.getD m ByteArray.empty) (fun m => m) 2
  oA : OutAt W o 0 3 gA n0
  oB : OutAt W o 2 3 gB n1
  ren : Ren W br o 3 3 mo bn
  inv : Inv W
  lA : Lv.ok W B ⟨A1, n0, c1, sA⟩
  lB : Lv.ok W B ⟨A2, n1, c2, sB⟩
  bel : Below w.heap.size w W
structure Far (w : World) (B gA gB o br bn : Nat) : Prop where
  hw : w.heap.size ≤ B
  hB : 0 < B
  a : B ≤ gA
  b : gA < gB
  c : gB < o
  d : o < br
  e : o < bn
theorem lv_keep {W W' : World} {B g : Nat} {l : Lv} (h : l.ok W B) (hg : W.grownBy W' (some g)) (hB : B ≤ g) (hs : B ≤ W.heap.size) : l.ok W' B :=
  ⟨h.1.keep fun p hp => World.cell?_of_block (hg.block p.block (by omega) (fun e => by have := Option.some.inj e; omega)), h.2⟩
theorem LSt.stepA {w W W' : World} {B gA gB o br bn n0 n1 : Nat} {mo : Option Nat} {A1 : Option Addr} {c1 : Nat} {sA : List ByteArray} {A2 : Option Addr} {c2 : Nat} {sB : List ByteArray} (h : LSt w W B gA gB o br bn n0 n1 mo A1 c1 sA A2 c2 sB) (f : Far w B gA gB o br bn)
    (hg : W.grownBy W' (some gA)) (ht : Linked W' gA n0 (fun m => sA.getD m ByteArray.empty) (fun m => m) 0) : LSt w W' B gA gB o br bn n0 n1 mo A1 c1 sA A2 c2 sB := by
  obtain ⟨f1, f2, f3, f4, f5, f6, f7⟩ := f
  have hs : B ≤ W.heap.size := by have := h.tA.lt; omega
  exact ⟨ht, h.tB.grown hg (fun e => by have := Option.some.inj e; omega), h.oA.grown hg (fun e => by have := Option.some.inj e; omega), h.oB.grown hg (fun e => by have := Option.some.inj e; omega), h.ren.grown hg (fun e => by have := Option.some.inj e; omega) (fun e => by have := Option.some.inj e; omega), h.inv.grown hg (fun e => by have := Option.some.inj e; omega),
    lv_keep h.lA hg f3 hs, lv_keep h.lB hg f3 hs, h.bel.grown hg (by omega) (fun k hk => by obtain rfl := Option.some.inj hk; omega)⟩
theorem LSt.stepB {w W W' : World} {B gA gB o br bn n0 n1 : Nat} {mo : Option Nat} {A1 : Option Addr} {c1 : Nat} {sA : List ByteArray} {A2 : Option Addr} {c2 : Nat} {sB : List ByteArray} (h : LSt w W B gA gB o br bn n0 n1 mo A1 c1 sA A2 c2 sB) (f : Far w B gA gB o br bn)
    (hg : W.grownBy W' (some gB)) (ht : Linked W' gB n1 (fun m => sB.getD m ByteArray.empty) (fun m => m) 2) : LSt w W' B gA gB o br bn n0 n1 mo A1 c1 sA A2 c2 sB := by
  obtain ⟨f1, f2, f3, f4, f5, f6, f7⟩ := f
  have hs : B ≤ W.heap.size := by have := h.tA.lt; omega
  exact ⟨h.tA.grown hg (fun e => by have := Option.some.inj e; omega), ht, h.oA.grown hg (fun e => by have := Option.some.inj e; omega), h.oB.grown hg (fun e => by have := Option.some.inj e; omega), h.ren.grown hg (fun e => by have := Option.some.inj e; omega) (fun e => by have := Option.some.inj e; omega), h.inv.grown hg (fun e => by have := Option.some.inj e; omega),
    lv_keep h.lA hg (by omega) hs, lv_keep h.lB hg (by omega) hs, h.bel.grown hg (by omega) (fun k hk => by obtain rfl := Option.some.inj hk; omega)⟩
theorem LSt.drew {w W : World} {B gA gB o br bn n0 n1 : Nat} {mo : Option Nat} {A1 : Option Addr} {c1 : Nat} {sA : List ByteArray} {A2 : Option Addr} {c2 : Nat} {sB : List ByteArray} (h : LSt w W B gA gB o br bn n0 n1 mo A1 c1 sA A2 c2 sB) : LSt w W.drew B gA gB o br bn n0 n1 mo A1 c1 sA A2 c2 sB :=
  ⟨h.tA, h.tB, h.oA, h.oB, ⟨h.ren.blk, h.ren.lt, h.ren.nms⟩, h.inv, h.lA, h.lB, h.bel.drew⟩
def AskPost (w : World) (B gA gB o br bn n0 n1 : Nat) (mo : Option Nat) (A1 : Option Addr) (c1 : Nat) (sA : List ByteArray) (A2 : Option Addr) (c2 : Nat) (sB : List ByteArray) (x : ByteArray) (e : Ending) (w' : World) : Prop :=
  e = .returned (.string x) ∧ LSt w w' B gA gB o br bn n0 n1 mo A1 c1 sA A2 c2 sB
theorem askA {w W : World} {B gA gB o br bn n0 n1 : Nat} {mo : Option Nat} {A1 : Option Addr} {c1 : Nat} {sA : List ByteArray} {A2 : Option Addr} {c2 : Nat} {sB : List ByteArray} (h : LSt w W B gA gB o br bn n0 n1 mo A1 c1 sA A2 c2 sB) (f : Far w B gA gB o br bn) {k : Nat} (hk : k < n0) (hn : n0 ≤ 4096) {x : ByteArray} (hx : sA.getD k ByteArray.empty = x) :
    Calls Tryd.prog 11 #[.pointer (some ⟨br, 0, none⟩), .agg #[.int .u32 0, .int .u32 k]] W (AskPost w B gA gB o br bn n0 n1 mo A1 c1 sA A2 c2 sB x) := by
  have f' := f
  obtain ⟨f1, f2, f3, f4, f5, f6, f7⟩ := f'
  have := nameFor br o 3 3 mo bn gA n0 (fun m => sA.getD m ByteArray.empty) (fun m => m) 0 k W (by omega) (by omega) (by omega) (by omega) (by omega) (by omega) (by omega) (roots_id _) hk h.inv h.oA h.tA h.ren
  refine Calls.mono this ?_
  rintro e w' ⟨rfl, ht, hg⟩
  exact ⟨by rw [← hx], h.stepA f hg ht⟩
theorem askB {w W : World} {B gA gB o br bn n0 n1 : Nat} {mo : Option Nat} {A1 : Option Addr} {c1 : Nat} {sA : List ByteArray} {A2 : Option Addr} {c2 : Nat} {sB : List ByteArray} (h : LSt w W B gA gB o br bn n0 n1 mo A1 c1 sA A2 c2 sB) (f : Far w B gA gB o br bn) {k : Nat} (hk : k < n1) (hn : n1 ≤ 4096) {x : ByteArray} (hx : sB.getD k ByteArray.empty = x) :
    Calls Tryd.prog 11 #[.pointer (some ⟨br, 0, none⟩), .agg #[.int .u32 2, .int .u32 k]] W (AskPost w B gA gB o br bn n0 n1 mo A1 c1 sA A2 c2 sB x) := by
  have f' := f
  obtain ⟨f1, f2, f3, f4, f5, f6, f7⟩ := f'
  have := nameFor br o 3 3 mo bn gB n1 (fun m => sB.getD m ByteArray.empty) (fun m => m) 2 k W (by omega) (by omega) (by omega) (by omega) (by omega) (by omega) (by omega) (roots_id _) hk h.inv h.oB h.tB h.ren
  refine Calls.mono this ?_
  rintro e w' ⟨rfl, ht, hg⟩
  exact ⟨by rw [← hx], h.stepB f hg ht⟩
/-! ### STEP 1: THE WALK -/
set_option maxHeartbeats 4000000 in
set_option maxRecDepth 100000 in
theorem walk (a0 : Option Addr) (len0 cap0 : Nat) (z0 : List ByteArray) (a1 : Option Addr) (len1 cap1 : Nat) (z1 : List ByteArray) (a2 : Option Addr) (len2 cap2 : Nat) (z2 : List ByteArray) (w : World) (w0 : IsStrs w a0 len0 cap0 z0) (w1 : IsStrs w a1 len1 cap1 z1) (w2 : IsStrs w a2 len2 cap2 z2) (hI : Inv w) :
    Calls Tryd.prog 3 #[.slice a0 len0 cap0, .slice a1 len1 cap1, .slice a2 len2 cap2] w fun e w' => e = .returned (.bool true) ∧ Below w.heap.size w w' := by
  have v0 := lv_strs w0
  have v1 := lv_strs w1
  have v2 := lv_strs w2
  generalize z0.take len0 = sA at v0
  generalize z1.take len1 = sB at v1
  generalize z2.take len2 = sR at v2
  have V0 := Lib.hid v0; have V1 := Lib.hid v1; have V2 := Lib.hid v2; have HI := Lib.hid hI
  have l0 : len0 ≤ 9223372036854775807 := v0.2.2.1
  have l1 : len1 ≤ 9223372036854775807 := v1.2.2.1
  have l2 : len2 ≤ 9223372036854775807 := v2.2.2.1
  clear v0 v1 v2 w0 w1 w2 hI
  go_enter Tryd.func3, Tryd.ntmps3
  go_wp2_with (go_at_call 5; refine (zbytes3 a0 len0 cap0 sA a1 len1 cap1 sB a2 len2 cap2 sR _ V0.out V1.out V2.out).mono ?_)
  rintro e wz ⟨bz, rfl, rfl⟩
  cases bz
  · go_wp2
    go_ret
    exact ⟨rfl, Below.refl _ _⟩
  by_cases hbad : 4096 < len0 ∨ 4096 < len1 ∨ 4096 < len2
  · have HBAD := Lib.hid hbad
    clear hbad
    go_wp2
    all_goals first | (go_ret; exact ⟨rfl, Below.refl _ _⟩) | (exfalso; have hq := HBAD.out; go_light; omega)
  have hn0 : len0 ≤ 4096 := by omega
  have hn1 : len1 ≤ 4096 := by omega
  have hn2 : len2 ≤ 4096 := by omega
  clear hbad l0 l1 l2
  go_wp2_with (go_at_call 6; refine (zstr a0 len0 cap0 sA _ V0.out).mono ?_)
  rintro e wz ⟨y0, rfl, rfl⟩
  go_wp2_with (go_at_call 6; refine (zstr a1 len1 cap1 sB _ V1.out).mono ?_)
  rintro e wz ⟨y1, rfl, rfl⟩
  go_wp2_with (go_at_call 6; refine (zstr a2 len2 cap2 sR _ V2.out).mono ?_)
  rintro e wz ⟨y2, rfl, rfl⟩
  go_wp2_with (go_at_call 7; refine (cloneS a0 len0 cap0 sA _ V0.out (by omega)).mono ?_)
  all_goals first | (go_ret; exact ⟨rfl, Below.refl _ _⟩) | skip
  rintro e wa ⟨A1, c1, rfl, hl, hb⟩
  have LA := Lib.hid hl; have BA := Lib.hid hb
  have V1a := Lib.hid ((V1.out.below hb).more hb.size); have V2a := Lib.hid ((V2.out.below hb).more hb.size)
  clear hl hb V0 V1 V2
  go_wp2_with (go_at_call 7; refine (cloneS a1 len1 cap1 sB _ V1a.out (by omega)).mono ?_)
  rintro e wb ⟨A2, c2, rfl, hl, hb⟩
  have LB := Lib.hid hl; have LA2 := Lib.hid ((LA.out.below hb).more hb.size); have V2b := Lib.hid ((V2a.out.below hb).more hb.size); have BB := Lib.hid (BA.out.trans (hb.mono BA.out.size))
  clear hl hb LA BA V1a V2a
  go_wp2_with (go_at_call 7; refine (cloneS a2 len2 cap2 sR _ V2b.out (by omega)).mono ?_)
  rintro e wc ⟨A3, c3, rfl, hl, hb⟩
  have LR := Lib.hid hl; have LB3 := Lib.hid ((LB.out.below hb).more hb.size); have LA3 := Lib.hid ((LA2.out.below hb).more hb.size); have BC := Lib.hid (BB.out.trans (hb.mono BB.out.size))
  clear hl hb LB LA2 V2b BB
  go_wp2_with (go_at_call 8; refine (plain A1 len0 c1 sA _ LA3.out (by omega)).mono ?_)
  rintro e wd ⟨gA, rfl, hgA, hsy, hb⟩
  have SA := Lib.hid hsy; have LRd := Lib.hid ((LR.out.below hb).more hb.size); have LBd := Lib.hid (LB3.out.below hb); have LAd := Lib.hid (LA3.out.below hb); have BD := Lib.hid (BC.out.trans (hb.mono BC.out.size))
  have hsd := hb.size
  have hgAl := hsy.lt
  clear hsy hb LR LB3 LA3
  go_wp2_with (go_at_call 8; refine (plain A2 len1 c2 sB _ (LBd.out.more hsd) (by omega)).mono ?_)
  rintro e we ⟨gB, rfl, hgB, hsy, hb⟩
  have SB := Lib.hid hsy; have SA2 := Lib.hid (SA.out.below hb hgAl); have LRe := Lib.hid ((LRd.out.below hb).more hb.size); have LBe := Lib.hid (LBd.out.below (hb.mono hsd)); have LAe := Lib.hid (LAd.out.below (hb.mono hsd)); have BE := Lib.hid (BD.out.trans (hb.mono BD.out.size))
  have hse := hb.size
  have hgBl := hsy.lt
  clear hsy hb SA LRd LBd LAd
  have hsc := BC.out.size
  have hIe := HI.out.below BE.out HI.out.pos
  have HIe := Lib.hid hIe
  have hwp := HI.out.pos
  clear hIe
  go_wp2
  obtain ⟨B, hB⟩ : ∃ B, B = wc.heap.size := ⟨_, rfl⟩
  obtain ⟨o, ho⟩ : ∃ o, o = we.heap.size := ⟨_, rfl⟩
  obtain ⟨wf, hwf⟩ : ∃ wf, wf = (we.alloc (.cells #[.slice (some ⟨gA, 0, none⟩) len0 len0, .slice none 0 0, .slice (some ⟨gB, 0, none⟩) len1 len1] 26)).alloc (.cells #[.slice (some ⟨we.heap.size, 0, none⟩) 3 3] 30) := ⟨_, rfl⟩
  rw [← hwf]
  have hgf : we.grownBy wf none := by rw [hwf]; exact only_alloc (only_alloc (World.grownBy.refl _ _) _) _
  have hko : Blk wf we.heap.size 26 #[.slice (some ⟨gA, 0, none⟩) len0 len0, .slice none 0 0, .slice (some ⟨gB, 0, none⟩) len1 len1] := by rw [hwf]; exact (Blk.new we 26 _).alloc _
  have hk7 : Blk wf (we.heap.size + 1) 30 #[.slice (some ⟨we.heap.size, 0, none⟩) 3 3] := by
    rw [hwf]
    have := Blk.new (we.alloc (.cells #[.slice (some ⟨gA, 0, none⟩) len0 len0, .slice none 0 0, .slice (some ⟨gB, 0, none⟩) len1 len1] 26)) 30 #[.slice (some ⟨we.heap.size, 0, none⟩) 3 3]
    simpa using this
  have HBASE : Hid (∀ (W w8 w9 : World) (br bn : Nat) (mo : Option Nat), (W = wf ∨ W = wf.drew ∨ W = wf.drew.drew) → Below W.heap.size W w8 → Ren w9 br we.heap.size 3 3 mo bn → w8.heap.size ≤ br → w8.heap.size ≤ bn → w8.grownBy w9 none →
      LSt w w9 B gA gB o br bn len0 len1 mo A1 c1 sA A2 c2 sB ∧ Far w B gA gB o br bn) := Lib.hid (fun W w8 w9 br bn mo hW h8 hr hbr hbn h9 => by
    have hg8 : wf.grownBy w8 none := by
      have := only_of_below h8 none
      rcases hW with rfl | rfl | rfl <;> exact ⟨this.os, this.tape, this.output, this.size, this.block⟩
    have hg : we.grownBy w9 none := grown_tr hgf (grown_tr hg8 h9)
    have hgf9 : wf.grownBy w9 none := grown_tr hg8 h9
    have hs8 : wf.heap.size ≤ w8.heap.size := hg8.size
    have hkl := hk7.lt
    have hko9 := hko.grown hgf9 (by simp)
    have keepL : ∀ l : Lv, l.ok we wc.heap.size → l.ok w9 wc.heap.size := fun l h =>
      ⟨h.1.keep fun p hp => World.cell?_of_block (hg.block p.block (by omega) (by simp)), h.2⟩
    subst hB; subst ho
    refine ⟨⟨linked_plain (SA2.out.grown hg (by simp)), linked_plain (SB.out.grown hg (by simp)), ⟨hko9.lt, by omega, ⟨_, hko9.cell 0⟩⟩, ⟨hko9.lt, by omega, ⟨_, hko9.cell 2⟩⟩, hr, HIe.out.grown hg (by simp), keepL _ LAe.out, keepL _ LBe.out, BE.out.grown hg BE.out.size (fun k hk => by cases hk)⟩, ⟨hsc, by omega, hgA, by omega, by omega, by omega, by omega⟩⟩)
  have HLR : Hid (∀ W : World, (W = wf ∨ W = wf.drew ∨ W = wf.drew.drew) → Lv.ok W W.heap.size ⟨A3, len2, c3, sR⟩) := Lib.hid (fun W hW => by
    have h : Lv.ok wf wf.heap.size ⟨A3, len2, c3, sR⟩ := ⟨(LRe.out.1.keep fun p hp => World.cell?_of_block (hgf.block p.block hp (by simp))).more hgf.size, LRe.out.2⟩
    rcases hW with rfl | rfl | rfl <;> exact h)
  have H7 : Hid (∀ W w8 : World, (W = wf ∨ W = wf.drew ∨ W = wf.drew.drew) → Below W.heap.size W w8 → w8.cell? ⟨we.heap.size + 1, 0, none⟩ = some (.slice (some ⟨we.heap.size, 0, none⟩) 3 3)) := Lib.hid (fun W w8 hW h8 => by
    have hl := hk7.lt
    have h0 : wf.cell? ⟨we.heap.size + 1, 0, none⟩ = some (.slice (some ⟨we.heap.size, 0, none⟩) 3 3) := hk7.cell 0
    rcases hW with rfl | rfl | rfl <;> exact (h8.cell (p := ⟨we.heap.size + 1, 0, none⟩) hl).trans h0)
  have j7 : wf.cell? ⟨we.heap.size + 1, 0, none⟩ = some (.slice (some ⟨we.heap.size, 0, none⟩) 3 3) := hk7.cell 0
  clear hwf hgf hko hk7 SA2 SB LRe LBe LAe
  go_cut [8] (fun v wx => ∃ br bn mo, v = .pointer (some ⟨br, 0, none⟩) ∧ LSt w wx B gA gB o br bn len0 len1 mo A1 c1 sA A2 c2 sB ∧ Far w B gA gB o br bn)
  case first =>
    go_region_with (first
      | (go_at_call 10; refine (reserved A3 len2 c3 sR _ (HLR.out _ (by first | exact Or.inl rfl | exact Or.inr (Or.inl rfl) | exact Or.inr (Or.inr rfl))) (by omega)).mono ?_; rintro e w8 ⟨mo, rfl, hb8⟩; have j8 := H7.out _ w8 (by first | exact Or.inl rfl | exact Or.inr (Or.inl rfl) | exact Or.inr (Or.inr rfl)) hb8; have HB8 := Lib.hid hb8; clear hb8)
      | (go_at_call 9; refine (newR we.heap.size 3 3 _ _ (by omega)).mono ?_; rintro e w9 ⟨br, bn, rfl, hren, hbr, hbn, hg9⟩))
    all_goals
      go_wp2_with fail
      go_meet
      exact ⟨br, bn, mo, rfl, HBASE.out _ _ _ br bn mo (by first | exact Or.inl rfl | exact Or.inr (Or.inl rfl) | exact Or.inr (Or.inr rfl)) HB8.out hren hbr hbn ⟨hg9.os, hg9.tape, hg9.output, hg9.size, hg9.block⟩⟩
  case rest =>
    obtain ⟨br, bn, mo, rfl, hls, hfar⟩ := hcut
    have HLN := Lib.hid hls; have HF := Lib.hid hfar
    clear hls hfar HBASE HLR H7
    go_wp2
    go_loopw [9] (fun t wx => ∃ k : Nat, t = .int .i64 k ∧ k ≤ len0 ∧ LSt w wx B gA gB o br bn len0 len1 mo A1 c1 sA A2 c2 sB) (fun t _ => len0 - (intOf t).toNat)
    case atStart => exact ⟨0, rfl, by omega, HLN.out⟩
    case round =>
      clear HLN
      obtain ⟨k, rfl, hk, hls⟩ := hrel
      have HLS := Lib.hid hls
      clear hls
      by_cases hlt : k < len0
      · obtain ⟨b, off, e1, hbk, hc⟩ := reads_any HLS.out.lA.1 (by show 0 < len0; omega)
        simp only at e1
        subst e1
        obtain ⟨x, hx⟩ : ∃ x, sA[k]? = some x := ⟨_, List.getElem?_eq_getElem (by have : sA.length = len0 := HLS.out.lA.2.2.2.1; omega)⟩
        have hxx : sA.getD k ByteArray.empty = x := by rw [List.getD_eq_getElem?_getD, hx]; rfl
        have HX := Lib.hid hx; have HXX := Lib.hid hxx
        have c0 := hc k x hx
        have qx : (x.toList != x.toList) = false := by simp
        have HSW : Hid (∀ W : World, (W = wr ∨ W = wr.drew ∨ W = wr.drew.drew) → LSt w W B gA gB o br bn len0 len1 mo (some ⟨b, off, none⟩) c1 sA A2 c2 sB) := Lib.hid (fun W hW => by
          have h := HLS.out
          rcases hW with rfl | rfl | rfl
          · exact h
          · exact h.drew
          · exact h.drew.drew)
        have HCX : Hid (∀ W : World, LSt w W B gA gB o br bn len0 len1 mo (some ⟨b, off, none⟩) c1 sA A2 c2 sB → W.cell? ⟨b, off + k, none⟩ = some (.string x)) := Lib.hid (fun W h => by
          obtain ⟨b', off', e', _, hc'⟩ := reads_any h.lA.1 (by show 0 < len0; omega)
          simp only at e'
          obtain ⟨rfl, rfl⟩ : b = b' ∧ off = off' := by injection e' with e'; injection e' with e1 e2; exact ⟨e1, e2⟩
          exact hc' k x HX.out)
        have HW32 := Lib.hid (show IntKind.u32.wrap (k : Int) = k by first | (rw [IntKind.wrap_u32]; omega) | (simp [IntKind.wrap, IntKind.bits, IntKind.signed]; omega))
        clear hx hxx hc
        go_wp2
        go_region_with (go_at_call 11; rw [HW32.out]; refine (askA (HSW.out _ (by first | exact Or.inl rfl | exact Or.inr (Or.inl rfl) | exact Or.inr (Or.inr rfl))) HF.out hlt (by omega) HXX.out).mono ?_; rintro e w5 ⟨rfl, hl5⟩; have c5 := HCX.out w5 hl5; have HL5 := Lib.hid hl5; clear hl5)
        all_goals
          go_wp2
          go_roundw
          case rel => exact ⟨k + 1, by go_num, by omega, HL5.out⟩
          case measure => simp [intOf]; omega
      · obtain rfl : len0 = k := by omega
        have HLN := Lib.hid HLS.out
        clear HLS
        go_wp2
        go_loopw [10] (fun t wx => ∃ k : Nat, t = .int .i64 k ∧ k ≤ len1 ∧ LSt w wx B gA gB o br bn len0 len1 mo A1 c1 sA A2 c2 sB) (fun t _ => len1 - (intOf t).toNat)
        case atStart => exact ⟨0, rfl, by omega, HLN.out⟩
        case round =>
          clear HLN
          obtain ⟨k, rfl, hk, hls⟩ := hrel
          have HLS := Lib.hid hls
          clear hls
          by_cases hlt : k < len1
          · obtain ⟨b, off, e1, hbk, hc⟩ := reads_any HLS.out.lB.1 (by show 0 < len1; omega)
            simp only at e1
            subst e1
            obtain ⟨x, hx⟩ : ∃ x, sB[k]? = some x := ⟨_, List.getElem?_eq_getElem (by have : sB.length = len1 := HLS.out.lB.2.2.2.1; omega)⟩
            have hxx : sB.getD k ByteArray.empty = x := by rw [List.getD_eq_getElem?_getD, hx]; rfl
            have HX := Lib.hid hx; have HXX := Lib.hid hxx
            have c0 := hc k x hx
            have qx : (x.toList != x.toList) = false := by simp
            have HSW : Hid (∀ W : World, (W = wr ∨ W = wr.drew ∨ W = wr.drew.drew) → LSt w W B gA gB o br bn len0 len1 mo A1 c1 sA (some ⟨b, off, none⟩) c2 sB) := Lib.hid (fun W hW => by
              have h := HLS.out
              rcases hW with rfl | rfl | rfl
              · exact h
              · exact h.drew
              · exact h.drew.drew)
            have HCX : Hid (∀ W : World, LSt w W B gA gB o br bn len0 len1 mo A1 c1 sA (some ⟨b, off, none⟩) c2 sB → W.cell? ⟨b, off + k, none⟩ = some (.string x)) := Lib.hid (fun W h => by
              obtain ⟨b', off', e', _, hc'⟩ := reads_any h.lB.1 (by show 0 < len1; omega)
              simp only at e'
              obtain ⟨rfl, rfl⟩ : b = b' ∧ off = off' := by injection e' with e'; injection e' with e1 e2; exact ⟨e1, e2⟩
              exact hc' k x HX.out)
            have HW32 := Lib.hid (show IntKind.u32.wrap (k : Int) = k by first | (rw [IntKind.wrap_u32]; omega) | (simp [IntKind.wrap, IntKind.bits, IntKind.signed]; omega))
            clear hx hxx hc
            go_wp2
            go_region_with (go_at_call 11; rw [HW32.out]; refine (askB (HSW.out _ (by first | exact Or.inl rfl | exact Or.inr (Or.inl rfl) | exact Or.inr (Or.inr rfl))) HF.out hlt (by omega) HXX.out).mono ?_; rintro e w5 ⟨rfl, hl5⟩; have c5 := HCX.out w5 hl5; have HL5 := Lib.hid hl5; clear hl5)
            all_goals
              go_wp2
              go_roundw
              case rel => exact ⟨k + 1, by go_num, by omega, HL5.out⟩
              case measure => simp [intOf]; omega
          · obtain rfl : len1 = k := by omega
            go_wp2
            go_ret
            exact ⟨rfl, HLS.out.bel⟩

/-! ### THE ROW's STEP -/
set_option maxRecDepth 100000 in
theorem lifted (os : Os) (started : os.Started) (H : Type) (enc : TypeId × Value → H) :
    ReturnsInHanded {} Tryd.checked os 3 .any (fun w args => (Rows.fnNumberRenamerFreshKeepsOriginalNamesSpec.pre enc Tryd.prog Tryd.f3 [] false w args ∧ laidMetH Tryd.prog Rows.fnNumberRenamerFreshKeepsOriginalNamesRow.laid w) ∧ sizedMet enc Tryd.prog Tryd.f3 (OpenSpec.ofChange Rows.fnNumberRenamerFreshKeepsOriginalNamesSpec) false w args)
      (Rows.fnNumberRenamerFreshKeepsOriginalNamesSpec.post enc Tryd.prog Tryd.f3 false true false false) := by
  refine returnsInHanded_of_change_and (C := Tryd.checked) (X := fun w _ => laidMetH Tryd.prog Rows.fnNumberRenamerFreshKeepsOriginalNamesRow.laid w) (fun _ _ _ hh h => h.of_heap hh) own started (by kernel_rfl) Tryd.func3
    (ChangeSpec.witness_shaped (enc := enc) (C := Tryd.checked) (os := os) (X := fun w _ => laidMetH Tryd.prog Rows.fnNumberRenamerFreshKeepsOriginalNamesRow.laid w) false (World.laidAll Tryd.prog os Rows.fnNumberRenamerFreshKeepsOriginalNamesRow.laid) #[.slice none 0 0, .slice none 0 0, .slice none 0 0] 8 (World.laidAll_os _ _ _)
      (World.shaped_of_ZipB (by kernel_rfl) (by kernel_rfl)) (by kernel_rfl) (by kernel_rfl) (by kernel_rfl)
      (by rw [MakeChecks.laidMetH_plain _ _ _ (by kernel_rfl)]; exact laidMet_laidAll _ (by kernel_rfl) (by kernel_rfl))) ?_
  intro W base args ds gs before hval0 hW _ _ hL _
  have hval : ∀ (j : Nat) t v, Tryd.f3.params[j]? = some t → args[j]? = some v → Value.okWide Tryd.prog W .any base t v := hval0
  have hW' := hW
  obtain ⟨p, q, hA0, hV, rfl, hfz, hnd⟩ := hW
  have hA : DataW.TrodAll enc Tryd.prog W 0 (fun _ => true) true Tryd.f3.params.toList args.toList ds p := hA0
  rw [Tryd.params3] at hA hval
  obtain ⟨v0, vs0, d0, ds0, p0, q0, hargs, rfl, rfl, h0, r0⟩ := trodAll_cons hA
  obtain ⟨v1, vs1, d1, ds1, p1, q1, rfl, rfl, rfl, h1, r1⟩ := trodAll_cons r0
  obtain ⟨v2, vs2, d2, ds2, p2, q2, rfl, rfl, rfl, h2, r2⟩ := trodAll_cons r1
  obtain ⟨rfl, rfl, rfl⟩ := trodAll_nil r2
  obtain rfl : args = #[v0, v1, v2] := by cases args; simp_all
  have hV1 : DataW.TrodVars enc Tryd.prog W (fun _ => true) ["github.com/evanw/esbuild/internal/ast.InvalidRef"] gs q := hV
  obtain ⟨g1, rfl⟩ : ∃ g, gs = [g] := by
    match gs, hV1 with
    | [g], _ => exact ⟨g, rfl⟩
    | [], h => exact h.elim
    | _ :: _ :: _, ⟨_, _, _, _, _, _, _, _, _, _, h, _⟩ => exact h.elim
  have k0 := h0
  have lt0 : ∀ x ∈ p0, x.block < W.heap.size := by obtain ⟨m, hm⟩ := k0; exact DataW.trod_lt m _ _ _ hm
  have k1 := h1
  have lt1 : ∀ x ∈ p1, x.block < W.heap.size := by obtain ⟨m, hm⟩ := k1; exact DataW.trod_lt m _ _ _ hm
  have k2 := h2
  have lt2 : ∀ x ∈ p2, x.block < W.heap.size := by obtain ⟨m, hm⟩ := k2; exact DataW.trod_lt m _ _ _ hm
  obtain ⟨a0, len0, cap0, rfl⟩ := okWide_slice Tryd.underlying22 (hval 0 22 v0 rfl rfl)
  obtain ⟨z0, w0⟩ : ∃ zs, IsStrs W a0 len0 cap0 zs := by
    obtain ⟨fuel, hf⟩ := h0
    rcases open_strings Tryd.underlying22 Tryd.underlying9 (by kernel_rfl) hf with ⟨hcs, _⟩ | ⟨x, l, c, zs, hcs, _, hl, hm, hz, _, hcell, hwz⟩
    · simp [Value.cells] at hcs
      obtain ⟨rfl, rfl, rfl⟩ := hcs
      exact ⟨[], .inl ⟨rfl, rfl, rfl, rfl⟩⟩
    · simp [Value.cells] at hcs
      obtain ⟨rfl, rfl, rfl⟩ := hcs
      exact ⟨zs, .inr ⟨_, rfl, hl, hm, by simpa using hz, hcell, hwz⟩⟩
  obtain ⟨a1, len1, cap1, rfl⟩ := okWide_slice Tryd.underlying22 (hval 1 22 v1 rfl rfl)
  obtain ⟨z1, w1⟩ : ∃ zs, IsStrs W a1 len1 cap1 zs := by
    obtain ⟨fuel, hf⟩ := h1
    rcases open_strings Tryd.underlying22 Tryd.underlying9 (by kernel_rfl) hf with ⟨hcs, _⟩ | ⟨x, l, c, zs, hcs, _, hl, hm, hz, _, hcell, hwz⟩
    · simp [Value.cells] at hcs
      obtain ⟨rfl, rfl, rfl⟩ := hcs
      exact ⟨[], .inl ⟨rfl, rfl, rfl, rfl⟩⟩
    · simp [Value.cells] at hcs
      obtain ⟨rfl, rfl, rfl⟩ := hcs
      exact ⟨zs, .inr ⟨_, rfl, hl, hm, by simpa using hz, hcell, hwz⟩⟩
  obtain ⟨a2, len2, cap2, rfl⟩ := okWide_slice Tryd.underlying22 (hval 2 22 v2 rfl rfl)
  obtain ⟨z2, w2⟩ : ∃ zs, IsStrs W a2 len2 cap2 zs := by
    obtain ⟨fuel, hf⟩ := h2
    rcases open_strings Tryd.underlying22 Tryd.underlying9 (by kernel_rfl) hf with ⟨hcs, _⟩ | ⟨x, l, c, zs, hcs, _, hl, hm, hz, _, hcell, hwz⟩
    · simp [Value.cells] at hcs
      obtain ⟨rfl, rfl, rfl⟩ := hcs
      exact ⟨[], .inl ⟨rfl, rfl, rfl, rfl⟩⟩
    · simp [Value.cells] at hcs
      obtain ⟨rfl, rfl, rfl⟩ := hcs
      exact ⟨zs, .inr ⟨_, rfl, hl, hm, by simpa using hz, hcell, hwz⟩⟩
  clear hA0 hval0
  refine (walk a0 len0 cap0 z0 a1 len1 cap1 z1 a2 len2 cap2 z2 W w0 w1 w2 (inv_of hL)).mono fun e W' ⟨he, bel⟩ => ?_
  subst he
  exact ⟨_, rfl, _, _, _, [], _, q, hW', trodAll_mk1 (shut_bool Tryd.underlying4 _), (trodAll_cons_mk (Below.trod laidOut (by kernel_rfl) (of_decide_eq_true (by kernel_rfl)) k0 bel lt0) (trodAll_cons_mk (Below.trod laidOut (by kernel_rfl) (of_decide_eq_true (by kernel_rfl)) k1 bel lt1) (trodAll_cons_mk (Below.trod laidOut (by kernel_rfl) (of_decide_eq_true (by kernel_rfl)) k2 bel lt2) trodAll_mk0))), Below.trodVars laidOut bel (by kernel_rfl) hV1, bel.frame _, fun h => by cases h⟩

theorem over : Rows.fnNumberRenamerFreshKeepsOriginalNamesRow.holds Tryd.pinned (OpenSpec.ofChange Rows.fnNumberRenamerFreshKeepsOriginalNamesSpec) :=
  OpenClaim.holds_of_wide 3 Tryd.f3 rfl rfl rfl rfl rfl rfl rfl ⟨rfl, rfl, rfl, rfl, rfl⟩ rfl rfl rfl rfl rfl (by kernel_rfl) Tryd.func3 (by kernel_rfl)
    (of_decide_eq_true (by kernel_rfl)) (by unfold Func.isWrapper; first | (rw [if_pos (by decide +kernel)]; kernel_rfl) | (rw [if_neg (by decide +kernel)]; exact ⟨rfl, rfl⟩))
    (fun os started H enc _ => lifted os started H enc)

theorem proved : Rows.FnNumberRenamerFreshKeepsOriginalNamesCardSaid :=
  Claim7.holds_tied_plain_at .later [] [.data] true (true, "47a94166668715c549b2f44e931c091203db12c0b29e38e4943cc65de94bd5aa") false over (fun _ h => by cases h) (by kernel_rfl) (fun _ h => by cases h) fnNumberRenamerFreshKeepsOriginalNames_row_tie rfl ⟨rfl, rfl⟩ (by kernel_rfl) rfl
    (fun f fn hf hfn => by
      obtain rfl : f = 3 := Option.some.inj ((show Tryd.prog.funcNamed "github.com/evanw/esbuild/n011_29.FnNumberRenamerFreshKeepsOriginalNames" = some 3 by kernel_rfl).symm.trans hf) |>.symm
      obtain rfl : fn = Tryd.f3 := (Option.some.inj (Tryd.func3.symm.trans hfn)).symm
      exact ⟨by kernel_rfl, fun j t ht => by
        rw [Tryd.params3] at ht
        have hm : t ∈ [22, 22, 22] := by simpa using Array.mem_of_getElem? ht
        have hall : ([22, 22, 22].all fun u => !Tryd.prog.wantsStandIn u) = true := by kernel_rfl
        exact (show Tryd.prog.wantsStandIn t = false by simpa using List.all_eq_true.1 hall t hm)⟩)
    (by kernel_rfl)
#print axioms proved
end Go.Proofs.YtmnijgjadlfaaaaDoor.fnNumberRenamerFreshKeepsOriginalNames