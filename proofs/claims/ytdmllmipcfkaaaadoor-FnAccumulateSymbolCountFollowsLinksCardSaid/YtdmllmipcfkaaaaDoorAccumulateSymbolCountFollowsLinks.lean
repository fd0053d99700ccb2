/-
  PROVED: whatever the input, accumulating through links answers as accumulating the roots; the walk steps through the law with one contract of each callee.
-/
import Derived.Test.YtdmllmipcfkaaaaDoorRows
import Derived.Test.YtdmllmipcfkaaaaDoorCards
import Derived.Test.YtdmllmipcfkaaaaDoorTie
import Derived.WalkKit
import Derived.ProofKit
import Derived.Deep.QuietTactic
import Derived.BigQuiet
import Derived.IntWalk
import Derived.Deep.RegionWith
import Derived.Outline
import Derived.LoopTactic
import Derived.WalkSpells
import Derived.Deep.Light
import Derived.Test.YtdmllmipcfkaaaaDoorInw
import Derived.Test.YtdmllmipcfkaaaaDoorZbo
import Derived.OpenShut
import Derived.ShutString
import Derived.ChangeOld
import Derived.Below
import Derived.Carry
import Derived.OpenVars
import Derived.Handy
import Derived.Lay
import Derived.SevenTiedAt
namespace Go.Proofs.YtdmllmipcfkaaaaDoor.fnAccumulateSymbolCountFollowsLinks
open Go.ChangeShapes Go.WideShapes Go.ChangeAt Go.RowKit
open Go.ChangeMaps (open_string shut_string)
set_option linter.unusedVariables false
set_option linter.unusedSimpArgs false

theorem own : ownKnob Tryd.prog.godebug = none := by kernel_rfl
theorem laidOut : laidOutB Tryd.pinned.checked.prog = true := by kernel_rfl

/-- What the walk is told of a slice of integers that came in. -/
def IsRow (k : IntKind) (w : World) (a : Option Addr) (len cap : Nat) (zs : List Int) : Prop :=
  (a = none ∧ len = 0 ∧ cap = 0 ∧ zs = []) ∨
  ∃ x, a = some x ∧ len ≤ cap ∧ cap ≤ maxLen ∧ zs.length = cap ∧ (∀ i, i < zs.length → w.cell? (x.add i) = some (.int k (zs.getD i 0))) ∧ ∀ n ∈ zs, (Lit.int k n).wf = true
theorem isrow_reads {k : IntKind} {w : World} {a : Option Addr} {len cap : Nat} {zs : List Int} (h : IsRow k w a len cap zs) : Reads w w.heap.size 1 a len ((zs.take len).map (Value.int k)) ∧ (a = none → len = 0) ∧ len ≤ maxLen := by
  rcases h with ⟨rfl, rfl, rfl, rfl⟩ | ⟨x, rfl, hl, hm, hz, hc, _⟩
  · exact ⟨Reads.none_, fun _ => rfl, by unfold maxLen; omega⟩
  · refine ⟨⟨by simp; omega, fun hn => ⟨x, rfl, ?_, fun j u hu => ?_⟩⟩, (fun h => by cases h), by omega⟩
    · have := hc 0 (by omega)
      exact World.block_lt_of_cell? w x (by simpa [Addr.add] using this)
    · have hj : j < len := by
        have := (List.getElem?_eq_some_iff.1 hu).1
        simp at this; omega
      rw [hc j (by omega)]
      rw [List.getElem?_map, List.getElem?_take_of_lt hj, List.getElem?_eq_getElem (by omega)] at hu
      rw [List.getD_eq_getElem?_getD, List.getElem?_eq_getElem (by omega)]
      exact hu


theorem isrow_wf {k : IntKind} {w : World} {a : Option Addr} {len cap : Nat} {zs : List Int} (h : IsRow k w a len cap zs) : ∀ m ∈ zs.take len, (Lit.int k m).wf = true := fun m hm => by
  rcases h with ⟨_, _, _, rfl⟩ | ⟨_, _, _, _, _, _, hw⟩
  · simp at hm
  · exact hw m (List.mem_of_mem_take hm)
/-! ### STEP 1: THE WALK -/
set_option maxHeartbeats 8000000 in
set_option maxRecDepth 100000 in
theorem walk (a0 : Option Addr) (len0 cap0 : Nat) (z0 : List Int) (a1 : Option Addr) (len1 cap1 : Nat) (z1 : List Int) (a2 : Option Addr) (len2 cap2 : Nat) (z2 : List Int) (a3 : Int) (a4 : Option Addr) (len4 cap4 : Nat) (z4 : List Int) (a5 : Option Addr) (len5 cap5 : Nat) (z5 : List Int) (a6 : Option Addr) (len6 cap6 : Nat) (z6 : List Int) (a7 : Int) (w : World) (w0 : IsRow .u8 w a0 len0 cap0 z0) (w1 : IsRow .u8 w a1 len1 cap1 z1) (w2 : IsRow .u32 w a2 len2 cap2 z2) (w3 : (Lit.int .u32 a3).wf = true) (w4 : IsRow .u32 w a4 len4 cap4 z4) (w5 : IsRow .u32 w a5 len5 cap5 z5) (w6 : IsRow .u32 w a6 len6 cap6 z6) (w7 : (Lit.int .u32 a7).wf = true) (hI : Inv w) (hL : laidMetH Tryd.prog Rows.fnAccumulateSymbolCountFollowsLinksRow.laid w) :
    Calls Tryd.prog 3 #[.slice a0 len0 cap0, .slice a1 len1 cap1, .slice a2 len2 cap2, .int .u32 a3, .slice a4 len4 cap4, .slice a5 len5 cap5, .slice a6 len6 cap6, .int .u32 a7] w fun e w' => e = .returned (.bool true) ∧ Below w.heap.size w w' := by
  obtain ⟨hr0, hA0, hl0⟩ := isrow_reads w0
  have hw0 := isrow_wf w0
  generalize z0.take len0 = x0 at hr0 hw0
  have hb0 : ∀ m ∈ x0, 0 ≤ m ∧ m ≤ 255 := fun m hm => by
    have := hw0 m hm
    simp [Lit.wf, IntKind.min, IntKind.max, IntKind.signed, IntKind.bits] at this
    omega
  have HR0 := Lib.hid hr0; have HA0 := Lib.hid hA0; have HB0 := Lib.hid hb0; have HL0 := Lib.hid hl0
  have l0 : len0 ≤ 9223372036854775807 := hl0
  clear hr0 hA0 hb0 hw0 hl0 w0
  obtain ⟨hr1, hA1, hl1⟩ := isrow_reads w1
  have hw1 := isrow_wf w1
  generalize z1.take len1 = x1 at hr1 hw1
  have hb1 : ∀ m ∈ x1, 0 ≤ m ∧ m ≤ 255 := fun m hm => by
    have := hw1 m hm
    simp [Lit.wf, IntKind.min, IntKind.max, IntKind.signed, IntKind.bits] at this
    omega
  have HR1 := Lib.hid hr1; have HA1 := Lib.hid hA1; have HB1 := Lib.hid hb1; have HL1 := Lib.hid hl1
  have l1 : len1 ≤ 9223372036854775807 := hl1
  clear hr1 hA1 hb1 hw1 hl1 w1
  obtain ⟨hr2, hA2, hl2⟩ := isrow_reads w2
  have hw2 := isrow_wf w2
  generalize z2.take len2 = x2 at hr2 hw2
  have hb2 : ∀ m ∈ x2, 0 ≤ m ∧ m ≤ 4294967295 := fun m hm => by
    have := hw2 m hm
    simp [Lit.wf, IntKind.min, IntKind.max, IntKind.signed, IntKind.bits] at this
    omega
  have HR2 := Lib.hid hr2; have HA2 := Lib.hid hA2; have HB2 := Lib.hid hb2; have HL2 := Lib.hid hl2
  have l2 : len2 ≤ 9223372036854775807 := hl2
  clear hr2 hA2 hb2 hw2 hl2 w2
  obtain ⟨hr4, hA4, hl4⟩ := isrow_reads w4
  have hw4 := isrow_wf w4
  generalize z4.take len4 = x4 at hr4 hw4
  have hb4 : ∀ m ∈ x4, 0 ≤ m ∧ m ≤ 4294967295 := fun m hm => by
    have := hw4 m hm
    simp [Lit.wf, IntKind.min, IntKind.max, IntKind.signed, IntKind.bits] at this
    omega
  have HR4 := Lib.hid hr4; have HA4 := Lib.hid hA4; have HB4 := Lib.hid hb4; have HL4 := Lib.hid hl4
  have l4 : len4 ≤ 9223372036854775807 := hl4
  clear hr4 hA4 hb4 hw4 hl4 w4
  obtain ⟨hr5, hA5, hl5⟩ := isrow_reads w5
  have hw5 := isrow_wf w5
  generalize z5.take len5 = x5 at hr5 hw5
  have hb5 : ∀ m ∈ x5, 0 ≤ m ∧ m ≤ 4294967295 := fun m hm => by
    have := hw5 m hm
    simp [Lit.wf, IntKind.min, IntKind.max, IntKind.signed, IntKind.bits] at this
    omega
  have HR5 := Lib.hid hr5; have HA5 := Lib.hid hA5; have HB5 := Lib.hid hb5; have HL5 := Lib.hid hl5
  have l5 : len5 ≤ 9223372036854775807 := hl5
  clear hr5 hA5 hb5 hw5 hl5 w5
  obtain ⟨hr6, hA6, hl6⟩ := isrow_reads w6
  have hw6 := isrow_wf w6
  generalize z6.take len6 = x6 at hr6 hw6
  have hb6 : ∀ m ∈ x6, 0 ≤ m ∧ m ≤ 4294967295 := fun m hm => by
    have := hw6 m hm
    simp [Lit.wf, IntKind.min, IntKind.max, IntKind.signed, IntKind.bits] at this
    omega
  have HR6 := Lib.hid hr6; have HA6 := Lib.hid hA6; have HB6 := Lib.hid hb6; have HL6 := Lib.hid hl6
  have l6 : len6 ≤ 9223372036854775807 := hl6
  clear hr6 hA6 hb6 hw6 hl6 w6
  simp [Lit.wf, IntKind.min, IntKind.max, IntKind.signed, IntKind.bits] at w3 w7
  obtain ⟨sc, rfl⟩ := Int.eq_ofNat_of_zero_le w3.1
  have HI := Lib.hid hI
  have hpos := hI.pos
  clear hI w7 hL
  go_enter Tryd.func3, Tryd.ntmps3
  go_wp2_with (go_at_call 4; refine (zbytes a0 len0 cap0 a1 len1 cap1 a2 len2 cap2 sc a4 len4 cap4 a5 len5 cap5 a6 len6 cap6 a7 _ l0 l1 l2 l4 l5 l6).mono ?_)
  rintro e wz ⟨bz, rfl, rfl⟩
  cases bz
  · go_wp2
    go_ret
    exact ⟨rfl, Below.refl _ _⟩
  by_cases g0 : 4096 < len0
  · go_wp2_with fail
    go_ret
    exact ⟨rfl, Below.refl _ _⟩
  by_cases g1 : 4096 < len1
  · go_wp2_with fail
    go_ret
    exact ⟨rfl, Below.refl _ _⟩
  by_cases g2 : 4096 < len2
  · go_wp2_with fail
    go_ret
    exact ⟨rfl, Below.refl _ _⟩
  by_cases g4 : 4096 < len4
  · go_wp2_with fail
    go_ret
    exact ⟨rfl, Below.refl _ _⟩
  by_cases g5 : 4096 < len5
  · go_wp2_with fail
    go_ret
    exact ⟨rfl, Below.refl _ _⟩
  by_cases g6 : 4096 < len6
  · go_wp2_with fail
    go_ret
    exact ⟨rfl, Below.refl _ _⟩
  by_cases g3 : 4096 < sc
  · go_wp2_with fail
    go_ret
    exact ⟨rfl, Below.refl _ _⟩
  by_cases gn : len0 = 0
  · go_wp2_with fail
    go_ret
    exact ⟨rfl, Below.refl _ _⟩
  have hp0 : 0 < len0 := by omega
  clear w3 l0 l1 l2 l4 l5 l6 gn
  have RX := Lib.hid (rtF_roots x4 len4 len0 (fun x hx => (HB4.out x hx).1))
  go_wp2_with (go_at_call 5; refine (roots_any a4 len4 cap4 x4 len0 _ HR4.out (by omega) (by omega) HB4.out).mono ?_)
  rintro e wa ⟨q, rfl, hq, hrt, hba⟩
  have BA := Lib.hid hba; have RTA := Lib.hid hrt
  clear hba hrt
  go_wp2_with (go_at_call 7; refine (build_true a0 len0 cap0 x0 a1 len1 cap1 x1 a2 len2 cap2 x2 sc a4 len4 cap4 x4 wa ((HR0.out.below BA.out).more BA.out.size) ((HR1.out.below BA.out).more BA.out.size) ((HR2.out.below BA.out).more BA.out.size) ((HR4.out.below BA.out).more BA.out.size) (by omega) (by omega) (by omega) (by omega) (by omega) HB0.out HB2.out HB4.out).mono ?_)
  rintro e wba ⟨oa, ga, rfl, hoa, hga, hoga, hout, htab, hbe⟩
  have BEA := Lib.hid (BA.out.trans (hbe.mono BA.out.size))
  have OUTA := Lib.hid hout; have LKA := Lib.hid (symB_lk (fun x hx => (HB4.out x hx).1) htab); have HBEA := Lib.hid hbe
  have hgla := htab.lt
  have hsza := hbe.size
  clear hout htab hbe
  go_wp2_with (go_at_call 8; refine (sc_any sc sc _).mono ?_)
  rintro e wca ⟨rfl, hgc⟩
  have GCA := Lib.hid hgc
  clear hgc
  have hmm := @run_makeMap Tryd.prog
  go_wp2_with (go_at_call 6; refine (newR oa _ sc sc 0 0 (by omega) (by omega) (by omega) (by omega) _).mono ?_)
  rintro e wda ⟨vr, rfl, hptr, hgd⟩
  obtain ⟨bra, gma, gsa, rfl, hbra, _, hgsa, _, hren⟩ := RS.of_ptr hptr
  have GDA : Hid (wba.grownBy wda none) := Lib.hid (grown_tr (only_alloc GCA.out _) hgd)
  have hsda := GDA.out.size
  have hsca := GCA.out.size
  have HRENA := Lib.hid hren; have HGSA : Hid (∀ j, j < 4 → wba.heap.size ≤ gsa j) := Lib.hid (fun j hj => by have := hgsa j hj; have h2 := GCA.out.size; simp at this; omega)
  have HGTA : Hid (∀ j, j < 4 → gsa j < wda.heap.size) := Lib.hid (fun j hj => (hren.slt j hj).lt)
  have BDA : Hid (Below w.heap.size w wda) := Lib.hid (BEA.out.grown GDA.out BEA.out.size (fun k hk => by cases hk))
  clear hptr hgd hren hgsa hmm
  go_wp2_with (go_at_call 7; refine (build_true a0 len0 cap0 x0 a1 len1 cap1 x1 a2 len2 cap2 x2 sc a4 len4 cap4 x4 wda ((HR0.out.below BDA.out).more BDA.out.size) ((HR1.out.below BDA.out).more BDA.out.size) ((HR2.out.below BDA.out).more BDA.out.size) ((HR4.out.below BDA.out).more BDA.out.size) (by omega) (by omega) (by omega) (by omega) (by omega) HB0.out HB2.out HB4.out).mono ?_)
  rintro e wbb ⟨ob, gb, rfl, hob, hgb, hogb, hout, htab, hbe⟩
  have BEB := Lib.hid (BDA.out.trans (hbe.mono BDA.out.size))
  have OUTB := Lib.hid hout; have LKB := Lib.hid (symB_lk (fun x hx => (HB4.out x hx).1) htab); have HBEB := Lib.hid hbe
  have hglb := htab.lt
  have hszb := hbe.size
  clear hout htab hbe
  go_wp2_with (go_at_call 8; refine (sc_any sc sc _).mono ?_)
  rintro e wcb ⟨rfl, hgc⟩
  have GCB := Lib.hid hgc
  clear hgc
  have hmm := @run_makeMap Tryd.prog
  go_wp2_with (go_at_call 6; refine (newR ob _ sc sc 0 0 (by omega) (by omega) (by omega) (by omega) _).mono ?_)
  rintro e wdb ⟨vr, rfl, hptr, hgd⟩
  obtain ⟨brb, gmb, gsb, rfl, hbrb, _, hgsb, _, hren⟩ := RS.of_ptr hptr
  have GDB : Hid (wbb.grownBy wdb none) := Lib.hid (grown_tr (only_alloc GCB.out _) hgd)
  have hsdb := GDB.out.size
  have hscb := GCB.out.size
  have HRENB := Lib.hid hren; have HGSB : Hid (∀ j, j < 4 → wbb.heap.size ≤ gsb j) := Lib.hid (fun j hj => by have := hgsb j hj; have h2 := GCB.out.size; simp at this; omega)
  have HGTB : Hid (∀ j, j < 4 → gsb j < wdb.heap.size) := Lib.hid (fun j hj => (hren.slt j hj).lt)
  have BDB : Hid (Below w.heap.size w wdb) := Lib.hid (BEB.out.grown GDB.out BEB.out.size (fun k hk => by cases hk))
  clear hptr hgd hren hgsb hmm
  have GAB : Hid (Below wda.heap.size wda wdb) := Lib.hid (HBEB.out.grown GDB.out HBEB.out.size (fun k hk => by cases hk))
  obtain ⟨Z, hZ⟩ : ∃ Z, Z = ((wdb.alloc (.cells #[.slice none 0 0] 39)).alloc (.cells #[.slice none 0 0] 39)).alloc (.cells #[.int .u32 a7] 24) := ⟨_, rfl⟩
  obtain ⟨pa, hpa⟩ : ∃ pa, pa = wdb.heap.size := ⟨_, rfl⟩
  have HGZ : Hid (wdb.grownBy Z none) := Lib.hid (by rw [hZ]; exact only_alloc (only_alloc (only_alloc (World.grownBy.refl _ _) _) _) _)
  have HPA : Hid (Blk Z pa 39 #[.slice none 0 0]) := Lib.hid (by rw [hZ, hpa]; exact ((Blk.new wdb _ _).alloc _).alloc _)
  have HPB : Hid (Blk Z (pa + 1) 39 #[.slice none 0 0]) := Lib.hid (by
    rw [hZ, hpa]
    have := (Blk.new (wdb.alloc (.cells #[.slice none 0 0] 39)) 39 #[.slice none 0 0]).alloc (.cells #[.int .u32 a7] 24)
    simpa using this)
  have HSB : Hid (Blk Z (pa + 1 + 1) 24 #[.int .u32 a7]) := Lib.hid (by
    rw [hZ, hpa]
    have := Blk.new ((wdb.alloc (.cells #[.slice none 0 0] 39)).alloc (.cells #[.slice none 0 0] 39)) 24 #[.int .u32 a7]
    simpa using this)
  have HZZ := Lib.hid hZ; have HPP := Lib.hid hpa
  have hzs := HGZ.out.size
  have bab := BDA.out.size
  have s0 : AS := ⟨0, [], fun _ _ => 0, fun _ _ => 0⟩
  have HBOTH : Hid (Both w w.heap.size (pa + 1 + 1) q a7 (f4 sc sc 0 0) len0 (symB true len4 x0 x1 x2 sc x4) (rtF x4 len4) (fun m => m) ⟨oa, _, bra, gma, gsa, ga, pa⟩ ⟨ob, _, brb, gmb, gsb, gb, pa + 1⟩ ⟨0, [], fun _ _ => 0, fun _ _ => 0⟩ (.slice none 0 0) ⟨0, [], fun _ _ => 0, fun _ _ => 0⟩ (.slice none 0 0) Z) := Lib.hid (by
    have tA : Turned (fun _ => False) wda Z := (Turned.of_below GAB.out).trans (Turned.of_grown HGZ.out (fun _ h => by cases h))
    have tBA : Turned (fun _ => False) wba Z := (Turned.of_grown GDA.out (fun _ h => by cases h)).trans tA
    have tB : Turned (fun _ => False) wdb Z := Turned.of_grown HGZ.out (fun _ h => by cases h)
    have tBB : Turned (fun _ => False) wbb Z := (Turned.of_grown GDB.out (fun _ h => by cases h)).trans tB
    have tR : Turned (fun _ => False) wa Z := (Turned.of_below HBEA.out).trans tBA
    have no : ∀ (P : Prop), (¬ False) := fun _ e => e
    refine ⟨⟨tBA.blk OUTA.out (fun e => e), tBA.lk LKA.out (fun e => e), HRENA.out.turned tA (fun e => e) (fun _ _ e => e), HPA.out, ⟨by simp, .inl ⟨rfl, rfl⟩⟩⟩,
      ⟨tBB.blk OUTB.out (fun e => e), tBB.lk LKB.out (fun e => e), HRENB.out.turned tB (fun e => e) (fun _ _ e => e), HPB.out, ⟨by simp, .inl ⟨rfl, rfl⟩⟩⟩,
      (fun x hx => by cases hx), HSB.out, RTA.out.turned tR (fun e => e), BDB.out.grown HGZ.out BDB.out.size (fun k hk => by cases hk), ⟨?_, ?_, ?_⟩, ⟨?_, ?_, ?_⟩, ⟨?_, ?_, ?_⟩, ?_⟩
    · show ga ≠ gb; omega
    · show pa ≠ pa + 1; omega
    · intro i j hi hj
      have h1 := HGTA.out i hi; have h2 := HGSB.out j hj
      show gsa i ≠ gsb j
      omega
    · have := BA.out.size; show w.heap.size ≤ ga; omega
    · have := BDB.out.size; have := HPP.out; show w.heap.size ≤ pa; omega
    · intro i hi; have h1 := HGSA.out i hi; have := BEA.out.size; show w.heap.size ≤ gsa i; omega
    · show w.heap.size ≤ gb; omega
    · have := BDB.out.size; have := HPP.out; show w.heap.size ≤ pa + 1; omega
    · intro i hi; have h1 := HGSB.out i hi; have := BEB.out.size; show w.heap.size ≤ gsb i; omega
    · have := BDB.out.size; omega)
  have h0a : ga ≠ 0 := by have := BA.out.size; omega
  have h0b : gb ≠ 0 := by omega
  have GL0 : GoodL len0 (rtF x4 len4) ⟨0, [], fun _ _ => 0, fun _ _ => 0⟩ := ⟨rfl, fun m hm => absurd hm (by simp)⟩
  go_upto_region 16 with fail
  rw [← HZZ.out, ← HPP.out]
  clear hZ HZZ hpa HPP HSB HPA HPB HGZ GAB HRENA HRENB HGSA HGSB HGTA HGTB GDA GDB GCA GCB HBEA HBEB OUTA OUTB LKA LKB BEA BEB BDA BDB RTA BA s0
  go_wp2_with fail
  go_loopw [24, 25, 26] (fun t s1 s2 wr => ∃ k : Nat, t = .int .i64 k ∧ k ≤ len5 ∧ ∃ (s : AS) (v v' : Value), Both w w.heap.size (pa + 1 + 1) q a7 (f4 sc sc 0 0) len0 (symB true len4 x0 x1 x2 sc x4) (rtF x4 len4) (fun m => m) ⟨oa, some wca.heap.size, bra, gma, gsa, ga, pa⟩ ⟨ob, some wcb.heap.size, brb, gmb, gsb, gb, pa + 1⟩ s v s v' wr ∧ GoodL len0 (rtF x4 len4) s ∧ s.L ≤ k) (fun t s1 s2 _ => len5 - (intOf t).toNat)
  case atStart => exact ⟨0, rfl, by omega, _, _, _, HBOTH.out, GL0, Nat.le_refl _⟩
  case round =>
    obtain ⟨k, rfl, hk, s, v, v', hboth, hgood, hsl⟩ := hrel
    have HBO := Lib.hid hboth; have HGO := Lib.hid hgood
    clear hboth hgood HBOTH GL0
    by_cases hlt : k < len5
    · obtain ⟨b5, o5, rfl, hb5, hc5⟩ := reads_any HR5.out (show 0 < len5 by omega)
      obtain ⟨rv, hrv⟩ : ∃ x, x5[k]? = some x := ⟨_, List.getElem?_eq_getElem (by have := HR5.out.1; simp at this; omega)⟩
      have ck : wr.cell? ⟨b5, o5 + k, none⟩ = some (.int .u32 rv) := (HBO.out.bel.cell (p := ⟨b5, o5 + k, none⟩) hb5).trans (hc5 k rv hrv)
      have rg := HB5.out rv (List.mem_of_getElem? hrv)
      obtain ⟨i, hi⟩ : ∃ i : Nat, rv % (len0 : Int) = i := ⟨(rv % (len0 : Int)).toNat, by have := Int.emod_nonneg rv (show (len0 : Int) ≠ 0 by omega); omega⟩
      have hil : i < len0 := by have := Int.emod_lt_of_pos rv (show 0 < (len0 : Int) by omega); omega
      have hw1 : IntKind.u32.wrap (len0 : Int) = len0 := by rw [IntKind.wrap_u32]; omega
      have hw2 : IntKind.i64.wrap (i : Int) = i := IntWalk.i64_in _ (by omega)
      have t0 : ((len0 : Int) == 0) = false := by rw [beq_eq_false_iff_ne]; omega
      have t1 : ¬ ((len0 : Int) = 0) := by omega
      obtain ⟨cv, hcv⟩ : ∃ x, x = x6.getD k 0 := ⟨_, rfl⟩
      have HWO := Lib.hid (word_any a6 len6 cap6 x6 k wr ((HR6.out.below HBO.out.bel).more HBO.out.hb) (by omega))
      rw [← hcv] at HWO
      clear hc5 hrv hcv
      go_upto_region 21 with (go_at_call 9; refine HWO.out.mono ?_; rintro e w' ⟨rfl, rfl⟩)
      clear ck hi HWO t0 t1 rg
      go_wp2_with (go_at_call 11; refine (ref_any i (by omega) _).mono ?_)
      rintro e w1 ⟨rfl, hg1⟩
      have H1 := Lib.hid (HBO.out.grown hg1)
      clear hg1
      have HK := Lib.hid (symB_kd len4 x0 x1 x2 sc x4 (rtF x4 len4 i))
      have HN := Lib.hid (symB_ns len4 x0 x1 x2 sc x4 (rtF x4 len4 i) (by omega))
      have hri := RX.out i hil
      go_wp2_with (go_at_call 10; refine (acc_step bra oa (some wca.heap.size) gma gsa (f4 sc sc 0 0) ga len0 (symB true len4 x0 x1 x2 sc x4) (rtF x4 len4) (fun m => m) i w1 (by omega) hoga h0a RX.out hil (HI.out.below H1.out.bel hpos) pa (pa + 1 + 1) cv a7 w.heap.size s v H1.out.a HK.out ⟨HN.out.1, HN.out.2.1⟩ HN.out.2.2 (f4_le (by omega) (by omega) (by omega) (by omega)) H1.out.src (by omega) H1.out.hb).mono ?_)
      rintro e w2 ⟨rfl, va, hsa, hta, hfa⟩
      have H2 := Lib.hid (H1.out.step hsa hta hfa)
      clear hsa hta hfa H1
      have ck := H2.out.rts.cell hil
      go_wp2_with (go_at_call 11; refine (ref_any (rtF x4 len4 i) (by omega) _).mono ?_)
      rintro e w3 ⟨rfl, hg3⟩
      have H3 := Lib.hid (H2.out.grown hg3)
      clear hg3 H2 ck
      have hrr : rtF x4 len4 (rtF x4 len4 i) = rtF x4 len4 i := hri.2.1
      go_wp2_with (go_at_call 10; refine (acc_step brb ob (some wcb.heap.size) gmb gsb (f4 sc sc 0 0) gb len0 (symB true len4 x0 x1 x2 sc x4) (rtF x4 len4) (fun m => m) (rtF x4 len4 i) w3 (by omega) hogb h0b RX.out hri.1 (HI.out.below H3.out.bel hpos) (pa + 1) (pa + 1 + 1) cv a7 w.heap.size s v' H3.out.b (by rw [hrr]; exact HK.out) (by rw [hrr]; exact ⟨HN.out.1, HN.out.2.1⟩) (by rw [hrr]; exact HN.out.2.2) (f4_le (by omega) (by omega) (by omega) (by omega)) H3.out.src (by omega) H3.out.hb).mono ?_)
      rintro e w4 ⟨rfl, vb, hsb, htb, hfb⟩
      rw [hrr] at hsb
      have H4 := Lib.hid ((H3.out.swap.step hsb htb hfb).swap)
      have HG := Lib.hid (HGO.out.step a7 (symB true len4 x0 x1 x2 sc x4 (rtF x4 len4 i)) (rtF x4 len4 i) cv hri.1 hrr)
      clear hsb htb hfb H3 HBO HGO
      go_wp2_with fail
      go_roundw
      case rel => exact ⟨k + 1, by go_num, by omega, _, _, _, H4.out, HG.out.1, by have := HG.out.2; omega⟩
      case measure => simp [intOf]; omega
    · obtain rfl : k = len5 := by omega
      obtain ⟨wl, rfl⟩ : ∃ wl : World, wl = wr := ⟨_, rfl⟩
      obtain ⟨Av, cv, rfl, hfa⟩ := own_slice HBO.out.a.own
      obtain ⟨Bv, dv, rfl, hfb⟩ := own_slice HBO.out.b.own
      have HFA := Lib.hid hfa; have HFB := Lib.hid hfb
      have HPA : Hid (Blk wl pa 39 #[.slice Av s.L cv]) := Lib.hid HBO.out.a.lst
      have HPB : Hid (Blk wl (pa + 1) 39 #[.slice Bv s.L dv]) := Lib.hid HBO.out.b.lst
      have k1 : wl.cell? ⟨pa, 0, none⟩ = some (.slice Av s.L cv) := HPA.out.cell 0
      have k2 : wl.cell? ⟨pa + 1, 0, none⟩ = some (.slice Bv s.L dv) := HPB.out.cell 0
      clear hfa hfb
      have hsl2 : s.L ≤ 4096 := by omega
      go_wp2_with fail
      clear k1 k2
      go_loopw [27, 28] (fun t t2 wr => ∃ k M : Nat, t = .int .i64 k ∧ k ≤ s.L ∧ wr = wl.drewN M) (fun t t2 _ => s.L - (intOf t).toNat)
      case atStart => exact ⟨0, 0, rfl, by omega, rfl⟩
      case round =>
        obtain ⟨m, M, rfl, hm, hw⟩ := hrel
        have HW := Lib.hid hw
        clear hw
        have k1 : wr.cell? ⟨pa, 0, none⟩ = some (.slice Av s.L cv) := by rw [HW.out]; exact HPA.out.cell 0
        have k2 : wr.cell? ⟨pa + 1, 0, none⟩ = some (.slice Bv s.L dv) := by rw [HW.out]; exact HPB.out.cell 0
        by_cases hlt : m < s.L
        · obtain ⟨ba, hAv, hba, hca⟩ := HFA.out (by omega)
          obtain ⟨bb, hBv, hbb, hcb⟩ := HFB.out (by omega)
          subst hAv hBv
          obtain ⟨za, zc, zr, z0, z1, z2, z3, zn, zz⟩ := HGO.out.2 m hlt
          have c0' : wr.cell? ⟨ba, m * 4, none⟩ = some (.int .u32 za) := by rw [HW.out]; exact (hca _ (by omega)).trans z0
          have c1' : wr.cell? ⟨ba, m * 4 + 1, none⟩ = some (.int .u32 0) := by rw [HW.out]; exact (hca _ (by omega)).trans z1
          have c2' : wr.cell? ⟨ba, m * 4 + 2, none⟩ = some (.int .u32 zr) := by rw [HW.out]; exact (hca _ (by omega)).trans z2
          have c3' : wr.cell? ⟨ba, m * 4 + 3, none⟩ = some (.int .u32 zc) := by rw [HW.out]; exact (hca _ (by omega)).trans z3
          have f0' : wr.cell? ⟨bb, m * 4, none⟩ = some (.int .u32 za) := by rw [HW.out]; exact (hcb _ (by omega)).trans z0
          have f1' : wr.cell? ⟨bb, m * 4 + 1, none⟩ = some (.int .u32 0) := by rw [HW.out]; exact (hcb _ (by omega)).trans z1
          have f2' : wr.cell? ⟨bb, m * 4 + 2, none⟩ = some (.int .u32 zr) := by rw [HW.out]; exact (hcb _ (by omega)).trans z2
          have f3' : wr.cell? ⟨bb, m * 4 + 3, none⟩ = some (.int .u32 zc) := by rw [HW.out]; exact (hcb _ (by omega)).trans z3
          have r0 : wr.cell? ⟨q, zr, none⟩ = some (.int .i64 zr) := by rw [HW.out]; have h := HBO.out.rts.cell zn; rw [zz] at h; exact h
          have hw1 : IntKind.u32.wrap (len0 : Int) = len0 := by rw [IntKind.wrap_u32]; omega
          have hw2 : IntKind.i64.wrap (zr : Int) = zr := IntWalk.i64_in _ (by omega)
          have i1 : (m : Int) < (s.L : Int) := by omega
          have i2 : (0 : Int) ≤ (m : Int) := by omega
          have i3 : ¬ ((len0 : Int) ≤ (zr : Int)) := by omega
          clear hca hcb z0 z1 z2 z3 zz
          go_wp2
          go_quiet (fail)
          go_wp2
          go_roundw
          case rel => exact ⟨m + 1, M + nq, by go_num, by omega, by rw [HW.out, World.drewN_drewN]⟩
          case measure => simp [intOf]; omega
        · have hme : m = s.L := by omega
          subst hme
          have HRA : Hid (RS oa (some wca.heap.size) bra gma gsa (f4 sc sc 0 0) s.cf s.pf wr) := Lib.hid (by
            rw [HW.out]
            exact HBO.out.a.rs.turned (S := fun _ => False) ⟨rfl, rfl, rfl, Nat.le_refl _, fun _ _ _ => rfl⟩ (fun e => e) (fun _ _ e => e))
          have HRB : Hid (RS ob (some wcb.heap.size) brb gmb gsb (f4 sc sc 0 0) s.cf s.pf wr) := Lib.hid (by
            rw [HW.out]
            exact HBO.out.b.rs.turned (S := fun _ => False) ⟨rfl, rfl, rfl, Nat.le_refl _, fun _ _ _ => rfl⟩ (fun e => e) (fun _ _ e => e))
          have HBW : Hid (Below w.heap.size w wr) := Lib.hid (by rw [HW.out]; exact below_drewN HBO.out.bel _)
          go_wp2_with (go_at_call 12; refine (sameSlots (f4_le (by omega) (by omega) (by omega) (by omega)) _ HRA.out HRB.out).mono ?_; rintro e wz ⟨rfl, rfl⟩)
          go_ret
          exact ⟨rfl, HBW.out⟩

/-! ### THE ROW's STEP -/
set_option maxRecDepth 100000 in
theorem lifted (os : Os) (started : os.Started) (H : Type) (enc : TypeId × Value → H) :
    ReturnsInHanded {} Tryd.checked os 3 .any (fun w args => (Rows.fnAccumulateSymbolCountFollowsLinksSpec.pre enc Tryd.prog Tryd.f3 [] false w args ∧ laidMetH Tryd.prog Rows.fnAccumulateSymbolCountFollowsLinksRow.laid w) ∧ sizedMet enc Tryd.prog Tryd.f3 (OpenSpec.ofChange Rows.fnAccumulateSymbolCountFollowsLinksSpec) false w args)
      (Rows.fnAccumulateSymbolCountFollowsLinksSpec.post enc Tryd.prog Tryd.f3 false true false false) := by
  refine returnsInHanded_of_change_and (C := Tryd.checked) (X := fun w _ => laidMetH Tryd.prog Rows.fnAccumulateSymbolCountFollowsLinksRow.laid w) (fun _ _ _ hh h => h.of_heap hh) own started (by kernel_rfl) Tryd.func3
    (ChangeSpec.witness_shaped (enc := enc) (C := Tryd.checked) (os := os) (X := fun w _ => laidMetH Tryd.prog Rows.fnAccumulateSymbolCountFollowsLinksRow.laid w) false (World.laidAll Tryd.prog os Rows.fnAccumulateSymbolCountFollowsLinksRow.laid) #[.slice none 0 0, .slice none 0 0, .slice none 0 0, .int .u32 0, .slice none 0 0, .slice none 0 0, .slice none 0 0, .int .u32 0] 8 (World.laidAll_os _ _ _)
      (World.shaped_of_ZipB (by kernel_rfl) (by kernel_rfl)) (by kernel_rfl) (by kernel_rfl) (by kernel_rfl)
      (by rw [MakeChecks.laidMetH_plain _ _ _ (by kernel_rfl)]; exact laidMet_laidAll _ (by kernel_rfl) (by kernel_rfl))) ?_
  intro W base args ds gs before hval0 hW _ _ hL _
  have hval : ∀ (j : Nat) t v, Tryd.f3.params[j]? = some t → args[j]? = some v → Value.okWide Tryd.prog W .any base t v := hval0
  have hW' := hW
  obtain ⟨p, q, hA0, hV, rfl, hfz, hnd⟩ := hW
  have hA : DataW.TrodAll enc Tryd.prog W 0 (fun _ => true) true Tryd.f3.params.toList args.toList ds p := hA0
  rw [Tryd.params3] at hA hval
  obtain ⟨v0, vs0, d0, ds0, p0, q0, hargs, rfl, rfl, h0, r0⟩ := trodAll_cons hA
  obtain ⟨v1, vs1, d1, ds1, p1, q1, rfl, rfl, rfl, h1, r1⟩ := trodAll_cons r0
  obtain ⟨v2, vs2, d2, ds2, p2, q2, rfl, rfl, rfl, h2, r2⟩ := trodAll_cons r1
  obtain ⟨v3, vs3, d3, ds3, p3, q3, rfl, rfl, rfl, h3, r3⟩ := trodAll_cons r2
  obtain ⟨v4, vs4, d4, ds4, p4, q4, rfl, rfl, rfl, h4, r4⟩ := trodAll_cons r3
  obtain ⟨v5, vs5, d5, ds5, p5, q5, rfl, rfl, rfl, h5, r5⟩ := trodAll_cons r4
  obtain ⟨v6, vs6, d6, ds6, p6, q6, rfl, rfl, rfl, h6, r6⟩ := trodAll_cons r5
  obtain ⟨v7, vs7, d7, ds7, p7, q7, rfl, rfl, rfl, h7, r7⟩ := trodAll_cons r6
  obtain ⟨rfl, rfl, rfl⟩ := trodAll_nil r7
  obtain rfl : args = #[v0, v1, v2, v3, v4, v5, v6, v7] := by cases args; simp_all
  have hV1 : DataW.TrodVars enc Tryd.prog W (fun _ => true) ["github.com/evanw/esbuild/internal/ast.InvalidRef"] gs q := hV
  obtain ⟨g1, rfl⟩ : ∃ g, gs = [g] := by
    match gs, hV1 with
    | [g], _ => exact ⟨g, rfl⟩
    | [], h => exact h.elim
    | _ :: _ :: _, ⟨_, _, _, _, _, _, _, _, _, _, h, _⟩ => exact h.elim
  have k0 := h0
  have lt0 : ∀ x ∈ p0, x.block < W.heap.size := by obtain ⟨m, hm⟩ := k0; exact DataW.trod_lt m _ _ _ hm
  have k1 := h1
  have lt1 : ∀ x ∈ p1, x.block < W.heap.size := by obtain ⟨m, hm⟩ := k1; exact DataW.trod_lt m _ _ _ hm
  have k2 := h2
  have lt2 : ∀ x ∈ p2, x.block < W.heap.size := by obtain ⟨m, hm⟩ := k2; exact DataW.trod_lt m _ _ _ hm
  have k3 := h3
  have lt3 : ∀ x ∈ p3, x.block < W.heap.size := by obtain ⟨m, hm⟩ := k3; exact DataW.trod_lt m _ _ _ hm
  have k4 := h4
  have lt4 : ∀ x ∈ p4, x.block < W.heap.size := by obtain ⟨m, hm⟩ := k4; exact DataW.trod_lt m _ _ _ hm
  have k5 := h5
  have lt5 : ∀ x ∈ p5, x.block < W.heap.size := by obtain ⟨m, hm⟩ := k5; exact DataW.trod_lt m _ _ _ hm
  have k6 := h6
  have lt6 : ∀ x ∈ p6, x.block < W.heap.size := by obtain ⟨m, hm⟩ := k6; exact DataW.trod_lt m _ _ _ hm
  have k7 := h7
  have lt7 : ∀ x ∈ p7, x.block < W.heap.size := by obtain ⟨m, hm⟩ := k7; exact DataW.trod_lt m _ _ _ hm
  obtain ⟨a0, len0, cap0, rfl⟩ := okWide_slice Tryd.underlying22 (hval 0 22 v0 rfl rfl)
  obtain ⟨z0, w0⟩ : ∃ zs, IsRow .u8 W a0 len0 cap0 zs := by
    obtain ⟨fuel, hf⟩ := h0
    rcases open_ints Tryd.underlying22 Tryd.underlying5 (by kernel_rfl) hf with ⟨hcs, _⟩ | ⟨x, l, c, zs, hcs, _, hl, hm, hz, _, hcell, hwz⟩
    · simp [Value.cells] at hcs
      obtain ⟨rfl, rfl, rfl⟩ := hcs
      exact ⟨[], .inl ⟨rfl, rfl, rfl, rfl⟩⟩
    · simp [Value.cells] at hcs
      obtain ⟨rfl, rfl, rfl⟩ := hcs
      exact ⟨zs, .inr ⟨_, rfl, hl, hm, by simpa using hz, hcell, hwz⟩⟩
  obtain ⟨a1, len1, cap1, rfl⟩ := okWide_slice Tryd.underlying22 (hval 1 22 v1 rfl rfl)
  obtain ⟨z1, w1⟩ : ∃ zs, IsRow .u8 W a1 len1 cap1 zs := by
    obtain ⟨fuel, hf⟩ := h1
    rcases open_ints Tryd.underlying22 Tryd.underlying5 (by kernel_rfl) hf with ⟨hcs, _⟩ | ⟨x, l, c, zs, hcs, _, hl, hm, hz, _, hcell, hwz⟩
    · simp [Value.cells] at hcs
      obtain ⟨rfl, rfl, rfl⟩ := hcs
      exact ⟨[], .inl ⟨rfl, rfl, rfl, rfl⟩⟩
    · simp [Value.cells] at hcs
      obtain ⟨rfl, rfl, rfl⟩ := hcs
      exact ⟨zs, .inr ⟨_, rfl, hl, hm, by simpa using hz, hcell, hwz⟩⟩
  obtain ⟨a2, len2, cap2, rfl⟩ := okWide_slice Tryd.underlying23 (hval 2 23 v2 rfl rfl)
  obtain ⟨z2, w2⟩ : ∃ zs, IsRow .u32 W a2 len2 cap2 zs := by
    obtain ⟨fuel, hf⟩ := h2
    rcases open_ints Tryd.underlying23 Tryd.underlying24 (by kernel_rfl) hf with ⟨hcs, _⟩ | ⟨x, l, c, zs, hcs, _, hl, hm, hz, _, hcell, hwz⟩
    · simp [Value.cells] at hcs
      obtain ⟨rfl, rfl, rfl⟩ := hcs
      exact ⟨[], .inl ⟨rfl, rfl, rfl, rfl⟩⟩
    · simp [Value.cells] at hcs
      obtain ⟨rfl, rfl, rfl⟩ := hcs
      exact ⟨zs, .inr ⟨_, rfl, hl, hm, by simpa using hz, hcell, hwz⟩⟩
  obtain ⟨a3, rfl, rfl, rfl, w3⟩ := open_int Tryd.underlying24 (hval 3 24 v3 rfl rfl) h3
  obtain ⟨a4, len4, cap4, rfl⟩ := okWide_slice Tryd.underlying23 (hval 4 23 v4 rfl rfl)
  obtain ⟨z4, w4⟩ : ∃ zs, IsRow .u32 W a4 len4 cap4 zs := by
    obtain ⟨fuel, hf⟩ := h4
    rcases open_ints Tryd.underlying23 Tryd.underlying24 (by kernel_rfl) hf with ⟨hcs, _⟩ | ⟨x, l, c, zs, hcs, _, hl, hm, hz, _, hcell, hwz⟩
    · simp [Value.cells] at hcs
      obtain ⟨rfl, rfl, rfl⟩ := hcs
      exact ⟨[], .inl ⟨rfl, rfl, rfl, rfl⟩⟩
    · simp [Value.cells] at hcs
      obtain ⟨rfl, rfl, rfl⟩ := hcs
      exact ⟨zs, .inr ⟨_, rfl, hl, hm, by simpa using hz, hcell, hwz⟩⟩
  obtain ⟨a5, len5, cap5, rfl⟩ := okWide_slice Tryd.underlying23 (hval 5 23 v5 rfl rfl)
  obtain ⟨z5, w5⟩ : ∃ zs, IsRow .u32 W a5 len5 cap5 zs := by
    obtain ⟨fuel, hf⟩ := h5
    rcases open_ints Tryd.underlying23 Tryd.underlying24 (by kernel_rfl) hf with ⟨hcs, _⟩ | ⟨x, l, c, zs, hcs, _, hl, hm, hz, _, hcell, hwz⟩
    · simp [Value.cells] at hcs
      obtain ⟨rfl, rfl, rfl⟩ := hcs
      exact ⟨[], .inl ⟨rfl, rfl, rfl, rfl⟩⟩
    · simp [Value.cells] at hcs
      obtain ⟨rfl, rfl, rfl⟩ := hcs
      exact ⟨zs, .inr ⟨_, rfl, hl, hm, by simpa using hz, hcell, hwz⟩⟩
  obtain ⟨a6, len6, cap6, rfl⟩ := okWide_slice Tryd.underlying23 (hval 6 23 v6 rfl rfl)
  obtain ⟨z6, w6⟩ : ∃ zs, IsRow .u32 W a6 len6 cap6 zs := by
    obtain ⟨fuel, hf⟩ := h6
    rcases open_ints Tryd.underlying23 Tryd.underlying24 (by kernel_rfl) hf with ⟨hcs, _⟩ | ⟨x, l, c, zs, hcs, _, hl, hm, hz, _, hcell, hwz⟩
    · simp [Value.cells] at hcs
      obtain ⟨rfl, rfl, rfl⟩ := hcs
      exact ⟨[], .inl ⟨rfl, rfl, rfl, rfl⟩⟩
    · simp [Value.cells] at hcs
      obtain ⟨rfl, rfl, rfl⟩ := hcs
      exact ⟨zs, .inr ⟨_, rfl, hl, hm, by simpa using hz, hcell, hwz⟩⟩
  obtain ⟨a7, rfl, rfl, rfl, w7⟩ := open_int Tryd.underlying24 (hval 7 24 v7 rfl rfl) h7
  clear hA0 hval0
  refine (walk a0 len0 cap0 z0 a1 len1 cap1 z1 a2 len2 cap2 z2 a3 a4 len4 cap4 z4 a5 len5 cap5 z5 a6 len6 cap6 z6 a7 W w0 w1 w2 w3 w4 w5 w6 w7 (inv_of hL) hL).mono fun e W' ⟨he, bel⟩ => ?_
  subst he
  exact ⟨_, rfl, _, _, _, [], _, q, hW', trodAll_mk1 (shut_bool Tryd.underlying4 _), (trodAll_cons_mk (Below.trod laidOut (by kernel_rfl) (of_decide_eq_true (by kernel_rfl)) k0 bel lt0) (trodAll_cons_mk (Below.trod laidOut (by kernel_rfl) (of_decide_eq_true (by kernel_rfl)) k1 bel lt1) (trodAll_cons_mk (Below.trod laidOut (by kernel_rfl) (of_decide_eq_true (by kernel_rfl)) k2 bel lt2) (trodAll_cons_mk (Below.trod laidOut (by kernel_rfl) (of_decide_eq_true (by kernel_rfl)) k3 bel lt3) (trodAll_cons_mk (Below.trod laidOut (by kernel_rfl) (of_decide_eq_true (by kernel_rfl)) k4 bel lt4) (trodAll_cons_mk (Below.trod laidOut (by kernel_rfl) (of_decide_eq_true (by kernel_rfl)) k5 bel lt5) (trodAll_cons_mk (Below.trod laidOut (by kernel_rfl) (of_decide_eq_true (by kernel_rfl)) k6 bel lt6) (trodAll_cons_mk (Below.trod laidOut (by kernel_rfl) (of_decide_eq_true (by kernel_rfl)) k7 bel lt7) trodAll_mk0)))))))), Below.trodVars laidOut bel (by kernel_rfl) hV1, bel.frame _, fun h => by cases h⟩

theorem over : Rows.fnAccumulateSymbolCountFollowsLinksRow.holds Tryd.pinned (OpenSpec.ofChange Rows.fnAccumulateSymbolCountFollowsLinksSpec) :=
  OpenClaim.holds_of_wide 3 Tryd.f3 rfl rfl rfl rfl rfl rfl rfl ⟨rfl, rfl, rfl, rfl, rfl⟩ rfl rfl rfl rfl rfl (by kernel_rfl) Tryd.func3 (by kernel_rfl)
    (of_decide_eq_true (by kernel_rfl)) (by unfold Func.isWrapper; first | (rw [if_pos (by decide +kernel)]; kernel_rfl) | (rw [if_neg (by decide +kernel)]; exact ⟨rfl, rfl⟩))
    (fun os started H enc _ => lifted os started H enc)

theorem proved : Rows.FnAccumulateSymbolCountFollowsLinksCardSaid :=
  Claim7.holds_tied_plain_at .later [] [.data] true (true, "c9ca8f2dd0a97f03a802609dc3903f29e08b8f42ac7f88de76005445ab29dc76") false over (fun _ h => by cases h) (by kernel_rfl) (fun _ h => by cases h) fnAccumulateSymbolCountFollowsLinks_row_tie rfl ⟨rfl, rfl⟩ (by kernel_rfl) rfl
    (fun f fn hf hfn => by
      obtain rfl : f = 3 := Option.some.inj ((show Tryd.prog.funcNamed "github.com/evanw/esbuild/n011_287.FnAccumulateSymbolCountFollowsLinks" = some 3 by kernel_rfl).symm.trans hf) |>.symm
      obtain rfl : fn = Tryd.f3 := (Option.some.inj (Tryd.func3.symm.trans hfn)).symm
      exact ⟨by kernel_rfl, fun j t ht => by
        rw [Tryd.params3] at ht
        have hm : t ∈ [22, 22, 23, 24, 23, 23, 23, 24] := by simpa using Array.mem_of_getElem? ht
        have hall : ([22, 22, 23, 24, 23, 23, 23, 24].all fun u => !Tryd.prog.wantsStandIn u) = true := by kernel_rfl
        exact (show Tryd.prog.wantsStandIn t = false by simpa using List.all_eq_true.1 hall t hm)⟩)
    (by kernel_rfl)
#print axioms proved
end Go.Proofs.YtdmllmipcfkaaaaDoor.fnAccumulateSymbolCountFollowsLinks