/-
  PROVED: FnNewMinifyRenamerAllocateTopLevel: after NewMinifyRenamer and AllocateTopLevelSymbolSlots each namespace holds its reserved nested slots and one new slot per distinct top-level symbol, with the sums of the counts.
-/
import Derived.Test.YtlpmkbdglpnjhaaRows
import Derived.WalkKit
import Derived.ProofKit
import Derived.Deep.QuietTactic
import Derived.BigQuiet
import Derived.IntWalk
import Derived.Deep.RegionWith
import Derived.Outline
import Derived.LoopTactic
import Derived.WalkSpells
import Derived.Deep.Light
import Derived.Test.YtlpmkbdglpnjhaaClu
import Derived.Test.YtlpmkbdglpnjhaaClb
import Derived.Test.YtlpmkbdglpnjhaaYmm
import Derived.OpenShut
import Derived.ShutString
import Derived.ChangeOld
import Derived.Below
import Derived.Carry
namespace Go.Proofs.Ytlpmkbdglpnjhaa.fnNewMinifyRenamerAllocateTopLevel
open Go.ChangeShapes Go.WideShapes Go.ChangeAt Go.RowKit
open Go.ChangeMaps (open_string shut_string)
set_option linter.unusedVariables false
set_option linter.unusedSimpArgs false

theorem own : ownKnob Try.prog.godebug = none := by kernel_rfl
theorem laidOut : laidOutB Try.pinned.checked.prog = true := by kernel_rfl

/-- What the walk is told of a slice of integers that came in. -/
def IsRow (k : IntKind) (w : World) (a : Option Addr) (len cap : Nat) (zs : List Int) : Prop :=
  (a = none ∧ len = 0 ∧ cap = 0 ∧ zs = []) ∨
  ∃ x, a = some x ∧ len ≤ cap ∧ cap ≤ maxLen ∧ zs.length = cap ∧ (∀ i, i < zs.length → w.cell? (x.add i) = some (.int k (zs.getD i 0))) ∧ ∀ n ∈ zs, (Lit.int k n).wf = true
theorem isrow_reads {k : IntKind} {w : World} {a : Option Addr} {len cap : Nat} {zs : List Int} (h : IsRow k w a len cap zs) : Reads w w.heap.size 1 a len ((zs.take len).map (Value.int k)) ∧ (a = none → len = 0) ∧ len ≤ maxLen := by
  rcases h with ⟨rfl, rfl, rfl, rfl⟩ | ⟨x, rfl, hl, hm, hz, hc, _⟩
  · exact ⟨Reads.none_, fun _ => rfl, by unfold maxLen; omega⟩
  · refine ⟨⟨by simp; omega, fun hn => ⟨x, rfl, ?_, fun j u hu => ?_⟩⟩, (fun h => by cases h), by omega⟩
    · have := hc 0 (by omega)
      exact World.block_lt_of_cell? w x (by simpa [Addr.add] using this)
    · have hj : j < len := by
        have := (List.getElem?_eq_some_iff.1 hu).1
        simp at this; omega
      rw [hc j (by omega)]
      rw [List.getElem?_map, List.getElem?_take_of_lt hj, List.getElem?_eq_getElem (by omega)] at hu
      rw [List.getD_eq_getElem?_getD, List.getElem?_eq_getElem (by omega)]
      exact hu


theorem isrow_wf {k : IntKind} {w : World} {a : Option Addr} {len cap : Nat} {zs : List Int} (h : IsRow k w a len cap zs) : ∀ m ∈ zs.take len, (Lit.int k m).wf = true := fun m hm => by
  rcases h with ⟨_, _, _, rfl⟩ | ⟨_, _, _, _, _, _, hw⟩
  · simp at hm
  · exact hw m (List.mem_of_mem_take hm)
def CloneL (w : World) (n : Nat) (xs : List Value) (e : Ending) (w' : World) : Prop :=
  ∃ A c, e = .returned (.slice A n c) ∧ Reads w' w'.heap.size 1 A n xs ∧ Below w.heap.size w w'
theorem clone_reads {w' : World} {g n : Nat} {t : TypeId} {xs : List Value} (hbk : Blk w' g t xs.toArray) (hl : xs.length = n * 1) : Reads w' w'.heap.size 1 (some ⟨g, 0, none⟩) n xs := by
  refine ⟨hl, fun hn => ⟨_, rfl, hbk.lt, fun j u hu => ?_⟩⟩
  have := hbk.cell j
  rw [List.getElem?_toArray, hu] at this
  rw [← this]
  unfold Addr.add
  split
  · rename_i h0; subst h0; rfl
  · show World.cell? _ ⟨g, 0 + j, none⟩ = _
    rw [Nat.zero_add]
theorem cloneBR (A : Option Addr) (n cap : Nat) (zs : List Int) (w : World) (hr : Reads w w.heap.size 1 A n (zs.map (Value.int .u8))) (hA : A = none → n = 0) (hn : n ≤ 16777216) :
    Calls Try.prog 6 #[.slice A n cap] w (CloneL w n (zs.map (Value.int .u8))) := by
  refine (cloneB A n cap zs w hr hn).mono ?_
  rintro e w' (⟨hn0, rfl, rfl⟩ | ⟨g, _, rfl, hge, hbk, hb⟩)
  · obtain rfl := hA hn0
    exact ⟨none, 0, rfl, by have := hr.1; obtain rfl : zs = [] := List.eq_nil_of_length_eq_zero (by simpa using this); exact Reads.none_, Below.refl _ _⟩
  · exact ⟨_, _, rfl, clone_reads hbk hr.1, hb⟩
theorem cloneUR (A : Option Addr) (n cap : Nat) (zs : List Int) (w : World) (hr : Reads w w.heap.size 1 A n (zs.map (Value.int .u32))) (hA : A = none → n = 0) (hn : n ≤ 16777216) :
    Calls Try.prog 7 #[.slice A n cap] w (CloneL w n (zs.map (Value.int .u32))) := by
  refine (cloneU A n cap zs w hr hn).mono ?_
  rintro e w' (⟨hn0, rfl, rfl⟩ | ⟨g, _, rfl, hge, hbk, hb⟩)
  · obtain rfl := hA hn0
    exact ⟨none, 0, rfl, by have := hr.1; obtain rfl : zs = [] := List.eq_nil_of_length_eq_zero (by simpa using this); exact Reads.none_, Below.refl _ _⟩
  · exact ⟨_, _, rfl, clone_reads hbk hr.1, hb⟩
/-! ### STEP 1: THE WALK -/
set_option maxHeartbeats 16000000 in
set_option maxRecDepth 100000 in
theorem walk (a0 : Option Addr) (len0 cap0 : Nat) (z0 : List Int) (a1 : Option Addr) (len1 cap1 : Nat) (z1 : List Int) (a2 : Option Addr) (len2 cap2 : Nat) (z2 : List Int) (a3 : Int) (a4 : Int) (a5 : Int) (a6 : Int) (w : World) (w0 : IsRow .u8 w a0 len0 cap0 z0) (w1 : IsRow .u32 w a1 len1 cap1 z1) (w2 : IsRow .u32 w a2 len2 cap2 z2) (w3 : (Lit.int .u32 a3).wf = true) (w4 : (Lit.int .u32 a4).wf = true) (w5 : (Lit.int .u32 a5).wf = true) (w6 : (Lit.int .u32 a6).wf = true)  :
    Calls Try.prog 3 #[.slice a0 len0 cap0, .slice a1 len1 cap1, .slice a2 len2 cap2, .int .u32 a3, .int .u32 a4, .int .u32 a5, .int .u32 a6] w fun e w' => e = .returned (.bool true) ∧ Below w.heap.size w w' := by
  obtain ⟨hr0, hA0, hl0⟩ := isrow_reads w0
  have hw0 := isrow_wf w0
  generalize z0.take len0 = x0 at hr0 hw0
  have hb0 : ∀ m ∈ x0, 0 ≤ m ∧ m ≤ 255 := fun m hm => by
    have := hw0 m hm
    simp [Lit.wf, IntKind.min, IntKind.max, IntKind.signed, IntKind.bits] at this
    omega
  have HR0 := Lib.hid hr0; have HA0 := Lib.hid hA0; have HB0 := Lib.hid hb0; have HL0 := Lib.hid hl0
  have l0 : len0 ≤ 9223372036854775807 := hl0
  clear hr0 hA0 hb0 hw0 hl0 w0
  obtain ⟨hr1, hA1, hl1⟩ := isrow_reads w1
  have hw1 := isrow_wf w1
  generalize z1.take len1 = x1 at hr1 hw1
  have hb1 : ∀ m ∈ x1, 0 ≤ m ∧ m ≤ 4294967295 := fun m hm => by
    have := hw1 m hm
    simp [Lit.wf, IntKind.min, IntKind.max, IntKind.signed, IntKind.bits] at this
    omega
  have HR1 := Lib.hid hr1; have HA1 := Lib.hid hA1; have HB1 := Lib.hid hb1; have HL1 := Lib.hid hl1
  have l1 : len1 ≤ 9223372036854775807 := hl1
  clear hr1 hA1 hb1 hw1 hl1 w1
  obtain ⟨hr2, hA2, hl2⟩ := isrow_reads w2
  have hw2 := isrow_wf w2
  generalize z2.take len2 = x2 at hr2 hw2
  have hb2 : ∀ m ∈ x2, 0 ≤ m ∧ m ≤ 4294967295 := fun m hm => by
    have := hw2 m hm
    simp [Lit.wf, IntKind.min, IntKind.max, IntKind.signed, IntKind.bits] at this
    omega
  have HR2 := Lib.hid hr2; have HA2 := Lib.hid hA2; have HB2 := Lib.hid hb2; have HL2 := Lib.hid hl2
  have l2 : len2 ≤ 9223372036854775807 := hl2
  clear hr2 hA2 hb2 hw2 hl2 w2
  simp [Lit.wf, IntKind.min, IntKind.max, IntKind.signed, IntKind.bits] at w3 w4 w5 w6
  obtain ⟨c0, rfl⟩ := Int.eq_ofNat_of_zero_le w3.1
  obtain ⟨c1, rfl⟩ := Int.eq_ofNat_of_zero_le w4.1
  obtain ⟨c2, rfl⟩ := Int.eq_ofNat_of_zero_le w5.1
  obtain ⟨c3, rfl⟩ := Int.eq_ofNat_of_zero_le w6.1
  clear w3 w4 w5 w6
  go_enter Try.func3, Try.ntmps3
  go_wp2_with (go_at_call 4; refine (zbytes a0 len0 cap0 a1 len1 cap1 a2 len2 cap2 c0 c1 c2 c3 _ l0 l1 l2).mono ?_)
  rintro e wz ⟨bz, rfl, rfl⟩
  cases bz
  · go_wp2
    go_ret
    exact ⟨rfl, Below.refl _ _⟩
  go_wp2_with (go_at_call 5; refine (fit_any a0 len0 cap0 x0 a1 len1 cap1 x1 a2 len2 cap2 c0 c1 c2 c3 _ HR0.out HR1.out l0 l1 l2 HB0.out HB1.out).mono ?_)
  rintro e wf ⟨bf, rfl, hfit, rfl⟩
  cases bf
  · clear hfit
    go_wp2
    go_ret
    exact ⟨rfl, Below.refl _ _⟩
  obtain ⟨hn, hnt, ec, hc, htops⟩ := hfit rfl
  have ec2 := ec.symm
  clear ec
  subst ec2
  have HT := Lib.hid htops
  clear hfit htops
  obtain ⟨hc0, hc1, hc2, hc3⟩ := hc
  have hc0' : c0 ≤ 65536 := by omega
  have hc1' : c1 ≤ 65536 := by omega
  have hc2' : c2 ≤ 65536 := by omega
  have hc3' : c3 ≤ 65536 := by omega
  clear hc0 hc1 hc2 hc3 l0 l1 l2
  have CLE : Hid (∀ j, j < 4 → (f4 c0 c1 c2 c3) j ≤ 65536) := Lib.hid (lt4 (P := fun j => (f4 c0 c1 c2 c3) j ≤ 65536) hc0' hc1' hc2' hc3')
  have CLA : Hid (∀ j, (f4 c0 c1 c2 c3) j ≤ 65536) := Lib.hid (fun j => by unfold f4; split; exact hc0'; split; exact hc1'; split; exact hc2'; exact hc3')
  go_wp2_with (go_at_call 6; refine (cloneBR a0 len0 cap0 x0 _ HR0.out HA0.out (by omega)).mono ?_)
  rintro e wa ⟨A0, d0, rfl, hr, hba⟩
  have BA := Lib.hid hba
  have QA0 := Lib.hid hr; have RA1 := Lib.hid ((HR1.out.below hba).more hba.size); have RA2 := Lib.hid ((HR2.out.below hba).more hba.size)
  clear hr hba HR0 HR1 HR2
  go_wp2_with (go_at_call 7; refine (cloneUR a1 len1 cap1 x1 _ RA1.out HA1.out (by omega)).mono ?_)
  rintro e wb ⟨A1, d1, rfl, hr, hbb⟩
  have BB := Lib.hid (BA.out.trans (hbb.mono BA.out.size))
  have QB0 := Lib.hid ((QA0.out.below hbb).more hbb.size); have QB1 := Lib.hid hr; have RB2 := Lib.hid ((RA2.out.below hbb).more hbb.size)
  clear hr hbb QA0 RA1 RA2
  go_wp2_with (go_at_call 7; refine (cloneUR a2 len1 cap2 x2 _ RB2.out HA2.out (by omega)).mono ?_)
  rintro e wk ⟨A2, d2, rfl, hr, hbc⟩
  have BC := Lib.hid (BB.out.trans (hbc.mono BB.out.size))
  have QC0 := Lib.hid ((QB0.out.below hbc).more hbc.size); have QC1 := Lib.hid ((QB1.out.below hbc).more hbc.size); have QC2 := Lib.hid hr
  clear hr hbc QB0 QB1 RB2 BA BB
  have lk0 : Hid (x0.length = len0) := Lib.hid (by have := QC0.out.1; simpa using this)
  have lk1 : Hid (x1.length = len1) := Lib.hid (by have := QC1.out.1; simpa using this)
  have lk2 : Hid (x2.length = len1) := Lib.hid (by have := QC2.out.1; simpa using this)
  go_wp2_with (go_at_call 8; refine (build none 0 0 [] A0 len0 d0 x0 none 0 0 [] none 0 0 [] wk Reads.none_ QC0.out Reads.none_ Reads.none_ (by omega) (by omega) (by omega) (by omega) HB0.out (fun x hx => by cases hx) (fun x hx => by cases hx)).mono ?_)
  rintro e we ⟨o, g, rfl, ho, hg, hog, hout, htab, hbe⟩
  have BE := Lib.hid (BC.out.trans (hbe.mono BC.out.size))
  have hwd := BC.out.size
  have hwe := hbe.size
  have HOUT := Lib.hid hout; have HTAB := Lib.hid htab; have HBE := Lib.hid hbe
  clear hout htab hbe
  obtain ⟨X, hX⟩ : ∃ X, X = we.alloc (.cells #[.slice (some ⟨o, 0, none⟩) 1 1] 30) := ⟨_, rfl⟩
  have HGX : Hid (we.grownBy X none) := Lib.hid (by rw [hX]; exact only_alloc (World.grownBy.refl _ _) _)
  have HBX : Hid (Blk X we.heap.size 30 #[.slice (some ⟨o, 0, none⟩) 1 1]) := Lib.hid (by rw [hX]; exact Blk.new _ _ _)
  have HXX := Lib.hid hX
  go_upto_region 10 with fail
  rw [← HXX.out]
  clear hX HXX
  have kx : X.cell? ⟨we.heap.size, 0, none⟩ = some (.slice (some ⟨o, 0, none⟩) 1 1) := HBX.out.cell 0
  have HWX : Hid (∀ W wg : World, (W = X ∨ W = X.drew ∨ W = X.drew.drew) → W.grownBy wg none → we.grownBy wg none ∧ wg.cell? ⟨we.heap.size, 0, none⟩ = some (.slice (some ⟨o, 0, none⟩) 1 1)) := Lib.hid (fun W wg hW hg => by
    rcases hW with rfl | rfl | rfl
    · exact ⟨grown_tr HGX.out hg, (HBX.out.grown hg (by simp)).cell 0⟩
    · exact ⟨grown_tr (only_drew HGX.out) hg, (HBX.out.drew.grown hg (by simp)).cell 0⟩
    · exact ⟨grown_tr (only_drew (only_drew HGX.out)) hg, (HBX.out.drew.drew.grown hg (by simp)).cell 0⟩)
  go_cut [17] (fun p wx => ∃ (br gm : Nat) (gs : Nat → Nat), p = .pointer (some ⟨br, 0, none⟩) ∧ we.heap.size ≤ br ∧ we.heap.size ≤ gm ∧ (∀ j, j < 4 → we.heap.size ≤ gs j) ∧ wx.heap[gm]? = some (.map #[] 0) ∧ RS o none br gm gs (f4 c0 c1 c2 c3) (fun _ _ => 0) (fun _ _ => 0) wx ∧ we.grownBy wx none)
  case first =>
    go_region_with (first | (go_at_call 10; refine (sc_any c0 c1 c2 c3 _).mono ?_; rintro e wg ⟨rfl, hgg⟩; obtain ⟨g1, kg⟩ := HWX.out _ wg (by first | exact Or.inl rfl | exact Or.inr (Or.inl rfl) | exact Or.inr (Or.inr rfl)) hgg; have HGG := Lib.hid g1; clear hgg g1) | (go_at_call 9; refine (newR o none c0 c1 c2 c3 (by omega) (by omega) (by omega) (by omega) _).mono ?_; rintro e wh ⟨vr, rfl, hptr, hgh⟩; obtain ⟨br, gm, gs, rfl, hbr, hgm, hgs, hmp, hren⟩ := RS.of_ptr hptr; have HGH := Lib.hid hgh; have HREN := Lib.hid hren; have HMP := Lib.hid hmp; have HB1' := Lib.hid hbr; have HB2' := Lib.hid hgm; have HB3' := Lib.hid hgs; clear hptr hgh hren hmp hbr hgm hgs))
    all_goals
      go_wp2_with fail
      go_meet
      exact ⟨br, gm, gs, rfl, Nat.le_trans HGG.out.size HB1'.out, Nat.le_trans HGG.out.size HB2'.out, fun j hj => Nat.le_trans HGG.out.size (HB3'.out j hj), HMP.out, HREN.out, by first | exact grown_tr HGG.out HGH.out | exact grown_tr (only_drew HGG.out) HGH.out⟩
  case rest =>
  obtain ⟨br, gm, gs, rfl, hbr, hgm, hgs, hmp, hren, hge⟩ := hcut
  obtain ⟨wx, rfl⟩ : ∃ W : World, W = wc := ⟨_, rfl⟩
  have BX := Lib.hid (BE.out.grown hge BE.out.size (fun k hk => by cases hk))
  have BCX := Lib.hid (HBE.out.grown hge HBE.out.size (fun k hk => by cases hk))
  obtain ⟨t0, ht0⟩ : ∃ t0 : TS, t0 = ⟨fun j => List.replicate ((f4 c0 c1 c2 c3) j) (0, 0), fun _ => none⟩ := ⟨_, rfl⟩
  have RX : Hid (TRen w.heap.size o none br gm (slV gs (f4 c0 c1 c2 c3)) g len0 (symF len0 [] x0 [] []) 0 t0 wx) := Lib.hid (by rw [ht0]; exact TRen.fresh hren hmp (fun j hj => by have := hgs j hj; omega) CLE.out (HOUT.out.grown hge (by simp)) (HTAB.out.grown hge (by simp)))
  have TOK0 : Hid (TOk (symF len0 [] x0 [] []) 65536 t0) := Lib.hid (by rw [ht0]; exact tok_fresh _ CLA.out)
  have PI0 : Hid (PInv (symF len0 [] x0 [] []) (f4 c0 c1 c2 c3) t0) := Lib.hid (by rw [ht0]; exact PInv.fresh _ _)
  have GI0 : Hid (GInv (symF len0 [] x0 [] []) (f4 c0 c1 c2 c3) t0 (fun _ => -1) (fun _ => 0) (fun _ => 0) 0) := Lib.hid (by rw [ht0]; exact GInv.fresh _ _)
  have LOW : Hid (∀ b, InT (slV gs (f4 c0 c1 c2 c3)) br gm b → wk.heap.size ≤ b) := Lib.hid (inT_low (by omega) (by omega) (fun j hj => by have := hgs j hj; omega))
  have hkx := BCX.out.size
  have hxs := BX.out.size
  clear ht0 hren hmp hge hgs hbr hgm HOUT HTAB HBE HWX kx HGX HBX BE
  have QX1 := Lib.hid (QC1.out.below BCX.out); have QX2 := Lib.hid (QC2.out.below BCX.out); have QX0 := Lib.hid (QC0.out.below BCX.out)
  clear QC0 QC1 QC2 BCX
  obtain ⟨i0, hi, hz0, hz1, hz2⟩ := info_parts sscI
  have hmk : ∀ W : World, (Instr.makeSlice 38 (.int .i64 (len1 : Int)) (.int .i64 (len1 : Int))).run Try.prog W = .ok (.slice (some ⟨W.heap.size, 0, none⟩) len1 len1) (W.alloc (.cells (mkEn len1) 43)) := fun W => by
    have hr := run_make (P := Try.prog) W 38 43 i0 (.agg #[.int .u32 0, .int .u32 0, .int .u32 0, .int .u32 0]) Try.underlying38 hi hz0 .i64 .i64 len1 len1 (by omega) (by omega) (by rw [hz2]; omega) (by omega)
    simp only [Int.toNat_natCast, hz1] at hr
    exact hr
  clear hi hz0 hz1 hz2
  obtain ⟨W0, hW0⟩ : ∃ W0, W0 = wx.alloc (.cells (mkEn len1) 43) := ⟨_, rfl⟩
  obtain ⟨q, hq⟩ : ∃ q, q = wx.heap.size := ⟨_, rfl⟩
  have HP0 : Hid (EntY W0 q len1 0 x1 x2) := Lib.hid (by rw [hW0, hq]; exact EntY.made _ _ _ _)
  have HB0W : Hid (Below wx.heap.size wx W0) := Lib.hid (by rw [hW0]; exact (Below.refl _ wx).alloc (Nat.le_refl _) _)
  have HQ : Hid (wx.heap.size ≤ q) := Lib.hid (by omega)
  have HW0 := Lib.hid hW0; have HG := Lib.hid hq
  clear hW0 hq
  go_upto_region 12 with fail
  rw [← HW0.out, ← HG.out]
  clear HW0 HG hmk
  go_wp2_with fail
  go_loopw [19] (fun c wr => ∃ k : Nat, c = .int .i64 k ∧ k ≤ len1 ∧ EntY wr q len1 k x1 x2 ∧ Below wx.heap.size wx wr) (fun c _ => len1 - (intOf c).toNat)
  case atStart => exact ⟨0, rfl, by omega, HP0.out, HB0W.out⟩
  case round =>
    obtain ⟨k, rfl, hk, hp, hb⟩ := hrel
    have HP := Lib.hid hp; have HB := Lib.hid hb
    clear hp hb
    by_cases hlt : k < len1
    · obtain ⟨b1, off1, rfl, hb1, hk1⟩ := reads_any QX1.out (show 0 < len1 by omega)
      obtain ⟨b2, off2, rfl, hb2, hk2⟩ := reads_any QX2.out (show 0 < len1 by omega)
      obtain ⟨tv, htv⟩ : ∃ x, x1[k]? = some x := ⟨_, List.getElem?_eq_getElem (by have := lk1.out; omega)⟩
      obtain ⟨cv, hcv⟩ : ∃ x, x2[k]? = some x := ⟨_, List.getElem?_eq_getElem (by have := lk2.out; omega)⟩
      have tg := HB1.out tv (List.mem_of_getElem? htv)
      obtain ⟨i, rfl⟩ := Int.eq_ofNat_of_zero_le tg.1
      have ct : wr.cell? ⟨b1, off1 + k, none⟩ = some (.int .u32 i) := (HB.out.cell (p := ⟨b1, off1 + k, none⟩) (Nat.lt_of_lt_of_le hb1 hkx)).trans (hk1 k _ htv)
      have cc : wr.cell? ⟨b2, off2 + k, none⟩ = some (.int .u32 cv) := (HB.out.cell (p := ⟨b2, off2 + k, none⟩) (Nat.lt_of_lt_of_le hb2 hkx)).trans (hk2 k _ hcv)
      have HEN : Hid (entY x1 x2 k = (i, cv)) := Lib.hid (by unfold entY; rw [List.getD_eq_getElem?_getD, List.getD_eq_getElem?_getD, htv, hcv]; simp)
      have hlr := HB.out.size
      have HGR : Hid (∀ W w5 : World, (W = wr ∨ W = wr.drew ∨ W = wr.drew.drew) → W.grownBy w5 none → EntY w5 q len1 k x1 x2 ∧ Below wx.heap.size wx w5 ∧ w5.cell? ⟨b1, off1 + k, none⟩ = some (.int .u32 i) ∧ w5.cell? ⟨b2, off2 + k, none⟩ = some (.int .u32 cv)) := Lib.hid (fun W w5 hW hg => by
        have h1 : wr.grownBy w5 none := by rcases hW with rfl | rfl | rfl <;> exact ⟨hg.os, hg.tape, hg.output, hg.size, hg.block⟩
        exact ⟨HP.out.grown h1, HB.out.grown h1 hlr (fun k hk => by cases hk), (World.cell?_of_block (h1.block b1 (by omega) (by simp))).trans ct, (World.cell?_of_block (h1.block b2 (by omega) (by simp))).trans cc⟩)
      have j0 : (0 : Int) ≤ (k : Int) := by omega
      have j1 : (k : Int) < (len1 : Int) := by omega
      clear hk1 hk2 htv hcv tg
      go_upto_region 15 with fail
      go_region_with (go_at_call 11; refine (ref_any i _).mono ?_; rintro e w5 ⟨rfl, hg5⟩; obtain ⟨hp5, hb5, ct5, cc5⟩ := HGR.out _ w5 (by first | exact Or.inl rfl | exact Or.inr (Or.inl rfl) | exact Or.inr (Or.inr rfl)) hg5; obtain ⟨u0, u1, u2, u3, z0, z1, z2, z3⟩ := hp5.cells hlt; have y0 := hp5.frozen (k * 4); have y1 := hp5.frozen (k * 4 + 1); have y2 := hp5.frozen (k * 4 + 2); have y3 := hp5.frozen (k * 4 + 3); have HP5 := Lib.hid (hp5.step hlt i cv HEN.out); have HB5 := Lib.hid (((((hb5.setCell (p := ⟨q, k * 4, none⟩) HQ.out (.int .u32 0)).setCell (p := ⟨q, k * 4 + 1, none⟩) HQ.out (.int .u32 0)).setCell (p := ⟨q, k * 4 + 2, none⟩) HQ.out (.int .u32 i)).setCell (p := ⟨q, k * 4 + 3, none⟩) HQ.out (.int .u32 cv))); clear hp5 hb5 hg5)
      all_goals
        go_wp2
        go_roundw
        case rel => exact ⟨k + 1, by go_num, by omega, by first | exact HP5.out | exact HP5.out.grown (only_drew (World.grownBy.refl _ _)), by first | exact HB5.out | exact HB5.out.drew⟩
        case measure => simp [intOf]; omega
    · obtain rfl : len1 = k := by omega
      obtain ⟨ES, hES⟩ : ∃ ES, ES = (List.range len1).map (entY x1 x2) := ⟨_, rfl⟩
      have ESL : Hid (ES.length = len1) := Lib.hid (by rw [hES]; simp)
      have ESOK : Hid (∀ e ∈ ES, EntOk (symF len0 [] x0 [] []) len0 e) := Lib.hid (by rw [hES]; exact ent_ok HT.out HB1.out HB2.out)
      have ER := Lib.hid (HP.out.ent)
      rw [← hES] at ER
      have SNOC : Hid (∀ m, m < len1 → ES.take (m + 1) = ES.take m ++ [entY x1 x2 m]) := Lib.hid (fun m hm => by rw [hES]; exact range_take_snoc _ _ _ hm)
      have RR := Lib.hid (RX.out.still HB.out)
      have BR := Lib.hid (BX.out.trans (HB.out.mono BX.out.size))
      clear hES HP0 HB0W HP
      go_wp2_with (go_at_call 12; refine (alloc_any w.heap.size o none br gm (slV gs (f4 c0 c1 c2 c3)) g len0 (symF len0 [] x0 [] []) 0 65536 t0 (some ⟨q, 0, none⟩) len1 len1 ES wr ⟨RR.out, TOK0.out, Turned.refl _ _, fun j hj q hq => .inl hq⟩ ER.out ESL.out ESOK.out (by omega) (by omega) (by omega) (by omega) BR.out.size).mono ?_)
      rintro e wf ⟨rfl, vs, hst⟩
      obtain ⟨TF, hTF⟩ : ∃ TF, TF = ES.foldl (tStep (symF len0 [] x0 [] [])) t0 := ⟨_, rfl⟩
      have LOWW : Hid (∀ i, i < wr.heap.size → InT (slV gs (f4 c0 c1 c2 c3)) br gm i → wk.heap.size ≤ i) := Lib.hid (fun i _ hi => LOW.out i hi)
      have hrs := HB.out.size
      have BKF : Hid (Below wk.heap.size wr wf) := Lib.hid (hst.tur.below LOWW.out (by omega))
      have hfs := hst.tur.size
      have QF0 : Hid (Reads wf wf.heap.size 1 A0 len0 (x0.map (Value.int .u8))) := Lib.hid (((QX0.out.below (HB.out.mono hkx)).below BKF.out).more (by omega))
      have QF1 : Hid (Reads wf wf.heap.size 1 A1 len1 (x1.map (Value.int .u32))) := Lib.hid (((QX1.out.below (HB.out.mono hkx)).below BKF.out).more (by omega))
      have QF2 : Hid (Reads wf wf.heap.size 1 A2 len1 (x2.map (Value.int .u32))) := Lib.hid (((QX2.out.below (HB.out.mono hkx)).below BKF.out).more (by omega))
      have hwk := BC.out.size
      have BF := Lib.hid (BR.out.trans (BKF.out.mono hwk))
      have RF1 := Lib.hid hst.ren
      have OKF : Hid (TOk (symF len0 [] x0 [] []) (65536 + len1) TF) := Lib.hid (by rw [hTF]; exact hst.ok)
      rw [← hTF] at RF1
      have PIF : Hid (PInv (symF len0 [] x0 [] []) (f4 c0 c1 c2 c3) TF) := Lib.hid (by rw [hTF]; exact pinv_fold _ PI0.out)
      have HTF := Lib.hid hTF
      clear hst hTF BKF LOWW LOW QX0 QX1 QX2 RX RR ER ESOK BR HB hfs hrs hkx
      have hwfs := BF.out.size
      have hmk1 : ∀ W : World, (Instr.makeSlice 45 (.int .i64 (len0 : Int)) (.int .i64 (len0 : Int))).run Try.prog W = .ok (.slice (some ⟨W.heap.size, 0, none⟩) len0 len0) (W.alloc (.cells (madeCells #[.int .i64 0] len0) 3)) := fun W => by
        obtain ⟨i0, hi, hz0, hz1, hz2⟩ := info_parts intI
        have := run_make (P := Try.prog) W 45 3 i0 (.int .i64 0) Try.underlying45 hi hz0 .i64 .i64 len0 len0 (by omega) (by omega) (by rw [hz2]; omega) (by omega)
        simpa [hz1, Value.cells] using this
      have hmk2 : ∀ W : World, (Instr.makeSlice 23 (.int .i64 (len0 : Int)) (.int .i64 (len0 : Int))).run Try.prog W = .ok (.slice (some ⟨W.heap.size, 0, none⟩) len0 len0) (W.alloc (.cells (madeCells #[.int .u32 0] len0) 24)) := fun W => by
        obtain ⟨i0, hi, hz0, hz1, hz2⟩ := info_parts u32I
        have := run_make (P := Try.prog) W 23 24 i0 (.int .u32 0) Try.underlying23 hi hz0 .i64 .i64 len0 len0 (by omega) (by omega) (by rw [hz2]; omega) (by omega)
        simpa [hz1, Value.cells] using this
      obtain ⟨W2, hW2⟩ : ∃ W2, W2 = wf.alloc (.cells (madeCells #[.int .i64 0] len0) 3) := ⟨_, rfl⟩
      obtain ⟨rb, hrb⟩ : ∃ rb, rb = wf.heap.size := ⟨_, rfl⟩
      have HR0 : Hid (IntBlk W2 rb 3 .i64 len0 (fun m => if m < 0 then -1 else 0)) := Lib.hid (by rw [hW2, hrb]; exact (IntBlk.made _ _ _ _).ext (fun m hm => by simp))
      have HB2 : Hid (Below wf.heap.size wf W2) := Lib.hid (by rw [hW2]; exact (Below.refl _ wf).alloc (Nat.le_refl _) _)
      have HRB : Hid (wf.heap.size ≤ rb) := Lib.hid (by omega)
      have HW2 := Lib.hid hW2; have HRBE := Lib.hid hrb
      clear hW2 hrb
      go_upto_region 18 with fail
      rw [← HW2.out, ← HRBE.out]
      clear HW2 HRBE hmk1
      go_wp2_with fail
      go_loopw [21] (fun c wr => ∃ i : Nat, c = .int .i64 i ∧ i ≤ len0 ∧ IntBlk wr rb 3 .i64 len0 (fun m => if m < i then -1 else 0) ∧ Below wf.heap.size wf wr) (fun c _ => len0 - (intOf c).toNat)
      case atStart => exact ⟨0, rfl, by omega, HR0.out, HB2.out⟩
      case round =>
        obtain ⟨i, rfl, hi, hrk, hbl⟩ := hrel
        have HRK := Lib.hid hrk; have HBL := Lib.hid hbl
        clear hrk hbl
        by_cases hlt : i < len0
        · have c0' := HRK.out.cell hlt
          have z0 := HRK.out.frozen i
          generalize (if i < i then (-1 : Int) else 0) = uu at c0'
          have HFN : Hid (IntBlk (wr.setCell ⟨rb, i, none⟩ (.int .i64 (-1))) rb 3 .i64 len0 (fun m => if m < i + 1 then -1 else 0)) := Lib.hid ((HRK.out.set hlt (-1)).ext (fun m hm => by
            by_cases e : m = i
            · rw [e, updF_at, if_pos (by omega)]
            · rw [updF_ne e]
              by_cases e2 : m < i
              · rw [if_pos e2, if_pos (by omega)]
              · rw [if_neg e2, if_neg (by omega)]))
          have HFB := Lib.hid (HBL.out.setCell (p := ⟨rb, i, none⟩) HRB.out (.int .i64 (-1)))
          go_wp2
          go_roundw
          case rel => exact ⟨i + 1, by go_num, by omega, HFN.out, HFB.out⟩
          case measure => simp [intOf]; omega
        · obtain rfl : len0 = i := by omega
          obtain ⟨wg, rfl⟩ : ∃ W : World, W = wr := ⟨_, rfl⟩
          have HRK2 := Lib.hid (HRK.out.ext (f' := fun _ => -1) (fun m hm => by simp; omega))
          clear HRK HR0 HB2
          obtain ⟨sb, hsb⟩ : ∃ sb, sb = wg.heap.size := ⟨_, rfl⟩
          obtain ⟨Z, hZ⟩ : ∃ Z, Z = (wg.alloc (.cells (madeCells #[.int .u32 0] len0) 24)).alloc (.cells #[.int .i64 0, .int .i64 0, .int .i64 0, .int .i64 0] 46) := ⟨_, rfl⟩
          have hgs := HBL.out.size
          have HLS : Hid (LSt wf Z rb sb (sb + 1) len0 (fun _ => -1) (fun _ => 0) (fun _ => 0)) := Lib.hid (by
            rw [hZ, hsb]
            refine ⟨(HRK2.out.alloc _).alloc _, (IntBlk.made wg _ _ _).alloc _, ⟨#[.int .i64 0, .int .i64 0, .int .i64 0, .int .i64 0], by have := Blk.new (wg.alloc (.cells (madeCells #[.int .u32 0] len0) 24)) 46 #[.int .i64 0, .int .i64 0, .int .i64 0, .int .i64 0]; simpa using this, rfl, fun m hm => ?_⟩, (HBL.out.alloc HBL.out.size _).alloc (by simp; omega) _, HRB.out, hgs, by omega⟩
            rcases (by omega : m = 0 ∨ m = 1 ∨ m = 2 ∨ m = 3) with rfl | rfl | rfl | rfl <;> rfl)
          have HZ := Lib.hid hZ; have HSB := Lib.hid hsb
          clear hZ hsb HRK2
          go_upto_region 24 with fail
          rw [← HZ.out, ← HSB.out]
          clear HZ HSB hmk2 HBL
          go_wp2_with fail
          go_loopw [25, 24, 26, 27] (fun t d s1 s2 wr => ∃ (m dd : Nat) (rank sum fresh : Nat → Int), t = .int .i64 m ∧ d = .int .i64 dd ∧ m ≤ len1 ∧ dd ≤ m ∧ LSt wf wr rb sb (sb + 1) len0 rank sum fresh ∧ GInv (symF len0 [] x0 [] []) (f4 c0 c1 c2 c3) ((ES.take m).foldl (tStep (symF len0 [] x0 [] [])) t0) rank sum fresh dd) (fun t d s1 s2 _ => len1 - (intOf t).toNat)
          case atStart => exact ⟨0, 0, _, _, _, rfl, rfl, by omega, by omega, HLS.out, by simpa using GI0.out⟩
          case round =>
            obtain ⟨k, dd, rank, sum, fresh, rfl, rfl, hk, hdd, hls, hgi⟩ := hrel
            have LS := Lib.hid hls; have GI := Lib.hid hgi
            clear hls hgi
            by_cases hlt : k < len1
            · have hlsb := LS.out.bel.size
              obtain ⟨b1, off1, rfl, hb1, hk1⟩ := reads_any QF1.out (show 0 < len1 by omega)
              obtain ⟨b2, off2, rfl, hb2, hk2⟩ := reads_any QF2.out (show 0 < len1 by omega)
              obtain ⟨tv, htv⟩ : ∃ x, x1[k]? = some x := ⟨_, List.getElem?_eq_getElem (by have := lk1.out; omega)⟩
              obtain ⟨cv, hcv⟩ : ∃ x, x2[k]? = some x := ⟨_, List.getElem?_eq_getElem (by have := lk2.out; omega)⟩
              have tg := HB1.out tv (List.mem_of_getElem? htv)
              have cg := HB2.out cv (List.mem_of_getElem? hcv)
              obtain ⟨i, rfl⟩ := Int.eq_ofNat_of_zero_le tg.1
              have ct : wr.cell? ⟨b1, off1 + k, none⟩ = some (.int .u32 i) := (LS.out.bel.cell (p := ⟨b1, off1 + k, none⟩) hb1).trans (hk1 k _ htv)
              have HCC : Hid (∀ W : World, Below wf.heap.size wf W → W.cell? ⟨b2, off2 + k, none⟩ = some (.int .u32 cv)) := Lib.hid (fun W hb => (hb.cell (p := ⟨b2, off2 + k, none⟩) hb2).trans (hk2 k _ hcv))
              obtain ⟨ti, tp⟩ := HT.out k hlt
              have hti : x1.getD k 0 = (i : Int) := by rw [List.getD_eq_getElem?_getD, htv]; rfl
              rw [hti] at ti tp
              rw [Int.toNat_natCast] at tp
              have hil : i < len0 := by omega
              obtain ⟨b0, off0, rfl, hb0, hk0⟩ := reads_any QF0.out (show 0 < len0 by omega)
              obtain ⟨kv, hkv⟩ : ∃ x, x0[i]? = some x := ⟨_, List.getElem?_eq_getElem (by have := lk0.out; omega)⟩
              have kg := HB0.out kv (List.mem_of_getElem? hkv)
              have ck : wr.cell? ⟨b0, off0 + i, none⟩ = some (.int .u8 kv) := (LS.out.bel.cell (p := ⟨b0, off0 + i, none⟩) hb0).trans (hk0 i _ hkv)
              have hkd : x0.getD i 0 = kv := by rw [List.getD_eq_getElem?_getD, hkv]; rfl
              obtain ⟨j, hj⟩ : ∃ j, j = nsS (symF len0 [] x0 [] []) i := ⟨_, rfl⟩
              have hj4 : j < 4 := by rw [hj]; exact nsJ_lt _
              have HNS : Hid (nsI kv = (j : Int)) := Lib.hid (by rw [nsI_kd, hj, ← hkd]; rfl)
              obtain ⟨T, hTT⟩ : ∃ T, T = (ES.take k).foldl (tStep (symF len0 [] x0 [] [])) t0 := ⟨_, rfl⟩
              have HNX : Hid ((ES.take (k + 1)).foldl (tStep (symF len0 [] x0 [] [])) t0 = tStep (symF len0 [] x0 [] []) T (i, cv)) := Lib.hid (by
                rw [SNOC.out k hlt, List.foldl_append, ← hTT]
                show tStep _ T (entY x1 x2 k) = _
                unfold entY
                rw [hti, List.getD_eq_getElem?_getD, hcv]; rfl)
              have PIK : Hid (PInv (symF len0 [] x0 [] []) (f4 c0 c1 c2 c3) T) := Lib.hid (by rw [hTT]; exact pinv_fold _ PI0.out)
              have TLEN : Hid (∀ j, (T.sl j).length ≤ 16777216) := Lib.hid (fun j => by
                have := (tok_fold (ES.take k) TOK0.out).len j
                rw [← hTT, List.length_take, ESL.out] at this
                omega)
              rw [← hTT] at GI
              have HJ := Lib.hid hj
              clear hk0 hk1 hk2 htv hcv tg ti tp hkv hkd hti hj hTT
              have cr := LS.out.rk.cell hil
              have zr := LS.out.rk.frozen i
              have hiw : IntKind.i64.wrap (i : Int) = i := IntWalk.i64_in _ (by omega)
              go_upto_if 121 with fail
              go_cut [24, 27] (fun d s wx => ∃ (d2 : Nat) (rank2 fresh2 : Nat → Int), d = .int .i64 d2 ∧ d2 ≤ k + 1 ∧ LSt wf wx rb sb (sb + 1) len0 rank2 sum fresh2 ∧ GInv (symF len0 [] x0 [] []) (f4 c0 c1 c2 c3) (tStep (symF len0 [] x0 [] []) T (i, cv)) rank2 (updF sum i (IntKind.u32.wrap (sum i + cv))) fresh2 d2)
              case first =>
                cases htm : T.tm i with
                | none =>
                  have hri := (GI.out.no i htm).1
                  have hf := GI.out.fr j
                  have hf1 := PIK.out.len j
                  have hf2 := TLEN.out j
                  have f0 : 0 ≤ fresh j := by omega
                  have f1 : fresh j ≤ 16777216 := by omega
                  have HGN : Hid (GInv (symF len0 [] x0 [] []) (f4 c0 c1 c2 c3) (tStep (symF len0 [] x0 [] []) T (i, cv)) (updF rank i (fresh j)) (updF sum i (IntKind.u32.wrap (sum i + cv))) (updF fresh j (fresh j + 1)) (dd + 1)) := Lib.hid (by have h := GI.out.new PIK.out htm cg.1 cg.2; rw [← HJ.out] at h; exact h)
                  have HLN := Lib.hid ((LS.out.setRk hil (fresh j)).setFr hj4 (fresh j + 1))
                  have cf := LS.out.fr.cell hj4
                  have zf := LS.out.fr.frozen j
                  have cf2 := (LS.out.setRk hil (fresh j)).fr.cell hj4
                  have zf2 := (LS.out.setRk hil (fresh j)).fr.frozen j
                  have hddb : (dd : Int) ≤ 65536 := by omega
                  have hrn : rank i < 0 := by omega
                  clear hri
                  generalize rank i = rv at cr hrn
                  generalize fresh j = fv at *
                  have hw1 : IntKind.i64.wrap (fv + 1) = fv + 1 := IntWalk.i64_in _ (by omega)
                  have hd1 : IntKind.i64.wrap ((dd : Int) + 1) = (dd : Int) + 1 := IntWalk.i64_in _ (by omega)
                  have j0 : (0 : Int) ≤ (j : Int) := by omega
                  have j1 : (j : Int) < 4 := by omega
                  clear hf hf1 hf2
                  go_wp2_with (go_at_call 13; refine (ns_any kv kg.1 kg.2 _).mono ?_; rw [HNS.out]; rintro e wz ⟨rfl, rfl⟩)
                  go_meet
                  exact ⟨dd + 1, _, _, by go_num, by omega, HLN.out, HGN.out⟩
                | some v =>
                  have hri : ¬ rank i < 0 := fun h => by have := (GI.out.rank_neg PIK.out i).1 h; rw [htm] at this; cases this
                  have HGN := Lib.hid (GI.out.old PIK.out (c := cv) htm)
                  generalize rank i = rv at cr hri
                  clear htm
                  go_wp2_with fail
                  go_meet
                  exact ⟨dd, _, _, rfl, by omega, LS.out, HGN.out⟩
              case rest =>
              obtain ⟨d2, rank2, fresh2, rfl, hd2, hls2, hgi2⟩ := hcut
              obtain ⟨wn, rfl⟩ : ∃ W : World, W = wc := ⟨_, rfl⟩
              have LS2 := Lib.hid hls2
              have GI2 := Lib.hid hgi2
              have cc := HCC.out wn hls2.bel
              have cs := hls2.sm.cell hil
              have zs := hls2.sm.frozen i
              have HSET : Hid (∀ (W : World) (v : Int), (W = wn ∨ W = wn.drew ∨ W = wn.drew.drew) → LSt wf (W.setCell ⟨sb, i, none⟩ (.int .u32 v)) rb sb (sb + 1) len0 rank2 (updF sum i v) fresh2) := Lib.hid (fun W v hW => by
                have h : LSt wf W rb sb (sb + 1) len0 rank2 sum fresh2 := by
                  rcases hW with rfl | rfl | rfl
                  · exact LS2.out
                  · exact LS2.out.grown (only_drew (World.grownBy.refl _ _))
                  · exact LS2.out.grown (only_drew (only_drew (World.grownBy.refl _ _)))
                exact h.setSm hil v)
              have j0 : (0 : Int) ≤ (k : Int) := by omega
              have j1 : (k : Int) < (len1 : Int) := by omega
              have j2 : (0 : Int) ≤ (i : Int) := by omega
              have j3 : (i : Int) < (len0 : Int) := by omega
              rw [IntKind.wrap_u32] at GI2
              generalize sum i = sv at cs GI2
              clear hls2 hgi2 cr zr ct ck LS GI HCC
              go_upto_region 34 with fail
              go_region
              all_goals
                go_wp2_with fail
                go_roundw
                case rel => exact ⟨k + 1, d2, rank2, _, fresh2, by go_num, rfl, by omega, hd2, by first | exact HSET.out _ _ (by first | exact Or.inl rfl | exact Or.inr (Or.inl rfl) | exact Or.inr (Or.inr rfl)) | exact (HSET.out wn _ (Or.inl rfl)).grown (only_drew (World.grownBy.refl _ _)) | exact (HSET.out wn.drew _ (Or.inr (Or.inl rfl))).grown (only_drew (World.grownBy.refl _ _)), by rw [HNX.out]; exact GI2.out⟩
                case measure => simp [intOf]; omega
            · obtain rfl : len1 = k := by omega
              rw [List.take_of_length_le (by rw [ESL.out]; omega), ← HTF.out] at GI
              obtain ⟨wl, rfl⟩ : ∃ W : World, W = wr := ⟨_, rfl⟩
              have HR := Lib.hid (RF1.out.still LS.out.bel)
              have hddb : (dd : Int) ≤ 65536 := by omega
              have BL := Lib.hid (BF.out.trans (LS.out.bel.mono hwfs))
              have QL0 := Lib.hid (QF0.out.below LS.out.bel)
              clear QF0 QF1 QF2
              go_wp2_with (go_at_call 14; refine (topLen _ HR.out GI.out).mono ?_; rintro e wz ⟨rfl, rfl⟩)
              have FRB : Hid (∀ j, 0 ≤ fresh j ∧ fresh j ≤ 16777216 ∧ (((f4 c0 c1 c2 c3) j : Nat) : Int) + fresh j = ((TF.sl j).length : Nat)) := Lib.hid (fun j => by
                have h1 := GI.out.fr j
                have h2 := PIF.out.len j
                have h3 := OKF.out.len j
                refine ⟨by omega, by omega, by omega⟩)
              go_loopw [28, 29, 30] (fun a b c wr => ∃ j M : Nat, a = .int .i64 j ∧ j ≤ 4 ∧ wr = wl.drewN M) (fun a b c _ => 4 - (intOf a).toNat)
              case atStart => exact ⟨0, 0, rfl, by omega, rfl⟩
              case round =>
                obtain ⟨j, M, rfl, hj, hw⟩ := hrel
                have HW := Lib.hid hw
                clear hw
                by_cases hlt : j < 4
                · have LSW : Hid (LSt wf wr rb sb (sb + 1) len0 rank sum fresh) := Lib.hid (by rw [HW.out]; exact LS.out.grown (only_drewN (World.grownBy.refl _ _) M))
                  have HRW : Hid (∀ M', TRen w.heap.size o none br gm vs g len0 (symF len0 [] x0 [] []) (0 + len1) TF (wr.drewN M')) := Lib.hid (fun M' => by rw [HW.out]; exact (HR.out.grown (only_drewN (World.grownBy.refl _ _) M)).grown (only_drewN (World.grownBy.refl _ _) M'))
                  have SLX : Hid (∀ M', Calls Try.prog 16 #[.pointer (some ⟨br, 0, none⟩), .int .i64 j] (wr.drewN M') fun e w' => e = .returned (.int .i64 ((TF.sl j).length : Nat)) ∧ w' = wr.drewN M') := Lib.hid (fun M' => (slotLen j hlt _ (HRW.out M')).mono fun _ _ h => ⟨h.1, h.2.symm⟩)
                  obtain ⟨f0, f1, f2⟩ := FRB.out j
                  have hcl := CLA.out j
                  have cf := LSW.out.fr.cell hlt
                  have hll := OKF.out.len j
                  have hzero : Hid (∀ m, m < (f4 c0 c1 c2 c3) j → ((TF.sl j).getD m (0, 0)).1 = 0) := Lib.hid (fun m hm => PIF.out.zero j m hm)
                  have hlen := PIF.out.len j
                  have CA1 := Lib.hid (fun W => cAt4 c0 c1 c2 c3 j hlt W)
                  generalize (f4 c0 c1 c2 c3) j = cb at hcl f2 hzero hlen CA1
                  generalize fresh j = fv at cf f0 f1 f2
                  have hw1 : IntKind.i64.wrap ((cb : Int) + fv) = (cb : Int) + fv := IntWalk.i64_in _ (by omega)
                  have hw2 : IntKind.i64.wrap (cb : Int) = cb := IntWalk.i64_in _ (by omega)
                  have j0 : (0 : Int) ≤ (j : Int) := by omega
                  have j1 : (j : Int) < 4 := by omega
                  have t1 : ((((TF.sl j).length : Nat) : Int) != (cb : Int) + fv) = false := by rw [f2]; simp
                  have F2 := Lib.hid f2
                  clear f2
                  go_wp2_with (go_at_call 15; refine (CA1.out _).mono ?_; rintro e wz ⟨rfl, rfl⟩)
                  go_upto_region 41 with fail
                  go_quiet ((go_at_call 16; exact Calls.quiet_of_same (SLX.out _)))
                  clear SLX cf
                  obtain ⟨wq, hwq⟩ : ∃ W : World, W = wr.drewN nq := ⟨_, rfl⟩
                  have HWQ : Hid (wq = wl.drewN (M + nq)) := Lib.hid (by rw [hwq, HW.out, World.drewN_drewN])
                  have HRQ : Hid (TRen w.heap.size o none br gm vs g len0 (symF len0 [] x0 [] []) (0 + len1) TF wq) := Lib.hid (by rw [hwq]; exact HRW.out nq)
                  rw [← hwq]
                  clear hwq HRW HW
                  go_wp2_with fail
                  go_loopw [30] (fun a wy => ∃ m : Nat, a = .int .i64 m ∧ m ≤ cb ∧ wy = wq) (fun a _ => cb - (intOf a).toNat)
                  case atStart => exact ⟨0, rfl, by omega, rfl⟩
                  case round =>
                    obtain ⟨m, rfl, hm, rfl⟩ := hrel
                    by_cases hml : m < cb
                    · obtain ⟨p, hp⟩ : ∃ p, (TF.sl j)[m]? = some p := ⟨_, List.getElem?_eq_getElem (by omega)⟩
                      have hp0 : p.1 = 0 := by have := hzero.out m hml; rw [List.getD_eq_getElem?_getD, hp] at this; exact this
                      have HP := Lib.hid hp
                      have SC1 := Lib.hid (slotCount j m hlt p hp (by omega) _ HRQ.out)
                      rw [hp0] at SC1
                      clear hp hp0
                      go_wp2_with (go_at_call 17; refine SC1.out.mono ?_; rintro e wz ⟨rfl, rfl⟩)
                      go_roundw
                      case rel => exact ⟨m + 1, by go_num, by omega, by trivial⟩
                      case measure => simp [intOf]; omega
                    · obtain rfl : cb = m := by omega
                      go_wp2_with fail
                      go_roundw
                      case rel => exact ⟨j + 1, M + nq, by go_num, by omega, HWQ.out⟩
                      case measure => simp [intOf]; omega
                · skip
                  have LSW : Hid (LSt wf wr rb sb (sb + 1) len0 rank sum fresh) := Lib.hid (by rw [HW.out]; exact LS.out.grown (only_drewN (World.grownBy.refl _ _) M))
                  have HRW : Hid (TRen w.heap.size o none br gm vs g len0 (symF len0 [] x0 [] []) (0 + len1) TF wr) := Lib.hid (by rw [HW.out]; exact HR.out.grown (only_drewN (World.grownBy.refl _ _) M))
                  have BW : Hid (Below w.heap.size w wr) := Lib.hid (by rw [HW.out]; exact below_drewN BL.out M)
                  have QW : Hid (Reads wr wf.heap.size 1 A0 len0 (x0.map (Value.int .u8))) := Lib.hid (by rw [HW.out]; exact QL0.out.drewN M)
                  obtain ⟨wm, rfl⟩ : ∃ W : World, W = wr := ⟨_, rfl⟩
                  clear HW LS HR BL QL0
                  go_wp2_with fail
                  go_loopw [31, 32, 33, 34] (fun a s1 s2 s3 wr => ∃ i : Nat, a = .int .i64 i ∧ i ≤ len0 ∧ LSt wf wr rb sb (sb + 1) len0 rank sum fresh ∧ TRen w.heap.size o none br gm vs g len0 (symF len0 [] x0 [] []) (0 + len1) TF wr ∧ Below w.heap.size w wr ∧ Reads wr wf.heap.size 1 A0 len0 (x0.map (Value.int .u8))) (fun a s1 s2 s3 _ => len0 - (intOf a).toNat)
                  case atStart => exact ⟨0, rfl, by omega, LSW.out, HRW.out, BW.out, QW.out⟩
                  case round =>
                    obtain ⟨i, rfl, hi, hls, hrw, hbw, hqw⟩ := hrel
                    have LS := Lib.hid hls; have HR := Lib.hid hrw; have BL := Lib.hid hbw; have QL0 := Lib.hid hqw
                    clear hls hrw hbw hqw LSW HRW BW QW
                    by_cases hlt : i < len0
                    · have cr := LS.out.rk.cell hlt
                      cases htm : TF.tm i with
                      | none =>
                        have hrn : rank i < 0 := by have := (GI.out.no i htm).1; omega
                        generalize rank i = rv at cr hrn
                        clear htm
                        go_wp2_with fail
                        go_roundw
                        case rel => exact ⟨i + 1, by go_num, by omega, LS.out, HR.out, BL.out, QL0.out⟩
                        case measure => simp [intOf]; omega
                      | some v =>
                        obtain ⟨y1, y2⟩ := GI.out.yes i v htm
                        obtain ⟨p1, p2⟩ := PIF.out.lo i v htm
                        have hlen := OKF.out.len (nsS (symF len0 [] x0 [] []) i)
                        obtain ⟨b0, off0, rfl, hb0, hk0⟩ := reads_any QL0.out (show 0 < len0 by omega)
                        obtain ⟨kv, hkv⟩ : ∃ x, x0[i]? = some x := ⟨_, List.getElem?_eq_getElem (by have := lk0.out; omega)⟩
                        have kg := HB0.out kv (List.mem_of_getElem? hkv)
                        have ck : wr.cell? ⟨b0, off0 + i, none⟩ = some (.int .u8 kv) := hk0 i _ hkv
                        have hkd : x0.getD i 0 = kv := by rw [List.getD_eq_getElem?_getD, hkv]; rfl
                        obtain ⟨j, hj⟩ : ∃ j, j = nsS (symF len0 [] x0 [] []) i := ⟨_, rfl⟩
                        have hj4 : j < 4 := by rw [hj]; exact nsJ_lt _
                        have HNS : Hid (nsI kv = (j : Int)) := Lib.hid (by rw [nsI_kd, hj, ← hkd]; rfl)
                        rw [← hj] at y1 y2 p1 p2 hlen
                        obtain ⟨p, hp⟩ : ∃ p, (TF.sl j)[v]? = some p := ⟨_, List.getElem?_eq_getElem p2⟩
                        have y3 : sum i = p.1 := by rw [y2, List.getD_eq_getElem?_getD, hp]; rfl
                        have CA1 := Lib.hid (fun W => cAt4 c0 c1 c2 c3 j hj4 W)
                        have SLT : Hid (∀ W, TRen w.heap.size o none br gm vs g len0 (symF len0 [] x0 [] []) (0 + len1) TF W → Calls Try.prog 18 #[.pointer (some ⟨br, 0, none⟩), .agg #[.int .u32 0, .int .u32 i]] W (KPost (.tuple #[.int .u32 (v : Int), .bool true]) W)) := Lib.hid (fun W h => by have := topSlot i (by omega) W h; rw [htm] at this; exact this)
                        have HSC : Hid (∀ W, TRen w.heap.size o none br gm vs g len0 (symF len0 [] x0 [] []) (0 + len1) TF W → Calls Try.prog 17 #[.pointer (some ⟨br, 0, none⟩), .int .i64 j, .int .i64 v] W fun e w' => e = .returned (.int .u32 (sum i)) ∧ w' = W) := Lib.hid (fun W h => (slotCount j v hj4 p hp (by omega) W h).mono fun _ _ h => ⟨by rw [h.1, y3], h.2.symm⟩)
                        generalize (f4 c0 c1 c2 c3) j = cb at y1 p1 CA1
                        have hcl : cb ≤ 16777216 := by omega
                        have hv : v ≤ 16777216 := by omega
                        have hrn : ¬ rank i < 0 := by omega
                        have hsum : (cb : Int) + rank i = v := by omega
                        have CAX : Hid (∀ W, Calls Try.prog 15 #[.int .u32 (c0 : Int), .int .u32 (c1 : Int), .int .u32 (c2 : Int), .int .u32 (c3 : Int), .int .i64 (j : Int)] W fun e w' => e = .returned (.int .u32 (cb : Int)) ∧ w' = W) := Lib.hid (fun W => (CA1.out W).mono fun _ _ h => ⟨h.1, h.2.symm⟩)
                        have HLSN : Hid (∀ W : World, wr.grownBy W none → LSt wf W rb sb (sb + 1) len0 rank sum fresh ∧ TRen w.heap.size o none br gm vs g len0 (symF len0 [] x0 [] []) (0 + len1) TF W ∧ Below w.heap.size w W ∧ Reads W wf.heap.size 1 (some ⟨b0, off0, none⟩) len0 (x0.map (Value.int .u8))) := Lib.hid (fun W hg => ⟨LS.out.grown hg, HR.out.grown hg, BL.out.grown hg BL.out.size (fun k hk => by cases hk), QL0.out.keep (fun p hp => World.cell?_of_block (hg.block p.block (by have := LS.out.bel.size; omega) (by simp)))⟩)
                        have hw1 : IntKind.u32.wrap (i : Int) = i := by rw [IntKind.wrap_u32]; omega
                        have hw2 : IntKind.i64.wrap (cb : Int) = cb := IntWalk.i64_in _ (by omega)
                        have hw3 : IntKind.i64.wrap (v : Int) = v := IntWalk.i64_in _ (by omega)
                        clear htm y1 y2 y3 p1 p2 hk0 hkv hkd hj hp CA1
                        go_wp2_with (go_at_call 13; refine (ns_any kv kg.1 kg.2 _).mono ?_; rw [HNS.out]; rintro e wz ⟨rfl, rfl⟩)
                        go_wp2_with (go_at_call 11; refine (ref_any i _).mono ?_)
                        rintro e w1 ⟨rfl, hg1⟩
                        have HG1 := Lib.hid hg1
                        clear hg1
                        go_wp2_with (go_at_call 18; refine (SLT.out _ (HLSN.out _ HG1.out).2.1).mono ?_)
                        rintro e w2 ⟨rfl, hg2⟩
                        have HG2 := Lib.hid (grown_tr HG1.out hg2)
                        clear hg2 SLT HG1
                        have HSCX : Hid (∀ W, wr.grownBy W none → Calls Try.prog 17 #[.pointer (some ⟨br, 0, none⟩), .int .i64 j, .int .i64 v] W fun e w' => e = .returned (.int .u32 (sum i)) ∧ w' = W) := Lib.hid (fun W h => HSC.out W (HLSN.out W h).2.1)
                        have HRNK : Hid (∀ W, wr.grownBy W none → W.cell? ⟨rb, i, none⟩ = some (.int .i64 (rank i)) ∧ W.cell? ⟨sb, i, none⟩ = some (.int .u32 (sum i))) := Lib.hid (fun W h => ⟨(HLSN.out W h).1.rk.cell hlt, (HLSN.out W h).1.sm.cell hlt⟩)
                        generalize sum i = sv at HSCX HRNK
                        generalize rank i = rv at hrn hsum HRNK
                        clear cr ck HSC
                        have hsw : IntKind.i64.wrap ((cb : Int) + rv) = v := by rw [hsum]; exact IntWalk.i64_in _ (by omega)
                        have j0 : (0 : Int) ≤ (i : Int) := by omega
                        have j1 : (i : Int) < (len0 : Int) := by omega
                        have HSUM := Lib.hid hsum
                        clear hsum
                        go_upto_region 54 with fail
                        have k1 := (HRNK.out w2 HG2.out).1
                        go_quiet ((go_at_call 15; exact Calls.quiet_of_same (CAX.out _)))
                        clear k1
                        obtain ⟨wq, hwq⟩ : ∃ W : World, W = w2.drewN nq := ⟨_, rfl⟩
                        have HGQ : Hid (wr.grownBy wq none) := Lib.hid (by rw [hwq]; exact only_drewN HG2.out nq)
                        rw [← hwq]
                        clear hwq HG2 nq
                        go_upto_region 56 with fail
                        have k2 := (HRNK.out wq HGQ.out).2
                        have HSCY : Hid (∀ M, Calls Try.prog 17 #[.pointer (some ⟨br, 0, none⟩), .int .i64 j, .int .i64 v] (wq.drewN M) fun e w' => e = .returned (.int .u32 sv) ∧ w' = wq.drewN M) := Lib.hid (fun M => HSCX.out _ (only_drewN HGQ.out M))
                        go_quiet ((go_at_call 17; exact Calls.quiet_of_same (HSCY.out _)))
                        go_wp2_with fail
                        go_roundw
                        case rel =>
                          obtain ⟨q1, q2, q3, q4⟩ := HLSN.out _ (only_drewN HGQ.out nq)
                          exact ⟨i + 1, by go_num, by omega, q1, q2, q3, q4⟩
                        case measure => simp [intOf]; omega
                    · obtain rfl : len0 = i := by omega
                      go_wp2
                      go_ret
                      exact ⟨rfl, BL.out⟩

/-! ### THE ROW's STEP -/
set_option maxRecDepth 100000 in
theorem lifted (os : Os) (started : os.Started) (H : Type) (enc : TypeId × Value → H) :
    ReturnsInHanded {} Try.checked os 3 .any (Rows.fnNewMinifyRenamerAllocateTopLevelSpec.pre6 enc Try.prog Try.f3 Rows.fnNewMinifyRenamerAllocateTopLevelRow.domain false) (Rows.fnNewMinifyRenamerAllocateTopLevelSpec.post enc Try.prog Try.f3 false true false false) := by
  refine returnsInHanded_of_change (C := Try.checked) own started (by kernel_rfl) Try.func3
    (ChangeSpec.witness6 (enc := enc) (C := Try.checked) false ⟨#[], #[.slice none 0 0, .slice none 0 0, .slice none 0 0, .int .u32 0, .int .u32 0, .int .u32 0, .int .u32 0], []⟩ 8 (by kernel_rfl) (by kernel_rfl) (by kernel_rfl) (by kernel_rfl)) ?_
  intro W base args ds gs before hval0 hW hcnd _
  have hval : ∀ (j : Nat) t v, Try.f3.params[j]? = some t → args[j]? = some v → Value.okWide Try.prog W .any base t v := hval0
  have hW' := hW
  obtain ⟨p, q, hA0, hV, rfl, hfz, hnd⟩ := hW
  have hA : DataW.TrodAll enc Try.prog W 0 (fun _ => true) true Try.f3.params.toList args.toList ds p := hA0
  rw [Try.params3] at hA hval
  obtain ⟨v0, vs0, d0, ds0, p0, q0, hargs, rfl, rfl, h0, r0⟩ := trodAll_cons hA
  obtain ⟨v1, vs1, d1, ds1, p1, q1, rfl, rfl, rfl, h1, r1⟩ := trodAll_cons r0
  obtain ⟨v2, vs2, d2, ds2, p2, q2, rfl, rfl, rfl, h2, r2⟩ := trodAll_cons r1
  obtain ⟨v3, vs3, d3, ds3, p3, q3, rfl, rfl, rfl, h3, r3⟩ := trodAll_cons r2
  obtain ⟨v4, vs4, d4, ds4, p4, q4, rfl, rfl, rfl, h4, r4⟩ := trodAll_cons r3
  obtain ⟨v5, vs5, d5, ds5, p5, q5, rfl, rfl, rfl, h5, r5⟩ := trodAll_cons r4
  obtain ⟨v6, vs6, d6, ds6, p6, q6, rfl, rfl, rfl, h6, r6⟩ := trodAll_cons r5
  obtain ⟨rfl, rfl, rfl⟩ := trodAll_nil r6
  obtain rfl : args = #[v0, v1, v2, v3, v4, v5, v6] := by cases args; simp_all
  obtain ⟨rfl, rfl⟩ := trodVars_none hV
  have k0 := h0
  have lt0 : ∀ x ∈ p0, x.block < W.heap.size := by obtain ⟨m, hm⟩ := k0; exact DataW.trod_lt m _ _ _ hm
  have k1 := h1
  have lt1 : ∀ x ∈ p1, x.block < W.heap.size := by obtain ⟨m, hm⟩ := k1; exact DataW.trod_lt m _ _ _ hm
  have k2 := h2
  have lt2 : ∀ x ∈ p2, x.block < W.heap.size := by obtain ⟨m, hm⟩ := k2; exact DataW.trod_lt m _ _ _ hm
  have k3 := h3
  have lt3 : ∀ x ∈ p3, x.block < W.heap.size := by obtain ⟨m, hm⟩ := k3; exact DataW.trod_lt m _ _ _ hm
  have k4 := h4
  have lt4 : ∀ x ∈ p4, x.block < W.heap.size := by obtain ⟨m, hm⟩ := k4; exact DataW.trod_lt m _ _ _ hm
  have k5 := h5
  have lt5 : ∀ x ∈ p5, x.block < W.heap.size := by obtain ⟨m, hm⟩ := k5; exact DataW.trod_lt m _ _ _ hm
  have k6 := h6
  have lt6 : ∀ x ∈ p6, x.block < W.heap.size := by obtain ⟨m, hm⟩ := k6; exact DataW.trod_lt m _ _ _ hm
  obtain ⟨a0, len0, cap0, rfl⟩ := okWide_slice Try.underlying22 (hval 0 22 v0 rfl rfl)
  obtain ⟨z0, w0⟩ : ∃ zs, IsRow .u8 W a0 len0 cap0 zs := by
    obtain ⟨fuel, hf⟩ := h0
    rcases open_ints Try.underlying22 Try.underlying5 (by kernel_rfl) hf with ⟨hcs, _⟩ | ⟨x, l, c, zs, hcs, _, hl, hm, hz, _, hcell, hwz⟩
    · simp [Value.cells] at hcs
      obtain ⟨rfl, rfl, rfl⟩ := hcs
      exact ⟨[], .inl ⟨rfl, rfl, rfl, rfl⟩⟩
    · simp [Value.cells] at hcs
      obtain ⟨rfl, rfl, rfl⟩ := hcs
      exact ⟨zs, .inr ⟨_, rfl, hl, hm, by simpa using hz, hcell, hwz⟩⟩
  obtain ⟨a1, len1, cap1, rfl⟩ := okWide_slice Try.underlying23 (hval 1 23 v1 rfl rfl)
  obtain ⟨z1, w1⟩ : ∃ zs, IsRow .u32 W a1 len1 cap1 zs := by
    obtain ⟨fuel, hf⟩ := h1
    rcases open_ints Try.underlying23 Try.underlying24 (by kernel_rfl) hf with ⟨hcs, _⟩ | ⟨x, l, c, zs, hcs, _, hl, hm, hz, _, hcell, hwz⟩
    · simp [Value.cells] at hcs
      obtain ⟨rfl, rfl, rfl⟩ := hcs
      exact ⟨[], .inl ⟨rfl, rfl, rfl, rfl⟩⟩
    · simp [Value.cells] at hcs
      obtain ⟨rfl, rfl, rfl⟩ := hcs
      exact ⟨zs, .inr ⟨_, rfl, hl, hm, by simpa using hz, hcell, hwz⟩⟩
  obtain ⟨a2, len2, cap2, rfl⟩ := okWide_slice Try.underlying23 (hval 2 23 v2 rfl rfl)
  obtain ⟨z2, w2⟩ : ∃ zs, IsRow .u32 W a2 len2 cap2 zs := by
    obtain ⟨fuel, hf⟩ := h2
    rcases open_ints Try.underlying23 Try.underlying24 (by kernel_rfl) hf with ⟨hcs, _⟩ | ⟨x, l, c, zs, hcs, _, hl, hm, hz, _, hcell, hwz⟩
    · simp [Value.cells] at hcs
      obtain ⟨rfl, rfl, rfl⟩ := hcs
      exact ⟨[], .inl ⟨rfl, rfl, rfl, rfl⟩⟩
    · simp [Value.cells] at hcs
      obtain ⟨rfl, rfl, rfl⟩ := hcs
      exact ⟨zs, .inr ⟨_, rfl, hl, hm, by simpa using hz, hcell, hwz⟩⟩
  obtain ⟨a3, rfl, rfl, rfl, w3⟩ := open_int Try.underlying24 (hval 3 24 v3 rfl rfl) h3
  obtain ⟨a4, rfl, rfl, rfl, w4⟩ := open_int Try.underlying24 (hval 4 24 v4 rfl rfl) h4
  obtain ⟨a5, rfl, rfl, rfl, w5⟩ := open_int Try.underlying24 (hval 5 24 v5 rfl rfl) h5
  obtain ⟨a6, rfl, rfl, rfl, w6⟩ := open_int Try.underlying24 (hval 6 24 v6 rfl rfl) h6
  clear hA0 hval0
  refine (walk a0 len0 cap0 z0 a1 len1 cap1 z1 a2 len2 cap2 z2 a3 a4 a5 a6 W w0 w1 w2 w3 w4 w5 w6 ).mono fun e W' ⟨he, bel⟩ => ?_
  subst he
  exact ⟨_, rfl, _, _, _, [], _, [], hW', trodAll_mk1 (shut_bool Try.underlying4 _), (trodAll_cons_mk (Below.trod laidOut (by kernel_rfl) (of_decide_eq_true (by kernel_rfl)) k0 bel lt0) (trodAll_cons_mk (Below.trod laidOut (by kernel_rfl) (of_decide_eq_true (by kernel_rfl)) k1 bel lt1) (trodAll_cons_mk (Below.trod laidOut (by kernel_rfl) (of_decide_eq_true (by kernel_rfl)) k2 bel lt2) (trodAll_cons_mk (Below.trod laidOut (by kernel_rfl) (of_decide_eq_true (by kernel_rfl)) k3 bel lt3) (trodAll_cons_mk (Below.trod laidOut (by kernel_rfl) (of_decide_eq_true (by kernel_rfl)) k4 bel lt4) (trodAll_cons_mk (Below.trod laidOut (by kernel_rfl) (of_decide_eq_true (by kernel_rfl)) k5 bel lt5) (trodAll_cons_mk (Below.trod laidOut (by kernel_rfl) (of_decide_eq_true (by kernel_rfl)) k6 bel lt6) trodAll_mk0))))))), rfl, bel.frame _, fun h => by cases h⟩

theorem over : Rows.fnNewMinifyRenamerAllocateTopLevelRow.holds Try.pinned (OpenSpec.ofChange Rows.fnNewMinifyRenamerAllocateTopLevelSpec) :=
  OpenClaim.holds_of_wide 3 Try.f3 rfl rfl rfl rfl rfl rfl rfl ⟨rfl, rfl, rfl, rfl, rfl⟩ rfl rfl rfl rfl rfl (by kernel_rfl) Try.func3 (by kernel_rfl)
    (of_decide_eq_true (by kernel_rfl)) (by unfold Func.isWrapper; first | (rw [if_pos (by decide +kernel)]; kernel_rfl) | (rw [if_neg (by decide +kernel)]; exact ⟨rfl, rfl⟩))
    (fun os started H enc _ => lifted os started H enc)

theorem proved : Rows.FnNewMinifyRenamerAllocateTopLevelSaid := over
#print axioms proved
end Go.Proofs.Ytlpmkbdglpnjhaa.fnNewMinifyRenamerAllocateTopLevel