/-
  PROVED: for every table of one file whose links point forward and every symbol of it, a fresh minify renamer answers the original name of the end of the link chain where that symbol is pinned or has no nested slot, and the empty text where it has one.
-/
import Derived.Test.YtgjmjdacdjobjaaDoorRows
import Derived.Test.YtgjmjdacdjobjaaDoorCards
import Derived.Test.YtgjmjdacdjobjaaDoorTie
import Derived.WalkKit
import Derived.ProofKit
import Derived.Deep.QuietTactic
import Derived.BigQuiet
import Derived.IntWalk
import Derived.Deep.RegionWith
import Derived.Outline
import Derived.LoopTactic
import Derived.WalkSpells
import Derived.Deep.Light
import Derived.Test.YtgjmjdacdjobjaaDoorClu
import Derived.Test.YtgjmjdacdjobjaaDoorClb
import Derived.Test.YtgjmjdacdjobjaaDoorInw
import Derived.Test.YtgjmjdacdjobjaaDoorMhl
import Derived.Test.YtgjmjdacdjobjaaDoorMnm
import Derived.OpenShut
import Derived.ShutString
import Derived.ChangeOld
import Derived.Below
import Derived.Carry
import Derived.SliceStrings
import Derived.OpenVars
import Derived.Handy
import Derived.Lay
import Derived.SevenTiedAt
namespace Go.Proofs.YtgjmjdacdjobjaaDoor.fnMinifyNameForSymbolFresh
open Go.ChangeShapes Go.WideShapes Go.ChangeAt Go.RowKit
open Go.ChangeMaps (open_string shut_string)
set_option linter.unusedVariables false
set_option linter.unusedSimpArgs false

theorem own : ownKnob Tryd.prog.godebug = none := by kernel_rfl
theorem laidOut : laidOutB Tryd.pinned.checked.prog = true := by kernel_rfl

/-- What the walk is told of a slice of integers that came in. -/
def IsRow (k : IntKind) (w : World) (a : Option Addr) (len cap : Nat) (zs : List Int) : Prop :=
  (a = none ∧ len = 0 ∧ cap = 0 ∧ zs = []) ∨
  ∃ x, a = some x ∧ len ≤ cap ∧ cap ≤ maxLen ∧ zs.length = cap ∧ (∀ i, i < zs.length → w.cell? (x.add i) = some (.int k (zs.getD i 0))) ∧ ∀ n ∈ zs, (Lit.int k n).wf = true
theorem isrow_reads {k : IntKind} {w : World} {a : Option Addr} {len cap : Nat} {zs : List Int} (h : IsRow k w a len cap zs) : Reads w w.heap.size 1 a len ((zs.take len).map (Value.int k)) ∧ (a = none → len = 0) ∧ len ≤ maxLen := by
  rcases h with ⟨rfl, rfl, rfl, rfl⟩ | ⟨x, rfl, hl, hm, hz, hc, _⟩
  · exact ⟨Reads.none_, fun _ => rfl, by unfold maxLen; omega⟩
  · refine ⟨⟨by simp; omega, fun hn => ⟨x, rfl, ?_, fun j u hu => ?_⟩⟩, (fun h => by cases h), by omega⟩
    · have := hc 0 (by omega)
      exact World.block_lt_of_cell? w x (by simpa [Addr.add] using this)
    · have hj : j < len := by
        have := (List.getElem?_eq_some_iff.1 hu).1
        simp at this; omega
      rw [hc j (by omega)]
      rw [List.getElem?_map, List.getElem?_take_of_lt hj, List.getElem?_eq_getElem (by omega)] at hu
      rw [List.getD_eq_getElem?_getD, List.getElem?_eq_getElem (by omega)]
      exact hu

/-- What the walk is told of a slice of strings that came in. -/
def IsStrs (w : World) (a : Option Addr) (len cap : Nat) (ss : List ByteArray) : Prop :=
  (a = none ∧ len = 0 ∧ cap = 0 ∧ ss = []) ∨
  ∃ x, a = some x ∧ len ≤ cap ∧ cap ≤ maxLen ∧ ss.length = cap ∧ (∀ i, i < ss.length → w.cell? (x.add i) = some (.string (ss.getD i ByteArray.empty))) ∧ ∀ s ∈ ss, s.size ≤ maxLen
theorem isstrs_reads {w : World} {a : Option Addr} {len cap : Nat} {ss : List ByteArray} (h : IsStrs w a len cap ss) : Reads w w.heap.size 1 a len ((ss.take len).map Value.string) ∧ (a = none → len = 0) ∧ len ≤ maxLen ∧ ∀ s ∈ ss.take len, s.size ≤ maxLen := by
  rcases h with ⟨rfl, rfl, rfl, rfl⟩ | ⟨x, rfl, hl, hm, hz, hc, hs⟩
  · exact ⟨Reads.none_, fun _ => rfl, by unfold maxLen; omega, fun s h => by simp at h⟩
  · refine ⟨⟨by simp; omega, fun hn => ⟨x, rfl, ?_, fun j u hu => ?_⟩⟩, (fun h => by cases h), by omega, fun s h => hs s (List.mem_of_mem_take h)⟩
    · have := hc 0 (by omega)
      exact World.block_lt_of_cell? w x (by simpa [Addr.add] using this)
    · have hj : j < len := by
        have := (List.getElem?_eq_some_iff.1 hu).1
        simp at this; omega
      rw [hc j (by omega)]
      rw [List.getElem?_map, List.getElem?_take_of_lt hj, List.getElem?_eq_getElem (by omega)] at hu
      rw [List.getD_eq_getElem?_getD, List.getElem?_eq_getElem (by omega)]
      exact hu



theorem lv_strs {w : World} {a : Option Addr} {len cap : Nat} {z : List ByteArray} (h : IsStrs w a len cap z) : Lv.ok w w.heap.size ⟨a, len, cap, z.take len⟩ := by
  obtain ⟨h1, h2, h3, h4⟩ := isstrs_reads h
  exact ⟨h1, h2, h3, by have := h1.1; simpa using this, h4⟩
theorem isrow_wf {k : IntKind} {w : World} {a : Option Addr} {len cap : Nat} {zs : List Int} (h : IsRow k w a len cap zs) : ∀ m ∈ zs.take len, (Lit.int k m).wf = true := fun m hm => by
  rcases h with ⟨_, _, _, rfl⟩ | ⟨_, _, _, _, _, _, hw⟩
  · simp at hm
  · exact hw m (List.mem_of_mem_take hm)
def CloneL (w : World) (n : Nat) (xs : List Value) (e : Ending) (w' : World) : Prop :=
  ∃ A c, e = .returned (.slice A n c) ∧ Reads w' w'.heap.size 1 A n xs ∧ Below w.heap.size w w'
theorem clone_reads {w' : World} {g n : Nat} {t : TypeId} {xs : List Value} (hbk : Blk w' g t xs.toArray) (hl : xs.length = n * 1) : Reads w' w'.heap.size 1 (some ⟨g, 0, none⟩) n xs := by
  refine ⟨hl, fun hn => ⟨_, rfl, hbk.lt, fun j u hu => ?_⟩⟩
  have := hbk.cell j
  rw [List.getElem?_toArray, hu] at this
  rw [← this]
  unfold Addr.add
  split
  · rename_i h0; subst h0; rfl
  · show World.cell? _ ⟨g, 0 + j, none⟩ = _
    rw [Nat.zero_add]
theorem cloneBR (A : Option Addr) (n cap : Nat) (zs : List Int) (w : World) (hr : Reads w w.heap.size 1 A n (zs.map (Value.int .u8))) (hA : A = none → n = 0) (hn : n ≤ 16777216) :
    Calls Tryd.prog 7 #[.slice A n cap] w (CloneL w n (zs.map (Value.int .u8))) := by
  refine (cloneB A n cap zs w hr hn).mono ?_
  rintro e w' (⟨hn0, rfl, rfl⟩ | ⟨g, _, rfl, hge, hbk, hb⟩)
  · obtain rfl := hA hn0
    exact ⟨none, 0, rfl, by have := hr.1; obtain rfl : zs = [] := List.eq_nil_of_length_eq_zero (by simpa using this); exact Reads.none_, Below.refl _ _⟩
  · exact ⟨_, _, rfl, clone_reads hbk hr.1, hb⟩
theorem cloneUR (A : Option Addr) (n cap : Nat) (zs : List Int) (w : World) (hr : Reads w w.heap.size 1 A n (zs.map (Value.int .u32))) (hA : A = none → n = 0) (hn : n ≤ 16777216) :
    Calls Tryd.prog 8 #[.slice A n cap] w (CloneL w n (zs.map (Value.int .u32))) := by
  refine (cloneU A n cap zs w hr hn).mono ?_
  rintro e w' (⟨hn0, rfl, rfl⟩ | ⟨g, _, rfl, hge, hbk, hb⟩)
  · obtain rfl := hA hn0
    exact ⟨none, 0, rfl, by have := hr.1; obtain rfl : zs = [] := List.eq_nil_of_length_eq_zero (by simpa using this); exact Reads.none_, Below.refl _ _⟩
  · exact ⟨_, _, rfl, clone_reads hbk hr.1, hb⟩
theorem kd_kd (k : Int) : Kd (kdOf k) := by unfold kdOf Kd; split; simp; split <;> simp
theorem kd_zero (k : Int) : kdOf k = 0 ↔ k % 3 = 0 := by unfold kdOf; split; simp [*]; split <;> simp [*]
theorem name_law (n : Nat) (ss : List ByteArray) (ks ls ds : List Int) (t : Nat) (hd : 0 ≤ ds.getD t 0 ∧ ds.getD t 0 ≤ 4294967295) :
    nameOf (symF n ss ks ls ds t) = if ¬ ks.getD t 0 % 3 = 0 ∧ ¬ ds.getD t 0 = 0 then ⟨#[]⟩ else ss.getD t ⟨#[]⟩ := by
  unfold nameOf symF
  simp only [kd_zero]
  by_cases h1 : ks.getD t 0 % 3 = 0
  · rw [if_pos (.inl h1), if_neg (fun h => h.1 h1)]
  · by_cases h2 : ds.getD t 0 = 0
    · rw [if_pos h2, if_pos (.inr rfl), if_neg (fun h => h.2 h2)]
    · rw [if_neg h2, if_neg (by rintro (h | h); exact h1 h; omega), if_pos ⟨h1, h2⟩]
theorem ns_range (n : Nat) (ss : List ByteArray) (ks ls ds : List Int) (t : Nat) (hd : 0 ≤ ds.getD t 0 ∧ ds.getD t 0 ≤ 4294967295) : 0 ≤ (symF n ss ks ls ds t).ns ∧ (symF n ss ks ls ds t).ns ≤ 4294967295 := by
  unfold symF
  simp only
  split <;> omega
theorem rg_law (n : Nat) (ss : List ByteArray) (ks ls ds : List Int) (t c0 c1 c2 c3 : Nat) (h : nestOk c0 c1 c2 c3 ks ds t) :
    (symF n ss ks ls ds t).kd = 0 ∨ (symF n ss ks ls ds t).ns = 0 ∨ 4294967295 - (symF n ss ks ls ds t).ns < cntU c0 c1 (symF n ss ks ls ds t).kd := by
  unfold symF
  simp only [kd_zero]
  rcases h with h | h | h
  · exact .inl h
  · exact .inr (.inl (if_pos h))
  · by_cases h2 : ds.getD t 0 = 0
    · exact .inr (.inl (if_pos h2))
    · by_cases h1 : ks.getD t 0 % 3 = 0
      · exact .inl h1
      · refine .inr (.inr ?_)
        rw [if_neg h2]
        unfold cntU kdOf
        by_cases h3 : ks.getD t 0 % 3 = 1
        · have e1 : nsI (ks.getD t 0) = 0 := by unfold nsI; exact if_neg (by omega)
          rw [e1, show cAt c0 c1 c2 c3 0 = c0 from rfl] at h
          rw [if_neg h1, if_pos h3, if_neg (by decide)]
          omega
        · have e1 : nsI (ks.getD t 0) = 1 := by unfold nsI; exact if_pos (by omega)
          rw [e1, show cAt c0 c1 c2 c3 1 = c1 from rfl] at h
          rw [if_neg h1, if_neg h3, if_pos rfl]
          omega
/-! ### STEP 1: THE WALK -/
set_option maxHeartbeats 4000000 in
set_option maxRecDepth 100000 in
theorem walk (a0 : Option Addr) (len0 cap0 : Nat) (z0 : List ByteArray) (a1 : Option Addr) (len1 cap1 : Nat) (z1 : List Int) (a2 : Option Addr) (len2 cap2 : Nat) (z2 : List Int) (a3 : Option Addr) (len3 cap3 : Nat) (z3 : List Int) (a4 : Int) (a5 : Int) (a6 : Int) (a7 : Int) (a8 : Int) (w : World) (w0 : IsStrs w a0 len0 cap0 z0) (w1 : IsRow .u8 w a1 len1 cap1 z1) (w2 : IsRow .u32 w a2 len2 cap2 z2) (w3 : IsRow .u32 w a3 len3 cap3 z3) (w4 : (Lit.int .u32 a4).wf = true) (w5 : (Lit.int .u32 a5).wf = true) (w6 : (Lit.int .u32 a6).wf = true) (w7 : (Lit.int .u32 a7).wf = true) (w8 : (Lit.int .u32 a8).wf = true) (hI : Inv w) :
    Calls Tryd.prog 3 #[.slice a0 len0 cap0, .slice a1 len1 cap1, .slice a2 len2 cap2, .slice a3 len3 cap3, .int .u32 a4, .int .u32 a5, .int .u32 a6, .int .u32 a7, .int .u32 a8] w fun e w' => e = .returned (.bool true) ∧ Below w.heap.size w w' := by
  have v0 := lv_strs w0
  generalize z0.take len0 = ss at v0
  obtain ⟨hr1, hA1, hl1⟩ := isrow_reads w1
  have hw1 := isrow_wf w1
  generalize z1.take len1 = x1 at hr1 hw1
  have hb1 : ∀ m ∈ x1, 0 ≤ m ∧ m ≤ 255 := fun m hm => by
    have := hw1 m hm
    simp [Lit.wf, IntKind.min, IntKind.max, IntKind.signed, IntKind.bits] at this
    omega
  have HR1 := Lib.hid hr1; have HA1 := Lib.hid hA1; have HB1 := Lib.hid hb1; have HL1 := Lib.hid hl1
  have l1 : len1 ≤ 9223372036854775807 := hl1
  clear hr1 hA1 hb1 hw1 hl1 w1
  obtain ⟨hr2, hA2, hl2⟩ := isrow_reads w2
  have hw2 := isrow_wf w2
  generalize z2.take len2 = x2 at hr2 hw2
  have hb2 : ∀ m ∈ x2, 0 ≤ m ∧ m ≤ 4294967295 := fun m hm => by
    have := hw2 m hm
    simp [Lit.wf, IntKind.min, IntKind.max, IntKind.signed, IntKind.bits] at this
    omega
  have HR2 := Lib.hid hr2; have HA2 := Lib.hid hA2; have HB2 := Lib.hid hb2; have HL2 := Lib.hid hl2
  have l2 : len2 ≤ 9223372036854775807 := hl2
  clear hr2 hA2 hb2 hw2 hl2 w2
  obtain ⟨hr3, hA3, hl3⟩ := isrow_reads w3
  have hw3 := isrow_wf w3
  generalize z3.take len3 = x3 at hr3 hw3
  have hb3 : ∀ m ∈ x3, 0 ≤ m ∧ m ≤ 4294967295 := fun m hm => by
    have := hw3 m hm
    simp [Lit.wf, IntKind.min, IntKind.max, IntKind.signed, IntKind.bits] at this
    omega
  have HR3 := Lib.hid hr3; have HA3 := Lib.hid hA3; have HB3 := Lib.hid hb3; have HL3 := Lib.hid hl3
  have l3 : len3 ≤ 9223372036854775807 := hl3
  clear hr3 hA3 hb3 hw3 hl3 w3
  simp [Lit.wf, IntKind.min, IntKind.max, IntKind.signed, IntKind.bits] at w4 w5 w6 w7 w8
  obtain ⟨c0, rfl⟩ := Int.eq_ofNat_of_zero_le w4.1
  obtain ⟨c1, rfl⟩ := Int.eq_ofNat_of_zero_le w5.1
  obtain ⟨c2, rfl⟩ := Int.eq_ofNat_of_zero_le w6.1
  obtain ⟨c3, rfl⟩ := Int.eq_ofNat_of_zero_le w7.1
  obtain ⟨q, rfl⟩ := Int.eq_ofNat_of_zero_le w8.1
  have V0 := Lib.hid v0; have HI := Lib.hid hI
  have hpos := hI.pos
  clear v0 w0 hI w4 w5 w6 w7 w8
  go_enter Tryd.func3, Tryd.ntmps3
  go_wp2_with (go_at_call 4; refine (zbytes a0 len0 cap0 ss a1 len1 cap1 a2 len2 cap2 a3 len3 cap3 c0 c1 c2 c3 q _ V0.out l1 l2 l3).mono ?_)
  rintro e wz ⟨bz, rfl, rfl⟩
  cases bz
  · go_wp2
    go_ret
    exact ⟨rfl, Below.refl _ _⟩
  go_wp2_with (go_at_call 5; refine (fit_any a0 len0 cap0 ss a1 len1 cap1 x1 a2 len2 cap2 a3 len3 cap3 x3 c0 c1 c2 c3 q _ V0.out HR1.out HR3.out l1 l2 l3 (by omega) HB1.out HB3.out).mono ?_)
  rintro e wf ⟨bf, rfl, hfit, NN, hwf⟩
  have BF0 : Hid (Below w.heap.size w wf) := Lib.hid (by rw [hwf]; exact below_drewN (Below.refl _ _) _)
  have HWS : Hid (wf.heap.size = w.heap.size) := Lib.hid (by rw [hwf]; rfl)
  have hwsz : w.heap.size ≤ wf.heap.size := BF0.out.size
  cases bf
  · clear hwf hfit
    go_wp2
    go_ret
    exact ⟨rfl, BF0.out⟩
  have fit := hfit rfl
  have V1 := Lib.hid ((V0.out.below BF0.out).more hwsz); have R1 := Lib.hid ((HR1.out.below BF0.out).more hwsz); have R2 := Lib.hid ((HR2.out.below BF0.out).more hwsz); have R3 := Lib.hid ((HR3.out.below BF0.out).more hwsz)
  obtain ⟨hn, e0, e2, e3, hq, hc, hnest⟩ := fit
  subst e0
  have E2 := Lib.hid e2; have E3 := Lib.hid e3; have HNEST := Lib.hid hnest
  clear hfit hwf hnest V0 HR1 HR2 HR3
  obtain ⟨hc0, hc1, hc2, hc3⟩ := hc
  have e2' := e2.symm
  have e3' := e3.symm
  clear e2 e3 E2 E3
  subst e2'
  subst e3'
  have hq' : q < len0 := by omega
  go_wp2_with (go_at_call 6; refine (cloneS a0 len0 cap0 ss _ V1.out (by omega)).mono ?_)
  rintro e wa ⟨A0, d0, rfl, hva, hba⟩
  have BA := Lib.hid (BF0.out.trans (hba.mono hwsz))
  have VA := Lib.hid hva; have RA1 := Lib.hid ((R1.out.below hba).more hba.size); have RA2 := Lib.hid ((R2.out.below hba).more hba.size); have RA3 := Lib.hid ((R3.out.below hba).more hba.size)
  clear hva hba V1 R1 R2 R3
  go_wp2_with (go_at_call 7; refine (cloneBR a1 len0 cap1 x1 _ RA1.out HA1.out (by omega)).mono ?_)
  rintro e wb ⟨A1, d1, rfl, hr, hbb⟩
  have BB := Lib.hid (BA.out.trans (hbb.mono BA.out.size))
  have VB := Lib.hid ((VA.out.below hbb).more hbb.size); have QB1 := Lib.hid hr; have RB2 := Lib.hid ((RA2.out.below hbb).more hbb.size); have RB3 := Lib.hid ((RA3.out.below hbb).more hbb.size)
  clear hr hbb VA RA1 RA2 RA3
  go_wp2_with (go_at_call 8; refine (cloneUR a2 len0 cap2 x2 _ RB2.out HA2.out (by omega)).mono ?_)
  rintro e wc ⟨A2, d2, rfl, hr, hbc⟩
  have BC := Lib.hid (BB.out.trans (hbc.mono BB.out.size))
  have VC := Lib.hid ((VB.out.below hbc).more hbc.size); have QC1 := Lib.hid ((QB1.out.below hbc).more hbc.size); have QC2 := Lib.hid hr; have RC3 := Lib.hid ((RB3.out.below hbc).more hbc.size)
  clear hr hbc VB QB1 RB2 RB3
  go_wp2_with (go_at_call 8; refine (cloneUR a3 len0 cap3 x3 _ RC3.out HA3.out (by omega)).mono ?_)
  rintro e wd ⟨A3, d3, rfl, hr, hbd⟩
  have BD := Lib.hid (BC.out.trans (hbd.mono BC.out.size))
  have VD := Lib.hid ((VC.out.below hbd).more hbd.size); have QD1 := Lib.hid ((QC1.out.below hbd).more hbd.size); have QD2 := Lib.hid ((QC2.out.below hbd).more hbd.size); have QD3 := Lib.hid hr
  clear hr hbd VC QC1 QC2 RC3
  go_wp2_with (go_at_call 9; refine (build A0 len0 d0 ss A1 len0 d1 x1 A2 len0 d2 x2 A3 len0 d3 x3 wd VD.out.1 QD1.out QD2.out QD3.out (by omega) (by omega) (by omega) (by omega) HB1.out HB2.out HB3.out).mono ?_)
  rintro e we ⟨o, g, rfl, ho, hg, hog, hout, htab, hbe⟩
  have BE := Lib.hid (BD.out.trans (hbe.mono BD.out.size))
  have hwd := BD.out.size
  have hgl := htab.lt
  have HOUT := Lib.hid hout; have HTAB := Lib.hid htab; have HBE := Lib.hid hbe
  clear hout htab hbe
  obtain ⟨X, hX⟩ : ∃ X, X = we.alloc (.cells #[.slice (some ⟨o, 0, none⟩) 1 1] 32) := ⟨_, rfl⟩
  have HGX : Hid (we.grownBy X none) := Lib.hid (by rw [hX]; exact only_alloc (World.grownBy.refl _ _) _)
  have HBX : Hid (Blk X we.heap.size 32 #[.slice (some ⟨o, 0, none⟩) 1 1]) := Lib.hid (by rw [hX]; exact Blk.new _ _ _)
  have HXX := Lib.hid hX
  go_upto_region 10 with fail
  rw [← HXX.out]
  clear hX HXX
  have kx : X.cell? ⟨we.heap.size, 0, none⟩ = some (.slice (some ⟨o, 0, none⟩) 1 1) := HBX.out.cell 0
  have HWX : Hid (∀ W wg : World, (W = X ∨ W = X.drew ∨ W = X.drew.drew) → W.grownBy wg none → we.grownBy wg none ∧ wg.cell? ⟨we.heap.size, 0, none⟩ = some (.slice (some ⟨o, 0, none⟩) 1 1)) := Lib.hid (fun W wg hW hg => by
    rcases hW with rfl | rfl | rfl
    · exact ⟨grown_tr HGX.out hg, (HBX.out.grown hg (by simp)).cell 0⟩
    · exact ⟨grown_tr (only_drew HGX.out) hg, (HBX.out.drew.grown hg (by simp)).cell 0⟩
    · exact ⟨grown_tr (only_drew (only_drew HGX.out)) hg, (HBX.out.drew.drew.grown hg (by simp)).cell 0⟩)
  go_cut [20] (fun p wx => ∃ br, p = .pointer (some ⟨br, 0, none⟩) ∧ RenOk o none c0 c1 c2 c3 br wx ∧ we.grownBy wx none)
  case first =>
    go_region_with (first | (go_at_call 11; refine (sc_any c0 c1 c2 c3 _).mono ?_; rintro e wg ⟨rfl, hgg⟩; obtain ⟨g1, kg⟩ := HWX.out _ wg (by first | exact Or.inl rfl | exact Or.inr (Or.inl rfl) | exact Or.inr (Or.inr rfl)) hgg; have HGG := Lib.hid g1; clear hgg g1) | (go_at_call 10; refine (newR o none c0 c1 c2 c3 (by omega) (by omega) (by omega) (by omega) _).mono ?_; rintro e wh ⟨vr, rfl, hptr, hgh⟩; obtain ⟨br, rfl, hbr, hren⟩ := RenOk.of_ptr hptr; have HGH := Lib.hid hgh; have HREN := Lib.hid hren; clear hptr hgh hren))
    all_goals
      go_wp2_with fail
      go_meet
      exact ⟨br, rfl, HREN.out, by first | exact grown_tr HGG.out HGH.out | exact grown_tr (only_drew HGG.out) HGH.out⟩
  case rest =>
   obtain ⟨br, rfl, hren, hge⟩ := hcut
   have HREN := Lib.hid hren; have HGH := Lib.hid hge
   clear hren hge HWX kx HGX HBX
   go_wp2_with (go_at_call 13; refine (ref_any q _).mono ?_)
   rintro e wi ⟨rfl, hgi⟩
   have hgei := grown_tr HGH.out hgi
   have HRENI := Lib.hid (HREN.out.grow0 hgi)
   have HOUTI := Lib.hid (HOUT.out.grown hgei (by simp)); have HLK := Lib.hid (lk_of (HTAB.out.grown hgei (by simp)))
   have HBI : Hid (Below w.heap.size w wi) := Lib.hid (BE.out.grown hgei (by have := BE.out.size; omega) (fun k hk => by cases hk))
   have HBDI : Hid (Below wd.heap.size wd wi) := Lib.hid (HBE.out.grown hgei HBE.out.size (fun k hk => by cases hk))
   have hRr := rootF_roots len0 x2 q hq'
   have hTn : rootF len0 x2 q < len0 := hRr.1
   obtain ⟨T, hT⟩ : ∃ T, T = rootF len0 x2 q := ⟨_, rfl⟩
   rw [← hT] at hTn
   have HT := Lib.hid hT
   have lk3 : x3.length = len0 := by have := QD3.out.1; simpa using this
   have lk1 : x1.length = len0 := by have := QD1.out.1; simpa using this
   have hd3 : 0 ≤ x3.getD T 0 ∧ x3.getD T 0 ≤ 4294967295 := by rw [List.getD_eq_getElem?_getD, List.getElem?_eq_getElem (by omega)]; exact HB3.out _ (List.getElem_mem _)
   have HNL := Lib.hid (name_law len0 ss x1 x2 x3 T hd3)
   have HNSR := Lib.hid (ns_range len0 ss x1 x2 x3 T hd3)
   have HRG := Lib.hid (rg_law len0 ss x1 x2 x3 T c0 c1 c2 c3 (HNEST.out T hTn))
   clear hgei hgi hT hRr hd3 lk1 lk3
   have hg0 : g ≠ 0 := by omega
   go_wp2_with (go_at_call 12; refine (nameFor br o none c0 c1 c2 c3 g len0 _ _ _ q _ (by omega) hog hg0 (rootF_roots len0 x2) hq' (HI.out.below HBI.out hpos) HOUTI.out HLK.out HRENI.out (by rw [← HT.out]; exact kd_kd _) rfl (by rw [← HT.out]; exact HNSR.out) (by rw [← HT.out]; exact HRG.out) ⟨by omega, by omega, by omega, by omega⟩).mono ?_)
   rintro e wj ⟨rfl, _, hgj⟩
   rw [← HT.out]
   obtain ⟨NM, hNM⟩ : ∃ x, x = nameOf (symF len0 ss x1 x2 x3 T) := ⟨_, rfl⟩
   rw [← hNM]
   have HNM : Hid (NM = if ¬ x1.getD T 0 % 3 = 0 ∧ ¬ x3.getD T 0 = 0 then ⟨#[]⟩ else ss.getD T ⟨#[]⟩) := Lib.hid (hNM.trans HNL.out)
   clear hNM
   have HBJ : Hid (Below w.heap.size w wj) := Lib.hid (HBI.out.grown hgj (by have := HBI.out.size; omega) (fun k hk => by obtain rfl := Option.some.inj hk; omega))
   have HBDJ : Hid (Below wd.heap.size wd wj) := Lib.hid (HBDI.out.grown hgj (by have := HBDI.out.size; omega) (fun k hk => by obtain rfl := Option.some.inj hk; omega))
   have RJ2 : Hid (Reads wj wj.heap.size 1 A2 len0 (x2.map (Value.int .u32))) := Lib.hid ((QD2.out.below HBDJ.out).more HBDJ.out.size)
   clear hgj
   obtain ⟨b0, off0, e0, _, k0'⟩ := reads_any ((VD.out.1.below HBDJ.out).more HBDJ.out.size) (show 0 < len0 by omega)
   simp only at e0
   subst e0
   obtain ⟨b1, off1, e1, _, k1'⟩ := reads_any ((QD1.out.below HBDJ.out).more HBDJ.out.size) (show 0 < len0 by omega)
   subst e1
   obtain ⟨b3, off3, e3, _, k3'⟩ := reads_any ((QD3.out.below HBDJ.out).more HBDJ.out.size) (show 0 < len0 by omega)
   subst e3
   obtain ⟨s, hs⟩ : ∃ x, ss[T]? = some x := ⟨_, List.getElem?_eq_getElem (by have : ss.length = len0 := VD.out.2.2.2.1; omega)⟩
   obtain ⟨y1, hy1⟩ : ∃ x, x1[T]? = some x := ⟨_, List.getElem?_eq_getElem (by have := QD1.out.1; simp at this; omega)⟩
   obtain ⟨y3, hy3⟩ : ∃ x, x3[T]? = some x := ⟨_, List.getElem?_eq_getElem (by have := QD3.out.1; simp at this; omega)⟩
   have k0 := k0' T s hs
   have k1 := k1' T y1 hy1
   have k3 := k3' T y3 hy3
   have q1 := HB1.out y1 (List.mem_of_getElem? hy1)
   have hnm := HNM.out
   rw [List.getD_eq_getElem?_getD, List.getD_eq_getElem?_getD, List.getD_eq_getElem?_getD, hs, hy1, hy3, Option.getD_some, Option.getD_some, Option.getD_some] at hnm
   clear k0' k1' k3' hs hy1 hy3 HNM HNL
   by_cases hp : y1 % 3 = 0
   · have HP : Hid (pin y1 = true) := Lib.hid (by unfold pin; simpa using hp)
     rw [if_neg (fun h => h.1 hp)] at hnm
     subst hnm
     clear hp
     go_wp2_with (first | (go_at_call 14; refine (root_any A2 len0 d2 x2 q _ RJ2.out (by omega) hq' HB2.out).mono ?_; rw [← HT.out]; rintro e wz ⟨rfl, rfl⟩) | (go_at_call 15; refine (pin_any y1 q1.1 q1.2 _).mono ?_; rw [HP.out]; rintro e wz ⟨rfl, rfl⟩))
     go_ret
     exact ⟨ret_bool (by simp), HBJ.out⟩
   · have HP : Hid (pin y1 = false) := Lib.hid (by unfold pin; simpa using hp)
     by_cases hz : y3 = 0
     · have t3 : (y3 != 0) = false := by rw [hz]; rfl
       rw [if_neg (fun h => h.2 hz)] at hnm
       subst hnm
       clear hp hz
       go_wp2_with (first | (go_at_call 14; refine (root_any A2 len0 d2 x2 q _ RJ2.out (by omega) hq' HB2.out).mono ?_; rw [← HT.out]; rintro e wz ⟨rfl, rfl⟩) | (go_at_call 15; refine (pin_any y1 q1.1 q1.2 _).mono ?_; rw [HP.out]; rintro e wz ⟨rfl, rfl⟩))
       go_ret
       exact ⟨ret_bool (by simp), HBJ.out⟩
     · have t3 : (y3 != 0) = true := by rw [bne_iff_ne]; exact hz
       rw [if_pos ⟨hp, hz⟩] at hnm
       subst hnm
       clear hp hz
       go_wp2_with (first | (go_at_call 14; refine (root_any A2 len0 d2 x2 q _ RJ2.out (by omega) hq' HB2.out).mono ?_; rw [← HT.out]; rintro e wz ⟨rfl, rfl⟩) | (go_at_call 15; refine (pin_any y1 q1.1 q1.2 _).mono ?_; rw [HP.out]; rintro e wz ⟨rfl, rfl⟩))
       go_ret
       exact ⟨ret_bool (by simp), HBJ.out⟩

/-! ### THE ROW's STEP -/
set_option maxRecDepth 100000 in
theorem lifted (os : Os) (started : os.Started) (H : Type) (enc : TypeId × Value → H) :
    ReturnsInHanded {} Tryd.checked os 3 .any (fun w args => (Rows.fnMinifyNameForSymbolFreshSpec.pre enc Tryd.prog Tryd.f3 [] false w args ∧ laidMetH Tryd.prog Rows.fnMinifyNameForSymbolFreshRow.laid w) ∧ sizedMet enc Tryd.prog Tryd.f3 (OpenSpec.ofChange Rows.fnMinifyNameForSymbolFreshSpec) false w args)
      (Rows.fnMinifyNameForSymbolFreshSpec.post enc Tryd.prog Tryd.f3 false true false false) := by
  refine returnsInHanded_of_change_and (C := Tryd.checked) (X := fun w _ => laidMetH Tryd.prog Rows.fnMinifyNameForSymbolFreshRow.laid w) (fun _ _ _ hh h => h.of_heap hh) own started (by kernel_rfl) Tryd.func3
    (ChangeSpec.witness_shaped (enc := enc) (C := Tryd.checked) (os := os) (X := fun w _ => laidMetH Tryd.prog Rows.fnMinifyNameForSymbolFreshRow.laid w) false (World.laidAll Tryd.prog os Rows.fnMinifyNameForSymbolFreshRow.laid) #[.slice none 0 0, .slice none 0 0, .slice none 0 0, .slice none 0 0, .int .u32 0, .int .u32 0, .int .u32 0, .int .u32 0, .int .u32 0] 8 (World.laidAll_os _ _ _)
      (World.shaped_of_ZipB (by kernel_rfl) (by kernel_rfl)) (by kernel_rfl) (by kernel_rfl) (by kernel_rfl)
      (by rw [MakeChecks.laidMetH_plain _ _ _ (by kernel_rfl)]; exact laidMet_laidAll _ (by kernel_rfl) (by kernel_rfl))) ?_
  intro W base args ds gs before hval0 hW _ _ hL _
  have hval : ∀ (j : Nat) t v, Tryd.f3.params[j]? = some t → args[j]? = some v → Value.okWide Tryd.prog W .any base t v := hval0
  have hW' := hW
  obtain ⟨p, q, hA0, hV, rfl, hfz, hnd⟩ := hW
  have hA : DataW.TrodAll enc Tryd.prog W 0 (fun _ => true) true Tryd.f3.params.toList args.toList ds p := hA0
  rw [Tryd.params3] at hA hval
  obtain ⟨v0, vs0, d0, ds0, p0, q0, hargs, rfl, rfl, h0, r0⟩ := trodAll_cons hA
  obtain ⟨v1, vs1, d1, ds1, p1, q1, rfl, rfl, rfl, h1, r1⟩ := trodAll_cons r0
  obtain ⟨v2, vs2, d2, ds2, p2, q2, rfl, rfl, rfl, h2, r2⟩ := trodAll_cons r1
  obtain ⟨v3, vs3, d3, ds3, p3, q3, rfl, rfl, rfl, h3, r3⟩ := trodAll_cons r2
  obtain ⟨v4, vs4, d4, ds4, p4, q4, rfl, rfl, rfl, h4, r4⟩ := trodAll_cons r3
  obtain ⟨v5, vs5, d5, ds5, p5, q5, rfl, rfl, rfl, h5, r5⟩ := trodAll_cons r4
  obtain ⟨v6, vs6, d6, ds6, p6, q6, rfl, rfl, rfl, h6, r6⟩ := trodAll_cons r5
  obtain ⟨v7, vs7, d7, ds7, p7, q7, rfl, rfl, rfl, h7, r7⟩ := trodAll_cons r6
  obtain ⟨v8, vs8, d8, ds8, p8, q8, rfl, rfl, rfl, h8, r8⟩ := trodAll_cons r7
  obtain ⟨rfl, rfl, rfl⟩ := trodAll_nil r8
  obtain rfl : args = #[v0, v1, v2, v3, v4, v5, v6, v7, v8] := by cases args; simp_all
  have hV1 : DataW.TrodVars enc Tryd.prog W (fun _ => true) ["github.com/evanw/esbuild/internal/ast.InvalidRef"] gs q := hV
  obtain ⟨g1, rfl⟩ : ∃ g, gs = [g] := by
    match gs, hV1 with
    | [g], _ => exact ⟨g, rfl⟩
    | [], h => exact h.elim
    | _ :: _ :: _, ⟨_, _, _, _, _, _, _, _, _, _, h, _⟩ => exact h.elim
  have k0 := h0
  have lt0 : ∀ x ∈ p0, x.block < W.heap.size := by obtain ⟨m, hm⟩ := k0; exact DataW.trod_lt m _ _ _ hm
  have k1 := h1
  have lt1 : ∀ x ∈ p1, x.block < W.heap.size := by obtain ⟨m, hm⟩ := k1; exact DataW.trod_lt m _ _ _ hm
  have k2 := h2
  have lt2 : ∀ x ∈ p2, x.block < W.heap.size := by obtain ⟨m, hm⟩ := k2; exact DataW.trod_lt m _ _ _ hm
  have k3 := h3
  have lt3 : ∀ x ∈ p3, x.block < W.heap.size := by obtain ⟨m, hm⟩ := k3; exact DataW.trod_lt m _ _ _ hm
  have k4 := h4
  have lt4 : ∀ x ∈ p4, x.block < W.heap.size := by obtain ⟨m, hm⟩ := k4; exact DataW.trod_lt m _ _ _ hm
  have k5 := h5
  have lt5 : ∀ x ∈ p5, x.block < W.heap.size := by obtain ⟨m, hm⟩ := k5; exact DataW.trod_lt m _ _ _ hm
  have k6 := h6
  have lt6 : ∀ x ∈ p6, x.block < W.heap.size := by obtain ⟨m, hm⟩ := k6; exact DataW.trod_lt m _ _ _ hm
  have k7 := h7
  have lt7 : ∀ x ∈ p7, x.block < W.heap.size := by obtain ⟨m, hm⟩ := k7; exact DataW.trod_lt m _ _ _ hm
  have k8 := h8
  have lt8 : ∀ x ∈ p8, x.block < W.heap.size := by obtain ⟨m, hm⟩ := k8; exact DataW.trod_lt m _ _ _ hm
  obtain ⟨a0, len0, cap0, rfl⟩ := okWide_slice Tryd.underlying22 (hval 0 22 v0 rfl rfl)
  obtain ⟨z0, w0⟩ : ∃ zs, IsStrs W a0 len0 cap0 zs := by
    obtain ⟨fuel, hf⟩ := h0
    rcases open_strings Tryd.underlying22 Tryd.underlying9 (by kernel_rfl) hf with ⟨hcs, _⟩ | ⟨x, l, c, zs, hcs, _, hl, hm, hz, _, hcell, hwz⟩
    · simp [Value.cells] at hcs
      obtain ⟨rfl, rfl, rfl⟩ := hcs
      exact ⟨[], .inl ⟨rfl, rfl, rfl, rfl⟩⟩
    · simp [Value.cells] at hcs
      obtain ⟨rfl, rfl, rfl⟩ := hcs
      exact ⟨zs, .inr ⟨_, rfl, hl, hm, by simpa using hz, hcell, hwz⟩⟩
  obtain ⟨a1, len1, cap1, rfl⟩ := okWide_slice Tryd.underlying23 (hval 1 23 v1 rfl rfl)
  obtain ⟨z1, w1⟩ : ∃ zs, IsRow .u8 W a1 len1 cap1 zs := by
    obtain ⟨fuel, hf⟩ := h1
    rcases open_ints Tryd.underlying23 Tryd.underlying5 (by kernel_rfl) hf with ⟨hcs, _⟩ | ⟨x, l, c, zs, hcs, _, hl, hm, hz, _, hcell, hwz⟩
    · simp [Value.cells] at hcs
      obtain ⟨rfl, rfl, rfl⟩ := hcs
      exact ⟨[], .inl ⟨rfl, rfl, rfl, rfl⟩⟩
    · simp [Value.cells] at hcs
      obtain ⟨rfl, rfl, rfl⟩ := hcs
      exact ⟨zs, .inr ⟨_, rfl, hl, hm, by simpa using hz, hcell, hwz⟩⟩
  obtain ⟨a2, len2, cap2, rfl⟩ := okWide_slice Tryd.underlying24 (hval 2 24 v2 rfl rfl)
  obtain ⟨z2, w2⟩ : ∃ zs, IsRow .u32 W a2 len2 cap2 zs := by
    obtain ⟨fuel, hf⟩ := h2
    rcases open_ints Tryd.underlying24 Tryd.underlying25 (by kernel_rfl) hf with ⟨hcs, _⟩ | ⟨x, l, c, zs, hcs, _, hl, hm, hz, _, hcell, hwz⟩
    · simp [Value.cells] at hcs
      obtain ⟨rfl, rfl, rfl⟩ := hcs
      exact ⟨[], .inl ⟨rfl, rfl, rfl, rfl⟩⟩
    · simp [Value.cells] at hcs
      obtain ⟨rfl, rfl, rfl⟩ := hcs
      exact ⟨zs, .inr ⟨_, rfl, hl, hm, by simpa using hz, hcell, hwz⟩⟩
  obtain ⟨a3, len3, cap3, rfl⟩ := okWide_slice Tryd.underlying24 (hval 3 24 v3 rfl rfl)
  obtain ⟨z3, w3⟩ : ∃ zs, IsRow .u32 W a3 len3 cap3 zs := by
    obtain ⟨fuel, hf⟩ := h3
    rcases open_ints Tryd.underlying24 Tryd.underlying25 (by kernel_rfl) hf with ⟨hcs, _⟩ | ⟨x, l, c, zs, hcs, _, hl, hm, hz, _, hcell, hwz⟩
    · simp [Value.cells] at hcs
      obtain ⟨rfl, rfl, rfl⟩ := hcs
      exact ⟨[], .inl ⟨rfl, rfl, rfl, rfl⟩⟩
    · simp [Value.cells] at hcs
      obtain ⟨rfl, rfl, rfl⟩ := hcs
      exact ⟨zs, .inr ⟨_, rfl, hl, hm, by simpa using hz, hcell, hwz⟩⟩
  obtain ⟨a4, rfl, rfl, rfl, w4⟩ := open_int Tryd.underlying25 (hval 4 25 v4 rfl rfl) h4
  obtain ⟨a5, rfl, rfl, rfl, w5⟩ := open_int Tryd.underlying25 (hval 5 25 v5 rfl rfl) h5
  obtain ⟨a6, rfl, rfl, rfl, w6⟩ := open_int Tryd.underlying25 (hval 6 25 v6 rfl rfl) h6
  obtain ⟨a7, rfl, rfl, rfl, w7⟩ := open_int Tryd.underlying25 (hval 7 25 v7 rfl rfl) h7
  obtain ⟨a8, rfl, rfl, rfl, w8⟩ := open_int Tryd.underlying25 (hval 8 25 v8 rfl rfl) h8
  clear hA0 hval0
  refine (walk a0 len0 cap0 z0 a1 len1 cap1 z1 a2 len2 cap2 z2 a3 len3 cap3 z3 a4 a5 a6 a7 a8 W w0 w1 w2 w3 w4 w5 w6 w7 w8 (inv_of hL)).mono fun e W' ⟨he, bel⟩ => ?_
  subst he
  exact ⟨_, rfl, _, _, _, [], _, q, hW', trodAll_mk1 (shut_bool Tryd.underlying4 _), (trodAll_cons_mk (Below.trod laidOut (by kernel_rfl) (of_decide_eq_true (by kernel_rfl)) k0 bel lt0) (trodAll_cons_mk (Below.trod laidOut (by kernel_rfl) (of_decide_eq_true (by kernel_rfl)) k1 bel lt1) (trodAll_cons_mk (Below.trod laidOut (by kernel_rfl) (of_decide_eq_true (by kernel_rfl)) k2 bel lt2) (trodAll_cons_mk (Below.trod laidOut (by kernel_rfl) (of_decide_eq_true (by kernel_rfl)) k3 bel lt3) (trodAll_cons_mk (Below.trod laidOut (by kernel_rfl) (of_decide_eq_true (by kernel_rfl)) k4 bel lt4) (trodAll_cons_mk (Below.trod laidOut (by kernel_rfl) (of_decide_eq_true (by kernel_rfl)) k5 bel lt5) (trodAll_cons_mk (Below.trod laidOut (by kernel_rfl) (of_decide_eq_true (by kernel_rfl)) k6 bel lt6) (trodAll_cons_mk (Below.trod laidOut (by kernel_rfl) (of_decide_eq_true (by kernel_rfl)) k7 bel lt7) (trodAll_cons_mk (Below.trod laidOut (by kernel_rfl) (of_decide_eq_true (by kernel_rfl)) k8 bel lt8) trodAll_mk0))))))))), Below.trodVars laidOut bel (by kernel_rfl) hV1, bel.frame _, fun h => by cases h⟩

theorem over : Rows.fnMinifyNameForSymbolFreshRow.holds Tryd.pinned (OpenSpec.ofChange Rows.fnMinifyNameForSymbolFreshSpec) :=
  OpenClaim.holds_of_wide 3 Tryd.f3 rfl rfl rfl rfl rfl rfl rfl ⟨rfl, rfl, rfl, rfl, rfl⟩ rfl rfl rfl rfl rfl (by kernel_rfl) Tryd.func3 (by kernel_rfl)
    (of_decide_eq_true (by kernel_rfl)) (by unfold Func.isWrapper; first | (rw [if_pos (by decide +kernel)]; kernel_rfl) | (rw [if_neg (by decide +kernel)]; exact ⟨rfl, rfl⟩))
    (fun os started H enc _ => lifted os started H enc)

theorem proved : Rows.FnMinifyNameForSymbolFreshCardSaid :=
  Claim7.holds_tied_plain_at .later [] [.data] true (true, "6fc171e980c32729864eaae8201d410de18b653ea2a66520f0911fb8f4041901") false over (fun _ h => by cases h) (by kernel_rfl) (fun _ h => by cases h) fnMinifyNameForSymbolFresh_row_tie rfl ⟨rfl, rfl⟩ (by kernel_rfl) rfl
    (fun f fn hf hfn => by
      obtain rfl : f = 3 := Option.some.inj ((show Tryd.prog.funcNamed "github.com/evanw/esbuild/n011_102.FnMinifyNameForSymbolFresh" = some 3 by kernel_rfl).symm.trans hf) |>.symm
      obtain rfl : fn = Tryd.f3 := (Option.some.inj (Tryd.func3.symm.trans hfn)).symm
      exact ⟨by kernel_rfl, fun j t ht => by
        rw [Tryd.params3] at ht
        have hm : t ∈ [22, 23, 24, 24, 25, 25, 25, 25, 25] := by simpa using Array.mem_of_getElem? ht
        have hall : ([22, 23, 24, 24, 25, 25, 25, 25, 25].all fun u => !Tryd.prog.wantsStandIn u) = true := by kernel_rfl
        exact (show Tryd.prog.wantsStandIn t = false by simpa using List.all_eq_true.1 hall t hm)⟩)
    (by kernel_rfl)
#print axioms proved
end Go.Proofs.YtgjmjdacdjobjaaDoor.fnMinifyNameForSymbolFresh