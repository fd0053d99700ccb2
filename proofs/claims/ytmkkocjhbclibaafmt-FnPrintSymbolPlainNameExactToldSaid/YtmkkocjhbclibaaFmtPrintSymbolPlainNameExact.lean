/-
  PROVED: Over a well-formed table of symbols, printSymbol of a symbol whose chosen name (the last renaming of the link's end, else its original name) is a plain identifier or empty appends exactly that name; the law answers true at all inputs. Conditions: the told card's own (fmt's text told; the listed variables as the program's text lays them).
-/
import Derived.Test.YtmkkocjhbclibaaFmtRows
import Derived.Test.YtmkkocjhbclibaaFmtCards
import Derived.Test.YtmkkocjhbclibaaFmtTie
import Derived.WalkKit
import Derived.ProofKit
import Derived.IntWalk
import Derived.Outline
import Derived.LoopTactic
import Derived.WalkSpells
import Derived.Deep.Light
import Derived.Test.YtmkkocjhbclibaaFmtInx
import Derived.Test.YtmkkocjhbclibaaFmtPsp
import Derived.OpenShut
import Derived.ShutString
import Derived.ChangeOld
import Derived.Below
import Derived.Carry
import Derived.SliceStrings
import Derived.Stop.JoinedAt
import Derived.Stop.Texts
import Derived.Stop.JoinedTold
import Derived.SevenToldRow
import Derived.OpenVars
import Derived.Handy
import Derived.Lay
import Derived.SevenTiedAt
namespace Go.Proofs.YtmkkocjhbclibaaFmt.fnPrintSymbolPlainNameExact
open Go.ChangeShapes Go.WideShapes Go.ChangeAt Go.RowKit
open Go.ChangeMaps (open_string shut_string)
open Go.Extern.Stop Go.Stop Go.Extern
set_option linter.unusedVariables false
set_option linter.unusedSimpArgs false

theorem own : ownKnob Tryf.prog.godebug = none := by kernel_rfl
theorem laidOut : laidOutB Tryf.pinned.checked.prog = true := by kernel_rfl

/-- What the walk is told of a slice of integers that came in. -/
def IsRow (k : IntKind) (w : World) (a : Option Addr) (len cap : Nat) (zs : List Int) : Prop :=
  (a = none ∧ len = 0 ∧ cap = 0 ∧ zs = []) ∨
  ∃ x, a = some x ∧ len ≤ cap ∧ cap ≤ maxLen ∧ zs.length = cap ∧ (∀ i, i < zs.length → w.cell? (x.add i) = some (.int k (zs.getD i 0))) ∧ ∀ n ∈ zs, (Lit.int k n).wf = true
theorem isrow_reads {k : IntKind} {w : World} {a : Option Addr} {len cap : Nat} {zs : List Int} (h : IsRow k w a len cap zs) : Reads w w.heap.size 1 a len ((zs.take len).map (Value.int k)) ∧ (a = none → len = 0) ∧ len ≤ maxLen := by
  rcases h with ⟨rfl, rfl, rfl, rfl⟩ | ⟨x, rfl, hl, hm, hz, hc, _⟩
  · exact ⟨Reads.none_, fun _ => rfl, by unfold maxLen; omega⟩
  · refine ⟨⟨by simp; omega, fun hn => ⟨x, rfl, ?_, fun j u hu => ?_⟩⟩, (fun h => by cases h), by omega⟩
    · have := hc 0 (by omega)
      exact World.block_lt_of_cell? w x (by simpa [Addr.add] using this)
    · have hj : j < len := by
        have := (List.getElem?_eq_some_iff.1 hu).1
        simp at this; omega
      rw [hc j (by omega)]
      rw [List.getElem?_map, List.getElem?_take_of_lt hj, List.getElem?_eq_getElem (by omega)] at hu
      rw [List.getD_eq_getElem?_getD, List.getElem?_eq_getElem (by omega)]
      exact hu

/-- What the walk is told of a slice of strings that came in. -/
def IsStrs (w : World) (a : Option Addr) (len cap : Nat) (ss : List ByteArray) : Prop :=
  (a = none ∧ len = 0 ∧ cap = 0 ∧ ss = []) ∨
  ∃ x, a = some x ∧ len ≤ cap ∧ cap ≤ maxLen ∧ ss.length = cap ∧ (∀ i, i < ss.length → w.cell? (x.add i) = some (.string (ss.getD i ByteArray.empty))) ∧ ∀ s ∈ ss, s.size ≤ maxLen
theorem isstrs_reads {w : World} {a : Option Addr} {len cap : Nat} {ss : List ByteArray} (h : IsStrs w a len cap ss) : Reads w w.heap.size 1 a len ((ss.take len).map Value.string) ∧ (a = none → len = 0) ∧ len ≤ maxLen ∧ ∀ s ∈ ss.take len, s.size ≤ maxLen := by
  rcases h with ⟨rfl, rfl, rfl, rfl⟩ | ⟨x, rfl, hl, hm, hz, hc, hs⟩
  · exact ⟨Reads.none_, fun _ => rfl, by unfold maxLen; omega, fun s h => by simp at h⟩
  · refine ⟨⟨by simp; omega, fun hn => ⟨x, rfl, ?_, fun j u hu => ?_⟩⟩, (fun h => by cases h), by omega, fun s h => hs s (List.mem_of_mem_take h)⟩
    · have := hc 0 (by omega)
      exact World.block_lt_of_cell? w x (by simpa [Addr.add] using this)
    · have hj : j < len := by
        have := (List.getElem?_eq_some_iff.1 hu).1
        simp at this; omega
      rw [hc j (by omega)]
      rw [List.getElem?_map, List.getElem?_take_of_lt hj, List.getElem?_eq_getElem (by omega)] at hu
      rw [List.getD_eq_getElem?_getD, List.getElem?_eq_getElem (by omega)]
      exact hu


theorem isrow_wf {k : IntKind} {w : World} {a : Option Addr} {len cap : Nat} {zs : List Int} (h : IsRow k w a len cap zs) : ∀ m ∈ zs.take len, (Lit.int k m).wf = true := fun m hm => by
  rcases h with ⟨_, _, _, rfl⟩ | ⟨_, _, _, _, _, _, hw⟩
  · simp at hm
  · exact hw m (List.mem_of_mem_take hm)

theorem own_some {w : World} {B e n : Nat} {A : Option Addr} {c : Nat} {xs : List Value} (h : w.ownsRow B e 1 (.slice A n c) n xs) : A = none → n = 0 := by
  rcases h.2 with ⟨hv, h0⟩ | ⟨g, cap, cur, hv, _, _, h1, h2, _⟩
  · intro _; omega
  · injection hv with a b c'
    subst a
    intro h; cases h
def sI (s : ByteArray) : List Int := s.data.toList.map fun c => (c.toNat : Int)
theorem sI_cells (s : ByteArray) : byteCells s = (sI s).map (Value.int .u8) := by unfold byteCells sI; rw [List.map_map]; rfl
set_option maxHeartbeats 1000000 in
set_option maxRecDepth 100000 in
theorem css_any {B b : Nat} {K : Array Value} {A : Option Addr} {cap : Nat} {bs : List Value} (w : World) (h : IsP B b K A cap bs w) (L : Nat) (hL : bs.length = L) :
    Calls Tryf.prog 14 #[.pointer (some ⟨b, 0, none⟩)] w fun e w' => e = .returned (.slice A L cap) ∧ w = w' := by
  have c15 : w.cell? ⟨b, 15, none⟩ = some (.slice A L cap) := h.css hL
  clear h hL
  go_enter Tryf.func14, Tryf.ntmps14
  go_wp2
  go_ret
  exact ⟨rfl, rfl⟩
set_option maxHeartbeats 1000000 in
set_option maxRecDepth 100000 in
theorem zsym (b q : Nat) (w : World) (R : Ending → World → Prop) (hR : ∀ e w', R e w' → e = .returned (.tuple #[]))
    (hc : Calls Tryf.prog 18 #[.pointer (some ⟨b, 0, none⟩), .agg #[.int .i32 0], .agg #[.int .u32 0, .int .u32 q], .int .u8 0, .int .u8 0] w R) :
    Calls Tryf.prog 13 #[.pointer (some ⟨b, 0, none⟩), .int .u32 q, .int .u8 0] w R := by
  have HC := Lib.hid hc; have HRR := Lib.hid hR
  clear hc hR
  go_enter Tryf.func13, Tryf.ntmps13
  go_wp2_with (go_at_call 18; refine HC.out.mono ?_)
  intro e w' h
  have he := HRR.out e w' h
  subst he
  have H := Lib.hid h
  clear h
  go_wp2_with fail
  go_end0
  exact H.out
theorem own_form {w : World} {B e n : Nat} {v : Value} {xs : List Value} (h : w.ownsRow B e 1 v n xs) : ∃ A c, v = .slice A n c := by
  rcases h.2 with ⟨rfl, rfl⟩ | ⟨g, cap, cur, rfl, _⟩
  · exact ⟨none, 0, rfl⟩
  · exact ⟨_, _, rfl⟩
/-! ### STEP 1: THE WALK -/
set_option maxHeartbeats 8000000 in
set_option maxRecDepth 100000 in
theorem walk (a0 : Option Addr) (len0 cap0 : Nat) (z0 : List Int) (a1 : Option Addr) (len1 cap1 : Nat) (z1 : List ByteArray) (a2 : Option Addr) (len2 cap2 : Nat) (z2 : List Int) (a3 : Option Addr) (len3 cap3 : Nat) (z3 : List Int) (a4 : Option Addr) (len4 cap4 : Nat) (z4 : List ByteArray) (a5 : Int) (w : World) (w0 : IsRow .u8 w a0 len0 cap0 z0) (w1 : IsStrs w a1 len1 cap1 z1) (w2 : IsRow .u32 w a2 len2 cap2 z2) (w3 : IsRow .u32 w a3 len3 cap3 z3) (w4 : IsStrs w a4 len4 cap4 z4) (w5 : (Lit.int .u32 a5).wf = true) (hI : Inv w) :
    Calls Tryf.prog 3 #[.slice a0 len0 cap0, .slice a1 len1 cap1, .slice a2 len2 cap2, .slice a3 len3 cap3, .slice a4 len4 cap4, .int .u32 a5] w fun e w' => e = .returned (.bool true) ∧ Below w.heap.size w w' := by
  obtain ⟨hr0, hA0, hl0⟩ := isrow_reads w0
  have hw0 := isrow_wf w0
  generalize z0.take len0 = x0 at hr0 hw0
  have hb0 : ∀ m ∈ x0, 0 ≤ m ∧ m ≤ 255 := fun m hm => by
    have := hw0 m hm
    simp [Lit.wf, IntKind.min, IntKind.max, IntKind.signed, IntKind.bits] at this
    omega
  have HR0 := Lib.hid hr0; have HA0 := Lib.hid hA0; have HB0 := Lib.hid hb0; have HL0 := Lib.hid hl0
  have l0 : len0 ≤ 9223372036854775807 := hl0
  clear hr0 hA0 hb0 hw0 hl0 w0
  obtain ⟨hr1, hA1, hl1, hss1⟩ := isstrs_reads w1
  generalize z1.take len1 = x1 at hr1 hss1
  have HS1 : Hid (StrL w a1 len1 x1) := Lib.hid ⟨hr1, hl1, hss1⟩
  have HA1 := Lib.hid hA1
  have l1 : len1 ≤ 9223372036854775807 := hl1
  clear hr1 hA1 hl1 hss1 w1
  obtain ⟨hr2, hA2, hl2⟩ := isrow_reads w2
  have hw2 := isrow_wf w2
  generalize z2.take len2 = x2 at hr2 hw2
  have hb2 : ∀ m ∈ x2, 0 ≤ m ∧ m ≤ 4294967295 := fun m hm => by
    have := hw2 m hm
    simp [Lit.wf, IntKind.min, IntKind.max, IntKind.signed, IntKind.bits] at this
    omega
  have HR2 := Lib.hid hr2; have HA2 := Lib.hid hA2; have HB2 := Lib.hid hb2; have HL2 := Lib.hid hl2
  have l2 : len2 ≤ 9223372036854775807 := hl2
  clear hr2 hA2 hb2 hw2 hl2 w2
  obtain ⟨hr3, hA3, hl3⟩ := isrow_reads w3
  have hw3 := isrow_wf w3
  generalize z3.take len3 = x3 at hr3 hw3
  have hb3 : ∀ m ∈ x3, 0 ≤ m ∧ m ≤ 4294967295 := fun m hm => by
    have := hw3 m hm
    simp [Lit.wf, IntKind.min, IntKind.max, IntKind.signed, IntKind.bits] at this
    omega
  have HR3 := Lib.hid hr3; have HA3 := Lib.hid hA3; have HB3 := Lib.hid hb3; have HL3 := Lib.hid hl3
  have l3 : len3 ≤ 9223372036854775807 := hl3
  clear hr3 hA3 hb3 hw3 hl3 w3
  obtain ⟨hr4, hA4, hl4, hss4⟩ := isstrs_reads w4
  generalize z4.take len4 = x4 at hr4 hss4
  have HS4 : Hid (StrL w a4 len4 x4) := Lib.hid ⟨hr4, hl4, hss4⟩
  have HA4 := Lib.hid hA4
  have l4 : len4 ≤ 9223372036854775807 := hl4
  clear hr4 hA4 hl4 hss4 w4
  simp [Lit.wf, IntKind.min, IntKind.max, IntKind.signed, IntKind.bits] at w5
  obtain ⟨q, rfl⟩ := Int.eq_ofNat_of_zero_le w5.1
  have HI := Lib.hid hI
  have hpos := hI.pos
  have HU2 : Hid (U32L w a2 len2 x2) := Lib.hid ⟨HR2.out, l2, HB2.out⟩
  have HU3 : Hid (U32L w a3 len3 x3) := Lib.hid ⟨HR3.out, l3, HB3.out⟩
  clear hI
  go_enter Tryf.func3, Tryf.ntmps3
  go_wp2_with (go_at_call 4; refine (zbytes a0 len0 cap0 a1 len1 cap1 x1 a2 len2 cap2 a3 len3 cap3 a4 len4 cap4 x4 q _ l0 HS1.out l2 l3 HS4.out).mono ?_)
  rintro e wz ⟨bz, rfl, rfl⟩
  cases bz
  · go_wp2
    go_ret
    exact ⟨rfl, Below.refl _ _⟩
  go_wp2_with (go_at_call 5; refine (fit_any a0 len0 cap0 a1 len1 cap1 x1 a2 len2 cap2 a3 len3 cap3 a4 len4 cap4 x4 _ l0 HS1.out l2 l3 HS4.out).mono ?_)
  rintro e wz ⟨bf, rfl, hfit, rfl⟩
  have HFIT := Lib.hid hfit
  clear hfit
  cases bf
  · go_wp2
    go_ret
    exact ⟨rfl, Below.refl _ _⟩
  obtain ⟨f0, f1, f2, f3, f4, s1, s4⟩ := HFIT.out (by first | rfl | trivial)
  have HZ1 := Lib.hid s1; have HZ4 := Lib.hid s4
  clear s1 s4
  go_wp2_with (go_at_call 6; refine (wf_any a1 len1 cap1 a2 len2 cap2 x2 a3 len3 cap3 a4 len4 cap4 q _ f1 HU2.out f2 f3 f4 w5).mono ?_)
  rintro e wz ⟨bw, rfl, hwf, rfl⟩
  have HWF0 := Lib.hid hwf
  clear hwf
  cases bw
  · go_wp2
    go_ret
    exact ⟨rfl, Below.refl _ _⟩
  have hwf := HWF0.out (by first | rfl | trivial)
  have e2 := hwf.e2; have e4 := hwf.e4
  subst e2
  subst e4
  have HWF := Lib.hid hwf
  clear hwf HWF0 HFIT
  go_wp2_with (go_at_call 7; refine (copyB a0 len0 cap0 x0 _ HR0.out (by omega) HA0.out).mono ?_)
  rintro e wa ⟨A0, d0, rfl, ho, hb⟩
  have BA := Lib.hid hb
  have QA0 := Lib.hid (Reads.of_own ho); have GA0 := Lib.hid (own_some ho)
  clear ho hb
  have hsa := BA.out.size
  go_wp2_with (go_at_call 8; refine (copyS a1 len2 cap1 x1 _ ((HS1.out.rd.below BA.out).more hsa) (by omega) HA1.out).mono ?_)
  rintro e wb ⟨A1, d1, rfl, ho, hb⟩
  have BB := Lib.hid (BA.out.trans (hb.mono hsa)); have BAB := Lib.hid hb
  have QB1 := Lib.hid (Reads.of_own ho)
  clear ho hb
  have hsb := BB.out.size; have hsab := BAB.out.size
  go_wp2_with (go_at_call 9; refine (copyU a2 len2 cap2 x2 _ ((HR2.out.below BB.out).more hsb) (by omega) HA2.out).mono ?_)
  rintro e wc ⟨A2, d2, rfl, ho, hb⟩
  have BC := Lib.hid (BB.out.trans (hb.mono hsb)); have BBC := Lib.hid hb
  have QC2 := Lib.hid (Reads.of_own ho)
  clear ho hb
  have hsc := BC.out.size; have hsbc := BBC.out.size
  go_wp2_with (go_at_call 9; refine (copyU a3 len4 cap3 x3 _ ((HR3.out.below BC.out).more hsc) (by omega) HA3.out).mono ?_)
  rintro e wd ⟨A3, d3, rfl, ho, hb⟩
  have BD := Lib.hid (BC.out.trans (hb.mono hsc)); have BCD := Lib.hid hb
  have QD3 := Lib.hid (Reads.of_own ho)
  clear ho hb
  have hsd := BD.out.size; have hscd := BCD.out.size
  go_wp2_with (go_at_call 8; refine (copyS a4 len4 cap4 x4 _ ((HS4.out.rd.below BD.out).more hsd) (by omega) HA4.out).mono ?_)
  rintro e we ⟨A4, d4, rfl, ho, hb⟩
  have BE := Lib.hid (BD.out.trans (hb.mono hsd)); have BDE := Lib.hid hb
  have QE4 := Lib.hid (Reads.of_own ho)
  clear ho hb
  have hse := BE.out.size; have hsde := BDE.out.size
  have T1 : Hid (StrL we A1 len2 x1) := Lib.hid ⟨(((((QB1.out.below BBC.out).more hsbc).below BCD.out).more hscd).below BDE.out).more hsde, by omega, HS1.out.sz⟩
  have T2 : Hid (U32L we A2 len2 x2) := Lib.hid ⟨(((QC2.out.below BCD.out).more hscd).below BDE.out).more hsde, by omega, HB2.out⟩
  have T3 : Hid (U32L we A3 len4 x3) := Lib.hid ⟨(QD3.out.below BDE.out).more hsde, by omega, HB3.out⟩
  have T4 : Hid (StrL we A4 len4 x4) := Lib.hid ⟨QE4.out, by omega, HS4.out.sz⟩
  have R0 : Hid (Reads we we.heap.size 1 A0 len0 (x0.map (Value.int .u8))) := Lib.hid ((((((((QA0.out.below BAB.out).more hsab).below BBC.out).more hsbc).below BCD.out).more hscd).below BDE.out).more hsde)
  clear QA0 QB1 QC2 QD3 QE4 BAB BBC BCD BDE
  go_wp2_with (go_at_call 10; refine (chosen_any A1 len2 d1 x1 A2 d2 x2 A3 len4 d3 x3 A4 d4 x4 q _ T1.out T2.out T3.out T4.out f1 f3 HWF.out).mono ?_)
  rintro e wz ⟨rfl, rfl⟩
  obtain ⟨nm, hnm⟩ : ∃ nm, nm = chosenF x1 x2 x3 x4 len4 q := ⟨_, rfl⟩
  rw [← hnm]
  have hns : nm.size ≤ 1048576 := by
    rw [hnm]
    have h1 : ∀ r, (x1.getD r ⟨#[]⟩).size ≤ 1048576 := fun r => by
      rw [List.getD_eq_getElem?_getD]
      cases he : x1[r]? with
      | none => decide
      | some y => exact HZ1.out y (List.mem_of_getElem? he)
    have h2 : ∀ r k v, pickR x3 x4 r k = some v → v.size ≤ 1048576 := fun r k => by
      induction k with
      | zero => intro v h; cases h
      | succ k ih =>
        intro v h
        unfold pickR at h
        split at h
        · obtain rfl := Option.some.inj h
          rw [List.getD_eq_getElem?_getD]
          cases he : x4[k]? with
          | none => decide
          | some y => exact HZ4.out y (List.mem_of_getElem? he)
        · exact ih v h
    unfold chosenF
    cases hp : pickR x3 x4 (rootN x2 q) len4 with
    | none => exact h1 _
    | some v => exact h2 _ _ v hp
  have HNM := Lib.hid hnm
  clear hnm
  go_wp2_with (go_at_call 11; refine (plain_any nm _ (by omega)).mono ?_)
  rintro e wz ⟨bp, rfl, hpl, rfl⟩
  have HPL := Lib.hid hpl
  clear hpl
  cases bp
  · go_wp2
    go_ret
    exact ⟨rfl, BE.out⟩
  have HCH := Lib.hid (HPL.out (by first | rfl | trivial))
  go_wp2_with (go_at_call 7; refine (copyB A0 len0 d0 x0 _ R0.out (by omega) GA0.out).mono ?_)
  rintro e wf ⟨A5, d5, rfl, ho, hb⟩
  have BF := Lib.hid (BE.out.trans (hb.mono hse)); have BEF := Lib.hid hb
  have O5 := Lib.hid ho
  clear ho hb
  have hsf := BF.out.size; have hsef := BEF.out.size
  have U1 : Hid (StrL wf A1 len2 x1) := Lib.hid ⟨(T1.out.rd.below BEF.out).more hsef, T1.out.le, T1.out.sz⟩
  have U2 : Hid (U32L wf A2 len2 x2) := Lib.hid ⟨(T2.out.rd.below BEF.out).more hsef, T2.out.le, T2.out.rg⟩
  have U3 : Hid (U32L wf A3 len4 x3) := Lib.hid ⟨(T3.out.rd.below BEF.out).more hsef, T3.out.le, T3.out.rg⟩
  have U4 : Hid (StrL wf A4 len4 x4) := Lib.hid ⟨(T4.out.rd.below BEF.out).more hsef, T4.out.le, T4.out.sz⟩
  have lx0 : x0.length = len0 := by have := R0.out.1; simpa using this
  have LX0 := Lib.hid lx0
  clear lx0
  go_wp2_with (go_at_call 12; refine (new_any we.heap.size A5 len0 d5 (x0.map (Value.int .u8)) false A1 len2 d1 x1 A2 d2 x2 A3 len4 d3 x3 A4 d4 x4 wf (by rw [List.length_map]; exact LX0.out) O5.out hsef U1.out U2.out U3.out U4.out f1 f3).mono ?_)
  rintro e wg ⟨b, m, o, g, rfl, hsp, hb⟩
  have HSP := Lib.hid hsp
  have BG := Lib.hid (BF.out.trans (hb.mono hsf)); have BEG := Lib.hid (BEF.out.trans (hb.mono hsef))
  clear hsp hb
  have hsg := BG.out.size; have hseg := BEG.out.size
  go_wp2_with (go_at_call 13; refine (zsym b q wg _ (fun _ _ h => h.1) (psym we.heap.size b false m o g len2 x1 x2 x3 x4 len4 A5 d5 (x0.map (Value.int .u8)) q 0 wg HSP.out HWF.out f1 (HI.out.below BG.out hpos) ⟨by omega, hseg⟩ (by rw [List.length_map, LX0.out]; omega) (by rw [← HNM.out]; exact HCH.out) (by rw [← HNM.out]; exact hns))).mono ?_)
  rintro e wh ⟨rfl, ⟨A6, d6, v6, hp⟩, hb⟩
  rw [← HNM.out] at hp
  have HP6 := Lib.hid hp
  have hlen6 : (x0.map (Value.int .u8) ++ byteCells nm).length = len0 + nm.size := by rw [List.length_append, byteCells_length, List.length_map, LX0.out]
  have HL6 := Lib.hid hlen6
  have BH := Lib.hid (BG.out.trans (hb.mono (by omega))); have BEH := Lib.hid (BEG.out.trans hb)
  clear hp hb hlen6
  have hsh := BH.out.size; have hseh := BEH.out.size
  go_wp2_with (go_at_call 14; refine (css_any wh HP6.out _ HL6.out).mono ?_; rintro e wz ⟨rfl, rfl⟩)
  go_wp2_with (go_at_call 7; refine (copyB A0 len0 d0 x0 _ ((R0.out.below BEH.out).more hseh) (by omega) GA0.out).mono ?_)
  rintro e wi ⟨A7, d7, rfl, ho, hb⟩
  have O7 := Lib.hid ho; have BI := Lib.hid (BH.out.trans (hb.mono hsh)); have BHI := Lib.hid hb
  clear ho hb
  have hsi := BI.out.size; have hshi := BHI.out.size
  obtain ⟨i0, hi, hz0, hz1, hz2⟩ := info_parts u8I
  have HSRC : Hid (Src Tryf.prog 1 9 (.string nm) nm.size (byteCells nm) wi) := Lib.hid (Src.ofString wi Tryf.underlying9 nm)
  go_wp2_with (at_builtin; refine wpList_append_own_src _ rfl _ _ 22 9 rfl wh.heap.size 5 i0 (.int .u8 0) 1 1 Tryf.underlying22 hi hz0 hz1 hz2 rfl _ len0 (x0.map (Value.int .u8)) rfl O7.out _ nm.size (byteCells nm) rfl HSRC.out ?c2 ?c3 ?c4 ?_)
  case c2 => unfold maxLen; omega
  case c3 => omega
  case c4 => exact hshi
  intro v8 wj ho8 hg8 _
  rcases own_form ho8 with ⟨A8, d8, rfl⟩
  have BJ : Hid (Below w.heap.size w wj) := Lib.hid (BI.out.grown hg8 hsi (fun k hk => by have := (O7.out.lt k hk).1; omega))
  have BHJ : Hid (Below wh.heap.size wh wj) := Lib.hid (BHI.out.grown hg8 hshi (fun k hk => (O7.out.lt k hk).1))
  have hshj := BHJ.out.size
  have R8 : Hid (Reads wj wj.heap.size 1 A8 (len0 + nm.size) ((x0 ++ sI nm).map (Value.int .u8))) := Lib.hid (by have := Reads.of_own ho8; rwa [sI_cells, ← List.map_append] at this)
  have R6 : Hid (Reads wj wj.heap.size 1 A6 (len0 + nm.size) ((x0 ++ sI nm).map (Value.int .u8))) := Lib.hid (by
    have := Reads.of_own (HP6.out.ownL HL6.out)
    rw [sI_cells, ← List.map_append] at this
    exact (this.below BHJ.out).more hshj)
  clear ho8 hg8
  go_wp2_with (go_at_call 15; refine (eq_same A6 (len0 + nm.size) d6 (x0 ++ sI nm) A8 d8 wj R6.out R8.out (by omega)).mono ?_)
  rintro e wk ⟨rfl, hb⟩
  have BK := Lib.hid (BJ.out.trans (hb.mono BJ.out.size))
  clear hb
  go_wp2_with fail
  go_ret
  exact ⟨rfl, BK.out⟩

/-! ### THE ROW's STEP -/
/-- An input that fits, at a world whose variables are laid (slices among them). -/
theorem witness_zip {H : Type} {enc : TypeId × Value → H} {C : Checked} {os : Os} {f : FuncId} {fn : Func} {s : OpenSpec} {conds : List PathCond} {apart : Bool} {laid : List (String × DataW Unit)} (modest : Bool) (w0 : World) (args : Array Value) (hos : w0.os = os)
    (hsh : (w0.forCall (fun _ _ => 0) ⟨#[], args, []⟩).Shaped C.prog)
    (hok : Input.okWideB C.prog (w0.forCall (fun _ _ => 0) ⟨#[], args, []⟩) f ⟨#[], args, []⟩ = true)
    (hrow : s.preRow enc C.prog fn conds apart laid (w0.forCall (fun _ _ => 0) ⟨#[], args, []⟩).memory args) (F : Stop.Interp) :
    ∃ (w : World) (tape : Tape) (i : Input), w.os = os ∧ (w.forCall tape i).Shaped C.prog ∧ i.vars = [] ∧ Input.okWide C.prog (w.forCall tape i) .any w.heap.size f i ∧
      s.preRow enc C.prog fn conds apart laid (w.forCall tape i).memory i.args ∧ ({ modest := modest } : Assume).holds C.prog (lone (Frame.enter C.prog f i.args .normal) [] (w.forCall tape i)) ∧ F.answers tape :=
  ⟨w0, F.over fun _ _ => 0, ⟨#[], args, []⟩, hos, hsh, (Input.okWide_of_okWideB (base := 0) hok).1, (Input.okWide_of_okWideB hok).2, hrow, by
    simp only [Assume.holds]
    exact ⟨by simp, by simp, fun _ => F.over_modest Modest.zero, by simp, by simp⟩, F.over_answers _⟩
set_option maxRecDepth 100000 in
theorem lifted (os : Os) (started : os.Started) (H : Type) (enc : TypeId × Value → H) :
    ReturnsInTold none {} Tryf.checked os 3 .any Input.okWide ((OpenSpec.ofChange Rows.fnPrintSymbolPlainNameExactSpec).preRow enc Tryf.prog Tryf.f3 [] false Rows.fnPrintSymbolPlainNameExactRow.laid) (fun F => ((OpenSpec.ofChange Rows.fnPrintSymbolPlainNameExactSpec).at F).post enc Tryf.prog Tryf.f3 false true false false) (aloneAtReturn Tryf.prog) nothingAlways := by
  refine returnsInTold_of_row (C := Tryf.checked) (s := (OpenSpec.ofChange Rows.fnPrintSymbolPlainNameExactSpec)) (by kernel_rfl) own started (by kernel_rfl) Tryf.func3
    (witness_zip (enc := enc) (C := Tryf.checked) false (World.laidAll Tryf.prog os Rows.fnPrintSymbolPlainNameExactRow.laid) #[.slice none 0 0, .slice none 0 0, .slice none 0 0, .slice none 0 0, .slice none 0 0, .int .u32 0] (World.laidAll_os _ _ _) (World.shaped_of_ZipB (by kernel_rfl) (by kernel_rfl)) (by kernel_rfl)
      (OpenSpec.preRow_of_B rfl 8 (by kernel_rfl) (by kernel_rfl) (by rw [MakeChecks.laidMetH_plain _ _ _ (by kernel_rfl)]; exact laidMet_laidAll _ (by kernel_rfl) (by kernel_rfl)))) ?_
  intro F W base args ds gs before _ hF hval0 hW _ _ hsz hL _
  have hval : ∀ (j : Nat) t v, Tryf.f3.params[j]? = some t → args[j]? = some v → Value.okWide Tryf.prog W .any base t v := hval0
  have hW' := hW
  obtain ⟨p, q, hA0, hV, rfl, hfz, hnd⟩ := hW
  have hA : DataW.TrodAll enc Tryf.prog W 0 (fun _ => true) true Tryf.f3.params.toList args.toList ds p := hA0
  rw [Tryf.params3] at hA hval
  obtain ⟨v0, vs0, d0, ds0, p0, q0, hargs, rfl, rfl, h0, r0⟩ := trodAll_cons hA
  obtain ⟨v1, vs1, d1, ds1, p1, q1, rfl, rfl, rfl, h1, r1⟩ := trodAll_cons r0
  obtain ⟨v2, vs2, d2, ds2, p2, q2, rfl, rfl, rfl, h2, r2⟩ := trodAll_cons r1
  obtain ⟨v3, vs3, d3, ds3, p3, q3, rfl, rfl, rfl, h3, r3⟩ := trodAll_cons r2
  obtain ⟨v4, vs4, d4, ds4, p4, q4, rfl, rfl, rfl, h4, r4⟩ := trodAll_cons r3
  obtain ⟨v5, vs5, d5, ds5, p5, q5, rfl, rfl, rfl, h5, r5⟩ := trodAll_cons r4
  obtain ⟨rfl, rfl, rfl⟩ := trodAll_nil r5
  obtain rfl : args = #[v0, v1, v2, v3, v4, v5] := by cases args; simp_all
  have hV1 : DataW.TrodVars enc Tryf.prog W (fun _ => true) ["github.com/evanw/esbuild/internal/ast.InvalidRef", "github.com/evanw/esbuild/internal/sourcemap.base64"] gs q := hV
  obtain ⟨g1, g2, rfl⟩ : ∃ g g2, gs = [g, g2] := by
    match gs, hV1 with
    | [g, g2], _ => exact ⟨g, g2, rfl⟩
    | [], h => exact h.elim
    | [_], ⟨_, _, _, _, _, _, _, _, _, _, h, _⟩ => exact h.elim
    | _ :: _ :: _ :: _, ⟨_, _, _, _, _, _, _, _, _, _, ⟨_, _, _, _, _, _, _, _, _, _, h, _⟩, _⟩ => exact h.elim
  have k0 := h0
  have lt0 : ∀ x ∈ p0, x.block < W.heap.size := by obtain ⟨m, hm⟩ := k0; exact DataW.trod_lt m _ _ _ hm
  have k1 := h1
  have lt1 : ∀ x ∈ p1, x.block < W.heap.size := by obtain ⟨m, hm⟩ := k1; exact DataW.trod_lt m _ _ _ hm
  have k2 := h2
  have lt2 : ∀ x ∈ p2, x.block < W.heap.size := by obtain ⟨m, hm⟩ := k2; exact DataW.trod_lt m _ _ _ hm
  have k3 := h3
  have lt3 : ∀ x ∈ p3, x.block < W.heap.size := by obtain ⟨m, hm⟩ := k3; exact DataW.trod_lt m _ _ _ hm
  have k4 := h4
  have lt4 : ∀ x ∈ p4, x.block < W.heap.size := by obtain ⟨m, hm⟩ := k4; exact DataW.trod_lt m _ _ _ hm
  have k5 := h5
  have lt5 : ∀ x ∈ p5, x.block < W.heap.size := by obtain ⟨m, hm⟩ := k5; exact DataW.trod_lt m _ _ _ hm
  obtain ⟨a0, len0, cap0, rfl⟩ := okWide_slice Tryf.underlying22 (hval 0 22 v0 rfl rfl)
  obtain ⟨z0, w0⟩ : ∃ zs, IsRow .u8 W a0 len0 cap0 zs := by
    obtain ⟨fuel, hf⟩ := h0
    rcases open_ints Tryf.underlying22 Tryf.underlying5 (by kernel_rfl) hf with ⟨hcs, _⟩ | ⟨x, l, c, zs, hcs, _, hl, hm, hz, _, hcell, hwz⟩
    · simp [Value.cells] at hcs
      obtain ⟨rfl, rfl, rfl⟩ := hcs
      exact ⟨[], .inl ⟨rfl, rfl, rfl, rfl⟩⟩
    · simp [Value.cells] at hcs
      obtain ⟨rfl, rfl, rfl⟩ := hcs
      exact ⟨zs, .inr ⟨_, rfl, hl, hm, by simpa using hz, hcell, hwz⟩⟩
  obtain ⟨a1, len1, cap1, rfl⟩ := okWide_slice Tryf.underlying23 (hval 1 23 v1 rfl rfl)
  obtain ⟨z1, w1⟩ : ∃ zs, IsStrs W a1 len1 cap1 zs := by
    obtain ⟨fuel, hf⟩ := h1
    rcases open_strings Tryf.underlying23 Tryf.underlying9 (by kernel_rfl) hf with ⟨hcs, _⟩ | ⟨x, l, c, zs, hcs, _, hl, hm, hz, _, hcell, hwz⟩
    · simp [Value.cells] at hcs
      obtain ⟨rfl, rfl, rfl⟩ := hcs
      exact ⟨[], .inl ⟨rfl, rfl, rfl, rfl⟩⟩
    · simp [Value.cells] at hcs
      obtain ⟨rfl, rfl, rfl⟩ := hcs
      exact ⟨zs, .inr ⟨_, rfl, hl, hm, by simpa using hz, hcell, hwz⟩⟩
  obtain ⟨a2, len2, cap2, rfl⟩ := okWide_slice Tryf.underlying24 (hval 2 24 v2 rfl rfl)
  obtain ⟨z2, w2⟩ : ∃ zs, IsRow .u32 W a2 len2 cap2 zs := by
    obtain ⟨fuel, hf⟩ := h2
    rcases open_ints Tryf.underlying24 Tryf.underlying25 (by kernel_rfl) hf with ⟨hcs, _⟩ | ⟨x, l, c, zs, hcs, _, hl, hm, hz, _, hcell, hwz⟩
    · simp [Value.cells] at hcs
      obtain ⟨rfl, rfl, rfl⟩ := hcs
      exact ⟨[], .inl ⟨rfl, rfl, rfl, rfl⟩⟩
    · simp [Value.cells] at hcs
      obtain ⟨rfl, rfl, rfl⟩ := hcs
      exact ⟨zs, .inr ⟨_, rfl, hl, hm, by simpa using hz, hcell, hwz⟩⟩
  obtain ⟨a3, len3, cap3, rfl⟩ := okWide_slice Tryf.underlying24 (hval 3 24 v3 rfl rfl)
  obtain ⟨z3, w3⟩ : ∃ zs, IsRow .u32 W a3 len3 cap3 zs := by
    obtain ⟨fuel, hf⟩ := h3
    rcases open_ints Tryf.underlying24 Tryf.underlying25 (by kernel_rfl) hf with ⟨hcs, _⟩ | ⟨x, l, c, zs, hcs, _, hl, hm, hz, _, hcell, hwz⟩
    · simp [Value.cells] at hcs
      obtain ⟨rfl, rfl, rfl⟩ := hcs
      exact ⟨[], .inl ⟨rfl, rfl, rfl, rfl⟩⟩
    · simp [Value.cells] at hcs
      obtain ⟨rfl, rfl, rfl⟩ := hcs
      exact ⟨zs, .inr ⟨_, rfl, hl, hm, by simpa using hz, hcell, hwz⟩⟩
  obtain ⟨a4, len4, cap4, rfl⟩ := okWide_slice Tryf.underlying23 (hval 4 23 v4 rfl rfl)
  obtain ⟨z4, w4⟩ : ∃ zs, IsStrs W a4 len4 cap4 zs := by
    obtain ⟨fuel, hf⟩ := h4
    rcases open_strings Tryf.underlying23 Tryf.underlying9 (by kernel_rfl) hf with ⟨hcs, _⟩ | ⟨x, l, c, zs, hcs, _, hl, hm, hz, _, hcell, hwz⟩
    · simp [Value.cells] at hcs
      obtain ⟨rfl, rfl, rfl⟩ := hcs
      exact ⟨[], .inl ⟨rfl, rfl, rfl, rfl⟩⟩
    · simp [Value.cells] at hcs
      obtain ⟨rfl, rfl, rfl⟩ := hcs
      exact ⟨zs, .inr ⟨_, rfl, hl, hm, by simpa using hz, hcell, hwz⟩⟩
  obtain ⟨a5, rfl, rfl, rfl, w5⟩ := open_int Tryf.underlying25 (hval 5 25 v5 rfl rfl) h5
  clear hA0 hval0
  refine (walk a0 len0 cap0 z0 a1 len1 cap1 z1 a2 len2 cap2 z2 a3 len3 cap3 z3 a4 len4 cap4 z4 a5 W w0 w1 w2 w3 w4 w5 (inv_of hL)).mono fun e W' ⟨he, bel⟩ => ?_
  subst he
  exact ⟨_, rfl, _, _, _, [], _, q, hW', trodAll_mk1 (shut_bool Tryf.underlying4 _), (trodAll_cons_mk (Below.trod laidOut (by kernel_rfl) (of_decide_eq_true (by kernel_rfl)) k0 bel lt0) (trodAll_cons_mk (Below.trod laidOut (by kernel_rfl) (of_decide_eq_true (by kernel_rfl)) k1 bel lt1) (trodAll_cons_mk (Below.trod laidOut (by kernel_rfl) (of_decide_eq_true (by kernel_rfl)) k2 bel lt2) (trodAll_cons_mk (Below.trod laidOut (by kernel_rfl) (of_decide_eq_true (by kernel_rfl)) k3 bel lt3) (trodAll_cons_mk (Below.trod laidOut (by kernel_rfl) (of_decide_eq_true (by kernel_rfl)) k4 bel lt4) (trodAll_cons_mk (Below.trod laidOut (by kernel_rfl) (of_decide_eq_true (by kernel_rfl)) k5 bel lt5) trodAll_mk0)))))), Below.trodVars laidOut bel (by kernel_rfl) hV1, bel.frame _, fun h => by cases h⟩

theorem stopsAre : Tryf.pinned.checked.prog.stops = ["fmt.Sprintf"] := by kernel_rfl
theorem stopKnobs : Tryf.pinned.checked.prog.stopKnobs = [] := by kernel_rfl
theorem quiet (os : Os) : Stop.quiet Tryf.pinned.checked.prog os := by
  intro k hk
  rw [stopKnobs] at hk
  cases hk

theorem proved : Rows.FnPrintSymbolPlainNameExactToldSaid :=
  Claim7.holds_of_told_tied_any_at .later 3 Tryf.f3 "fmt.Sprintf" [] [] _ _ _ [.data, .data, .widerDeep, .pinned] true (by kernel_rfl) rfl rfl rfl laidOut (by kernel_rfl) rfl ⟨rfl, rfl, rfl, rfl, rfl, rfl, rfl⟩ rfl rfl (by kernel_rfl) (by kernel_rfl) Tryf.func3 (by kernel_rfl)
    (of_decide_eq_true (by kernel_rfl)) (of_decide_eq_true (by kernel_rfl)) stopsAre.symm rfl stopKnobs.symm (by kernel_rfl)
    (by kernel_rfl) (by kernel_rfl) (by kernel_rfl) (by kernel_rfl) (by kernel_rfl) (by kernel_rfl) (by kernel_rfl) (by kernel_rfl) (by kernel_rfl) rfl (by kernel_rfl) rfl rfl
    rfl rfl
    rfl (by kernel_rfl) (by kernel_rfl) (by kernel_rfl) (by decide) (by kernel_rfl) fnPrintSymbolPlainNameExact_row_tie
    (OpenClaim.moreEntering_of (by kernel_rfl) (by kernel_rfl) (by kernel_rfl) (by kernel_rfl) (by kernel_rfl) (by kernel_rfl) (by kernel_rfl) (by kernel_rfl) (by kernel_rfl) (by kernel_rfl))
    ⟨_, WideRow.started_initial, quiet _⟩
    (fun os started _ H enc _ => lifted os started H enc)
#print axioms proved
end Go.Proofs.YtmkkocjhbclibaaFmt.fnPrintSymbolPlainNameExact