/-
  PROVED: FnGlobResultsGrowToHighestIndex: after every glob allocation the results table is exactly one longer than the highest index handed out so far.
-/
import Derived.Test.YtlkicobpfbgloaaRows
import Derived.WalkKit
import Derived.ProofKit
import Derived.Deep.QuietTactic
import Derived.BigQuiet
import Derived.IntWalk
import Derived.Deep.RegionWith
import Derived.Outline
import Derived.LoopTactic
import Derived.WalkSpells
import Derived.Deep.Light
import Derived.Test.YtlkicobpfbgloaaClu
import Derived.Test.YtlkicobpfbgloaaGln
import Derived.OpenShut
import Derived.ShutString
import Derived.ChangeOld
import Derived.Below
import Derived.Carry
namespace Go.Proofs.Ytlkicobpfbgloaa.fnGlobResultsGrowToHighestIndex
open Go.ChangeShapes Go.WideShapes Go.ChangeAt Go.RowKit
open Go.ChangeMaps (open_string shut_string)
set_option linter.unusedVariables false
set_option linter.unusedSimpArgs false

theorem own : ownKnob Try.prog.godebug = none := by kernel_rfl
theorem laidOut : laidOutB Try.pinned.checked.prog = true := by kernel_rfl

/-- What the walk is told of a slice of integers that came in. -/
def IsRow (k : IntKind) (w : World) (a : Option Addr) (len cap : Nat) (zs : List Int) : Prop :=
  (a = none ∧ len = 0 ∧ cap = 0 ∧ zs = []) ∨
  ∃ x, a = some x ∧ len ≤ cap ∧ cap ≤ maxLen ∧ zs.length = cap ∧ (∀ i, i < zs.length → w.cell? (x.add i) = some (.int k (zs.getD i 0))) ∧ ∀ n ∈ zs, (Lit.int k n).wf = true
theorem isrow_reads {k : IntKind} {w : World} {a : Option Addr} {len cap : Nat} {zs : List Int} (h : IsRow k w a len cap zs) : Reads w w.heap.size 1 a len ((zs.take len).map (Value.int k)) ∧ (a = none → len = 0) ∧ len ≤ maxLen := by
  rcases h with ⟨rfl, rfl, rfl, rfl⟩ | ⟨x, rfl, hl, hm, hz, hc, _⟩
  · exact ⟨Reads.none_, fun _ => rfl, by unfold maxLen; omega⟩
  · refine ⟨⟨by simp; omega, fun hn => ⟨x, rfl, ?_, fun j u hu => ?_⟩⟩, (fun h => by cases h), by omega⟩
    · have := hc 0 (by omega)
      exact World.block_lt_of_cell? w x (by simpa [Addr.add] using this)
    · have hj : j < len := by
        have := (List.getElem?_eq_some_iff.1 hu).1
        simp at this; omega
      rw [hc j (by omega)]
      rw [List.getElem?_map, List.getElem?_take_of_lt hj, List.getElem?_eq_getElem (by omega)] at hu
      rw [List.getD_eq_getElem?_getD, List.getElem?_eq_getElem (by omega)]
      exact hu



def AnyBool (w : World) (e : Ending) (w' : World) : Prop := ∃ b, e = .returned (.bool b) ∧ w = w'
theorem isrow_wf {k : IntKind} {w : World} {a : Option Addr} {len cap : Nat} {zs : List Int} (h : IsRow k w a len cap zs) : ∀ n ∈ zs.take len, (Lit.int k n).wf = true := by
  intro n hn
  rcases h with ⟨_, _, _, rfl⟩ | ⟨_, _, _, _, _, _, hw⟩
  · simp at hn
  · exact hw n (List.mem_of_mem_take hn)
set_option maxRecDepth 100000 in
theorem zb (A : Option Addr) (n c : Nat) (A' : Option Addr) (n' c' : Nat) (w : World) (hn : n ≤ maxLen) (hn' : n' ≤ maxLen) : Calls Try.prog 4 #[.slice A n c, .slice A' n' c'] w (AnyBool w) := by
  unfold maxLen at hn hn'
  go_enter Try.func4, Try.ntmps4
  go_wp2
  all_goals
    go_ret
    exact ⟨_, rfl, rfl⟩
set_option maxRecDepth 100000 in
theorem min_any (a b : Nat) (w : World) (ha : a ≤ 4096) (hb : b ≤ 4096) : Calls Try.prog 6 #[.int .i64 (a : Int), .int .i64 (b : Int)] w fun e w' => e = .returned (.int .i64 ((min a b : Nat) : Int)) ∧ w = w' := by
  by_cases h : a < b
  · have h1 : (a : Int) < (b : Int) := by omega
    have HM : Hid (min a b = a) := Lib.hid (by omega)
    clear h
    go_enter Try.func6, Try.ntmps6
    go_wp2
    go_ret
    exact ⟨by rw [HM.out]; rfl, rfl⟩
  · have h1 : ¬ (a : Int) < (b : Int) := by omega
    have HM : Hid (min a b = b) := Lib.hid (by omega)
    clear h
    go_enter Try.func6, Try.ntmps6
    go_wp2
    go_ret
    exact ⟨by rw [HM.out]; rfl, rfl⟩
theorem reads_any {α : Type} {f : α → Value} {w : World} {B : Nat} {A : Option Addr} {n : Nat} {L : List α} (h : Reads w B 1 A n (L.map f)) (hn : 0 < n) :
    ∃ b off, A = some ⟨b, off, none⟩ ∧ b < B ∧ ∀ i l, L[i]? = some l → w.cell? ⟨b, off + i, none⟩ = some (f l) := by
  have hlen : L.length = n := by have := h.1; simpa using this
  obtain ⟨ad, u, rfl, hb, _, hc⟩ := h.at_ hn
  obtain ⟨b, off, spot⟩ := ad
  have hs : spot = none := World.cell?_spot (show w.cell? ⟨b, off, spot⟩ = some u from hc)
  subst hs
  refine ⟨b, off, rfl, hb, fun i l hl => ?_⟩
  obtain ⟨ad', e1, _, hc'⟩ := h.2 hn
  obtain rfl := Option.some.inj e1
  have := hc' i (f l) (by rw [List.getElem?_map, hl]; rfl)
  rw [← this]
  unfold Addr.add
  split
  · rename_i h0; subst h0; rfl
  · rfl
theorem clone_reads {w : World} {A : Option Addr} {n : Nat} {xs : List Int} {e : Ending} {w' : World} (h : cloneUPost w A n (xs.map (Value.int .u32)) e w') (hA : A = none → n = 0) (hx : xs.length = n) :
    ∃ A' c', e = .returned (.slice A' n c') ∧ Reads w' w'.heap.size 1 A' n (xs.map (Value.int .u32)) ∧ Below w.heap.size w w' := by
  rcases h with ⟨h1, rfl, rfl⟩ | ⟨g, h1, rfl, hg, hb, hbw⟩
  · obtain rfl := hA h1
    obtain rfl : xs = [] := List.eq_nil_of_length_eq_zero hx
    exact ⟨none, 0, rfl, Reads.none_, Below.refl _ _⟩
  · refine ⟨_, _, rfl, ⟨by simpa using hx, fun hn => ⟨_, rfl, hb.lt, fun j u hu => ?_⟩⟩, hbw⟩
    rw [← hu]
    have := hb.cell j
    rw [List.getElem?_toArray] at this
    rw [← this]
    unfold Addr.add
    split
    · rename_i h0; subst h0; rfl
    · show w'.cell? ⟨g, 0 + j, none⟩ = _
      rw [Nat.zero_add]
/-! ### STEP 1: THE WALK -/
set_option maxHeartbeats 16000000 in
set_option maxRecDepth 100000 in
theorem walk (a0 : Option Addr) (len0 cap0 : Nat) (z0 : List Int) (a1 : Option Addr) (len1 cap1 : Nat) (z1 : List Int) (w : World) (w0 : IsRow .u32 w a0 len0 cap0 z0) (w1 : IsRow .u32 w a1 len1 cap1 z1)  :
    Calls Try.prog 3 #[.slice a0 len0 cap0, .slice a1 len1 cap1] w fun e w' => e = .returned (.bool true) ∧ Below w.heap.size w w' := by
  obtain ⟨hr0, hA0, hl0⟩ := isrow_reads w0
  have hw0 := isrow_wf w0
  generalize z0.take len0 = x0 at hr0 hw0
  have hb0 : ∀ m ∈ x0, 0 ≤ m ∧ m ≤ 4294967295 := fun m hm => by
    have := hw0 m hm
    simp [Lit.wf, IntKind.min, IntKind.max, IntKind.signed, IntKind.bits] at this
    omega
  have HR0 := Lib.hid hr0; have HA0 := Lib.hid hA0; have HB0 := Lib.hid hb0; have HL0 := Lib.hid hl0
  have l0 : len0 ≤ 9223372036854775807 := hl0
  clear hr0 hA0 hb0 hw0 hl0 w0
  obtain ⟨hr1, hA1, hl1⟩ := isrow_reads w1
  have hw1 := isrow_wf w1
  generalize z1.take len1 = x1 at hr1 hw1
  have hb1 : ∀ m ∈ x1, 0 ≤ m ∧ m ≤ 4294967295 := fun m hm => by
    have := hw1 m hm
    simp [Lit.wf, IntKind.min, IntKind.max, IntKind.signed, IntKind.bits] at this
    omega
  have HR1 := Lib.hid hr1; have HA1 := Lib.hid hA1; have HB1 := Lib.hid hb1; have HL1 := Lib.hid hl1
  have l1 : len1 ≤ 9223372036854775807 := hl1
  clear hr1 hA1 hb1 hw1 hl1 w1
  go_enter Try.func3, Try.ntmps3
  go_wp2_with (go_at_call 4; refine (zb a0 len0 cap0 a1 len1 cap1 _ (by unfold maxLen; omega) (by unfold maxLen; omega)).mono ?_)
  rintro e wz ⟨bz, rfl, rfl⟩
  cases bz
  · go_wp2
    go_ret
    exact ⟨rfl, Below.refl _ _⟩
  by_cases h0 : 4096 < len0
  · go_wp2
    go_ret
    exact ⟨rfl, Below.refl _ _⟩
  by_cases h1 : 4096 < len1
  · go_wp2
    go_ret
    exact ⟨rfl, Below.refl _ _⟩
  have lb0 : len0 ≤ 4096 := by omega
  have lb1 : len1 ≤ 4096 := by omega
  clear l0 l1
  have hx0 : x0.length = len0 := by have := HR0.out.1; simpa using this
  have hx1 : x1.length = len1 := by have := HR1.out.1; simpa using this
  have HX0 := Lib.hid hx0; have HX1 := Lib.hid hx1
  clear hx0 hx1
  go_wp2_with (go_at_call 5; refine (cloneU a0 len0 cap0 x0 _ HR0.out (by omega)).mono ?_)
  rintro e wa hcl
  obtain ⟨A0, d0, rfl, hra, hba⟩ := clone_reads hcl HA0.out HX0.out
  have QA0 := Lib.hid hra; have BA := Lib.hid hba
  have RA1 := Lib.hid ((HR1.out.below hba).more hba.size)
  clear hcl hra hba HR0 HR1
  go_wp2_with (go_at_call 5; refine (cloneU a1 len1 cap1 x1 _ RA1.out (by omega)).mono ?_)
  rintro e wb hcl
  obtain ⟨A1, d1, rfl, hrb, hbb⟩ := clone_reads hcl HA1.out HX1.out
  have QB0 := Lib.hid ((QA0.out.below hbb).more hbb.size); have QB1 := Lib.hid hrb
  have BB := Lib.hid (BA.out.trans (hbb.mono BA.out.size))
  clear hcl hrb hbb QA0 BA RA1
  go_wp2_with (go_at_call 6; refine (min_any len0 len1 _ lb0 lb1).mono ?_)
  rintro e wz ⟨rfl, rfl⟩
  obtain ⟨n, hn⟩ : ∃ n, n = min len0 len1 := ⟨_, rfl⟩
  rw [← hn]
  have hn0 : n ≤ len0 := by omega
  have hn1 : n ≤ len1 := by omega
  clear hn
  obtain ⟨i0, z0, gi, _, _, _, _, _⟩ := pr_parts
  have HSZ : Hid (∃ i, Try.prog.info? 218 = some i ∧ i.size = i0.size) := Lib.hid ⟨i0, gi, rfl⟩
  go_wp2_with (go_at_call 7; refine (ng_any _).mono ?_)
  rintro e wc ⟨sb, cb, mb, rfl, hbc, hgs⟩
  have HGS := Lib.hid (hgs i0.size)
  generalize i0.size = sz at HSZ HGS
  have BC := Lib.hid hbc
  have hws := BB.out.size
  clear hgs hbc gi
  go_wp2_with (go_at_call 8; refine (len_any wb.heap.size sb cb mb sz 0 0 (.map []) (.slice none 0 0) 0 0 _ HGS.out).mono ?_)
  rintro e wz ⟨rfl, rfl⟩
  go_wp2_with fail
  go_loopw [7, 8, 9] (fun h i x wr => ∃ (k c m len cap : Nat) (D : DataW Unit) (v : Value), i = .int .i64 k ∧ k ≤ n ∧ h = .int .i64 ((len : Int) - 1) ∧ c ≤ k ∧ m ≤ k ∧ ((len = 0 ∧ c = 0) ∨ len = c + 1) ∧ GS wr wb.heap.size sb cb mb sz c m D v len cap ∧ Below wb.heap.size wb wr) (fun h i x _ => n - (intOf i).toNat)
  case atStart => exact ⟨0, 0, 0, 0, 0, _, _, rfl, by omega, rfl, by omega, by omega, .inl ⟨rfl, rfl⟩, HGS.out, BC.out⟩
  case round =>
    obtain ⟨k, c, m, len, cap, D, v, rfl, hk, rfl, hck, hmk, hlc, hgs, hbw⟩ := hrel
    have GSK := Lib.hid hgs; have BW := Lib.hid hbw
    have hrs := hbw.size
    obtain ⟨hi, hhi⟩ : ∃ hi, hi = (len : Int) - 1 := ⟨_, rfl⟩
    rw [← hhi]
    have HHI := Lib.hid hhi
    clear hgs hbw HGS BC hhi
    by_cases hlt : k < n
    · obtain ⟨b0, o0, rfl, hb0, hc0⟩ := reads_any QB0.out (show 0 < len0 by omega)
      obtain ⟨b1, o1, rfl, hb1, hc1⟩ := reads_any QB1.out (show 0 < len1 by omega)
      obtain ⟨p, hp⟩ : ∃ p, x0[k]? = some p := ⟨_, List.getElem?_eq_getElem (by have := HX0.out; omega)⟩
      obtain ⟨g, hg⟩ : ∃ g, x1[k]? = some g := ⟨_, List.getElem?_eq_getElem (by have := HX1.out; omega)⟩
      have pb := HB0.out p (List.mem_of_getElem? hp)
      have gb := HB1.out g (List.mem_of_getElem? hg)
      have cp : wr.cell? ⟨b0, o0 + k, none⟩ = some (.int .u32 p) := (BW.out.cell (p := ⟨b0, o0 + k, none⟩) hb0).trans (hc0 k _ hp)
      have cg : wr.cell? ⟨b1, o1 + k, none⟩ = some (.int .u32 g) := (BW.out.cell (p := ⟨b1, o1 + k, none⟩) hb1).trans (hc1 k _ hg)
      have HZA : Hid (∀ W : World, wr.grownBy W none → Calls Try.prog 9 #[.pointer (some ⟨sb, 0, none⟩), .int .u32 p, .int .u32 g] W (AlPost wb.heap.size sb cb mb sz c m len W)) := Lib.hid (fun W hW => za_any wb.heap.size sb cb mb sz c m D v len cap p g W pb gb (GSK.out.grown hW) HSZ.out (by omega) (by omega) (Nat.le_trans hrs hW.size) (by omega))
      have HBG : Hid (∀ W : World, wr.grownBy W none → Below wb.heap.size wb W) := Lib.hid (fun W hW => BW.out.grown hW hrs (fun k hk => by cases hk))
      have j0 : (0 : Int) ≤ (k : Int) := by omega
      have j1 : (k : Int) < (len0 : Int) := by omega
      have j2 : (k : Int) < (len1 : Int) := by omega
      clear hc0 hc1 hp hg pb gb
      go_upto_region 15 with fail
      go_region_with (go_at_call 9; refine (HZA.out _ (by first | exact World.grownBy.refl _ _ | exact only_drew (World.grownBy.refl _ _) | exact only_drew (only_drew (World.grownBy.refl _ _)))).mono ?_; rintro e w5 ⟨v5, c5, m5, D5, u5, len5, cap5, rfl, hgs5, hm5, hcv5, hl5, hb5⟩; have GS5 := Lib.hid hgs5; have BW5 := Lib.hid ((HBG.out _ (by first | exact World.grownBy.refl _ _ | exact only_drew (World.grownBy.refl _ _) | exact only_drew (only_drew (World.grownBy.refl _ _)))).trans hb5); have HCV := Lib.hid hcv5; have HL5 := Lib.hid hl5; have hb5' : v5 ≤ 5000 := (by omega); have h5w : IntKind.i64.wrap (v5 : Int) = v5 := IntWalk.i64_in _ (by omega); clear hgs5 hb5 hcv5 hl5)
      all_goals
        have hvb : ¬ (1048576 : Int) < (v5 : Int) := by omega
        by_cases hhv : hi < (v5 : Int)
        · have hr5 : len5 = v5 + 1 ∧ c5 = v5 := by have h1 := HCV.out; have h2 := HL5.out; have h3 := HHI.out; split at h2 <;> omega
          have t5 : ((len5 : Int) != (v5 : Int) + 1) = false := by simp; omega
          have w5w : IntKind.i64.wrap ((v5 : Int) + 1) = (v5 : Int) + 1 := IntWalk.i64_in _ (by omega)
          have HR5 := Lib.hid hr5
          clear hr5
          go_wp2_with (go_at_call 8; refine (len_any wb.heap.size sb cb mb sz c5 m5 D5 u5 len5 cap5 _ GS5.out).mono ?_; rintro e wz ⟨rfl, rfl⟩)
          go_roundw
          case rel => exact ⟨k + 1, c5, m5, len5, cap5, D5, u5, by go_num, by omega, by have := HR5.out; congr 1; omega, by have := HCV.out; omega, by omega, .inr (by have := HR5.out; omega), GS5.out, BW5.out⟩
          case measure => simp [intOf]; omega
        · have hr5 : len5 = len ∧ c5 = c ∧ len = c + 1 := by have h1 := HCV.out; have h2 := HL5.out; have h3 := HHI.out; split at h2 <;> omega
          have t5 : ((len5 : Int) != hi + 1) = false := by have := HHI.out; simp; omega
          have w5w : IntKind.i64.wrap (hi + 1) = hi + 1 := IntWalk.i64_in _ (by have := HHI.out; omega)
          have HR5 := Lib.hid hr5
          clear hr5
          go_wp2_with (go_at_call 8; refine (len_any wb.heap.size sb cb mb sz c5 m5 D5 u5 len5 cap5 _ GS5.out).mono ?_; rintro e wz ⟨rfl, rfl⟩)
          go_roundw
          case rel => exact ⟨k + 1, c5, m5, len5, cap5, D5, u5, by go_num, by omega, by have := HR5.out; have := HHI.out; congr 1; omega, by have := HR5.out; omega, by omega, .inr (by have := HR5.out; omega), GS5.out, BW5.out⟩
          case measure => simp [intOf]; omega
    · obtain rfl : k = n := by omega
      go_wp2_with fail
      go_ret
      exact ⟨rfl, BB.out.trans (BW.out.mono hws)⟩

/-! ### THE ROW's STEP -/
set_option maxRecDepth 100000 in
theorem lifted (os : Os) (started : os.Started) (H : Type) (enc : TypeId × Value → H) :
    ReturnsInHanded {} Try.checked os 3 .any (Rows.fnGlobResultsGrowToHighestIndexSpec.pre6 enc Try.prog Try.f3 Rows.fnGlobResultsGrowToHighestIndexRow.domain false) (Rows.fnGlobResultsGrowToHighestIndexSpec.post enc Try.prog Try.f3 false true false false) := by
  refine returnsInHanded_of_change (C := Try.checked) own started (by kernel_rfl) Try.func3
    (ChangeSpec.witness6 (enc := enc) (C := Try.checked) false ⟨#[], #[.slice none 0 0, .slice none 0 0], []⟩ 8 (by kernel_rfl) (by kernel_rfl) (by kernel_rfl) (by kernel_rfl)) ?_
  intro W base args ds gs before hval0 hW hcnd _
  have hval : ∀ (j : Nat) t v, Try.f3.params[j]? = some t → args[j]? = some v → Value.okWide Try.prog W .any base t v := hval0
  have hW' := hW
  obtain ⟨p, q, hA0, hV, rfl, hfz, hnd⟩ := hW
  have hA : DataW.TrodAll enc Try.prog W 0 (fun _ => true) true Try.f3.params.toList args.toList ds p := hA0
  rw [Try.params3] at hA hval
  obtain ⟨v0, vs0, d0, ds0, p0, q0, hargs, rfl, rfl, h0, r0⟩ := trodAll_cons hA
  obtain ⟨v1, vs1, d1, ds1, p1, q1, rfl, rfl, rfl, h1, r1⟩ := trodAll_cons r0
  obtain ⟨rfl, rfl, rfl⟩ := trodAll_nil r1
  obtain rfl : args = #[v0, v1] := by cases args; simp_all
  obtain ⟨rfl, rfl⟩ := trodVars_none hV
  have k0 := h0
  have lt0 : ∀ x ∈ p0, x.block < W.heap.size := by obtain ⟨m, hm⟩ := k0; exact DataW.trod_lt m _ _ _ hm
  have k1 := h1
  have lt1 : ∀ x ∈ p1, x.block < W.heap.size := by obtain ⟨m, hm⟩ := k1; exact DataW.trod_lt m _ _ _ hm
  obtain ⟨a0, len0, cap0, rfl⟩ := okWide_slice Try.underlying22 (hval 0 22 v0 rfl rfl)
  obtain ⟨z0, w0⟩ : ∃ zs, IsRow .u32 W a0 len0 cap0 zs := by
    obtain ⟨fuel, hf⟩ := h0
    rcases open_ints Try.underlying22 Try.underlying29 (by kernel_rfl) hf with ⟨hcs, _⟩ | ⟨x, l, c, zs, hcs, _, hl, hm, hz, _, hcell, hwz⟩
    · simp [Value.cells] at hcs
      obtain ⟨rfl, rfl, rfl⟩ := hcs
      exact ⟨[], .inl ⟨rfl, rfl, rfl, rfl⟩⟩
    · simp [Value.cells] at hcs
      obtain ⟨rfl, rfl, rfl⟩ := hcs
      exact ⟨zs, .inr ⟨_, rfl, hl, hm, by simpa using hz, hcell, hwz⟩⟩
  obtain ⟨a1, len1, cap1, rfl⟩ := okWide_slice Try.underlying22 (hval 1 22 v1 rfl rfl)
  obtain ⟨z1, w1⟩ : ∃ zs, IsRow .u32 W a1 len1 cap1 zs := by
    obtain ⟨fuel, hf⟩ := h1
    rcases open_ints Try.underlying22 Try.underlying29 (by kernel_rfl) hf with ⟨hcs, _⟩ | ⟨x, l, c, zs, hcs, _, hl, hm, hz, _, hcell, hwz⟩
    · simp [Value.cells] at hcs
      obtain ⟨rfl, rfl, rfl⟩ := hcs
      exact ⟨[], .inl ⟨rfl, rfl, rfl, rfl⟩⟩
    · simp [Value.cells] at hcs
      obtain ⟨rfl, rfl, rfl⟩ := hcs
      exact ⟨zs, .inr ⟨_, rfl, hl, hm, by simpa using hz, hcell, hwz⟩⟩
  clear hA0 hval0
  refine (walk a0 len0 cap0 z0 a1 len1 cap1 z1 W w0 w1 ).mono fun e W' ⟨he, bel⟩ => ?_
  subst he
  exact ⟨_, rfl, _, _, _, [], _, [], hW', trodAll_mk1 (shut_bool Try.underlying4 _), (trodAll_cons_mk (Below.trod laidOut (by kernel_rfl) (of_decide_eq_true (by kernel_rfl)) k0 bel lt0) (trodAll_cons_mk (Below.trod laidOut (by kernel_rfl) (of_decide_eq_true (by kernel_rfl)) k1 bel lt1) trodAll_mk0)), rfl, bel.frame _, fun h => by cases h⟩

theorem over : Rows.fnGlobResultsGrowToHighestIndexRow.holds Try.pinned (OpenSpec.ofChange Rows.fnGlobResultsGrowToHighestIndexSpec) :=
  OpenClaim.holds_of_wide 3 Try.f3 rfl rfl rfl rfl rfl rfl rfl ⟨rfl, rfl, rfl, rfl, rfl⟩ rfl rfl rfl rfl rfl (by kernel_rfl) Try.func3 (by kernel_rfl)
    (of_decide_eq_true (by kernel_rfl)) (by unfold Func.isWrapper; first | (rw [if_pos (by decide +kernel)]; kernel_rfl) | (rw [if_neg (by decide +kernel)]; exact ⟨rfl, rfl⟩))
    (fun os started H enc _ => lifted os started H enc)

theorem proved : Rows.FnGlobResultsGrowToHighestIndexSaid := over
#print axioms proved
end Go.Proofs.Ytlkicobpfbgloaa.fnGlobResultsGrowToHighestIndex