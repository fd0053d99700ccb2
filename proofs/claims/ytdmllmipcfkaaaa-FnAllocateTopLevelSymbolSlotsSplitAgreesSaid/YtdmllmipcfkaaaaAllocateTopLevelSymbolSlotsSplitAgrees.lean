/-
  PROVED: whatever the input, allocating a prefix and then the rest leaves the same slots, counts, marks and map as allocating the whole list; the walk steps through the law with one contract of each callee.
-/
import Derived.Test.YtdmllmipcfkaaaaRows
import Derived.WalkKit
import Derived.ProofKit
import Derived.Deep.QuietTactic
import Derived.BigQuiet
import Derived.IntWalk
import Derived.Deep.RegionWith
import Derived.Outline
import Derived.LoopTactic
import Derived.WalkSpells
import Derived.Deep.Light
import Derived.Test.YtdmllmipcfkaaaaZaq
import Derived.OpenShut
import Derived.ShutString
import Derived.ChangeOld
import Derived.Below
import Derived.Carry
namespace Go.Proofs.Ytdmllmipcfkaaaa.fnAllocateTopLevelSymbolSlotsSplitAgrees
open Go.ChangeShapes Go.WideShapes Go.ChangeAt Go.RowKit
open Go.ChangeMaps (open_string shut_string)
set_option linter.unusedVariables false
set_option linter.unusedSimpArgs false

theorem own : ownKnob Try.prog.godebug = none := by kernel_rfl
theorem laidOut : laidOutB Try.pinned.checked.prog = true := by kernel_rfl

/-- What the walk is told of a slice of integers that came in. -/
def IsRow (k : IntKind) (w : World) (a : Option Addr) (len cap : Nat) (zs : List Int) : Prop :=
  (a = none ∧ len = 0 ∧ cap = 0 ∧ zs = []) ∨
  ∃ x, a = some x ∧ len ≤ cap ∧ cap ≤ maxLen ∧ zs.length = cap ∧ (∀ i, i < zs.length → w.cell? (x.add i) = some (.int k (zs.getD i 0))) ∧ ∀ n ∈ zs, (Lit.int k n).wf = true
theorem isrow_reads {k : IntKind} {w : World} {a : Option Addr} {len cap : Nat} {zs : List Int} (h : IsRow k w a len cap zs) : Reads w w.heap.size 1 a len ((zs.take len).map (Value.int k)) ∧ (a = none → len = 0) ∧ len ≤ maxLen := by
  rcases h with ⟨rfl, rfl, rfl, rfl⟩ | ⟨x, rfl, hl, hm, hz, hc, _⟩
  · exact ⟨Reads.none_, fun _ => rfl, by unfold maxLen; omega⟩
  · refine ⟨⟨by simp; omega, fun hn => ⟨x, rfl, ?_, fun j u hu => ?_⟩⟩, (fun h => by cases h), by omega⟩
    · have := hc 0 (by omega)
      exact World.block_lt_of_cell? w x (by simpa [Addr.add] using this)
    · have hj : j < len := by
        have := (List.getElem?_eq_some_iff.1 hu).1
        simp at this; omega
      rw [hc j (by omega)]
      rw [List.getElem?_map, List.getElem?_take_of_lt hj, List.getElem?_eq_getElem (by omega)] at hu
      rw [List.getD_eq_getElem?_getD, List.getElem?_eq_getElem (by omega)]
      exact hu


theorem isrow_wf {k : IntKind} {w : World} {a : Option Addr} {len cap : Nat} {zs : List Int} (h : IsRow k w a len cap zs) : ∀ m ∈ zs.take len, (Lit.int k m).wf = true := fun m hm => by
  rcases h with ⟨_, _, _, rfl⟩ | ⟨_, _, _, _, _, _, hw⟩
  · simp at hm
  · exact hw m (List.mem_of_mem_take hm)
/-! ### STEP 1: THE WALK -/
set_option maxHeartbeats 8000000 in
set_option maxRecDepth 100000 in
theorem walk (a0 : Option Addr) (len0 cap0 : Nat) (z0 : List Int) (a1 : Option Addr) (len1 cap1 : Nat) (z1 : List Int) (a2 : Int) (a3 : Int) (a4 : Option Addr) (len4 cap4 : Nat) (z4 : List Int) (a5 : Option Addr) (len5 cap5 : Nat) (z5 : List Int) (a6 : Int) (w : World) (w0 : IsRow .u8 w a0 len0 cap0 z0) (w1 : IsRow .u8 w a1 len1 cap1 z1) (w2 : (Lit.int .u32 a2).wf = true) (w3 : (Lit.int .u32 a3).wf = true) (w4 : IsRow .u32 w a4 len4 cap4 z4) (w5 : IsRow .u32 w a5 len5 cap5 z5) (w6 : (Lit.int .u32 a6).wf = true)  :
    Calls Try.prog 3 #[.slice a0 len0 cap0, .slice a1 len1 cap1, .int .u32 a2, .int .u32 a3, .slice a4 len4 cap4, .slice a5 len5 cap5, .int .u32 a6] w fun e w' => e = .returned (.bool true) ∧ Below w.heap.size w w' := by
  obtain ⟨hr0, hA0, hl0⟩ := isrow_reads w0
  have hw0 := isrow_wf w0
  generalize z0.take len0 = x0 at hr0 hw0
  have hb0 : ∀ m ∈ x0, 0 ≤ m ∧ m ≤ 255 := fun m hm => by
    have := hw0 m hm
    simp [Lit.wf, IntKind.min, IntKind.max, IntKind.signed, IntKind.bits] at this
    omega
  have HR0 := Lib.hid hr0; have HA0 := Lib.hid hA0; have HB0 := Lib.hid hb0; have HL0 := Lib.hid hl0
  have l0 : len0 ≤ 9223372036854775807 := hl0
  clear hr0 hA0 hb0 hw0 hl0 w0
  obtain ⟨hr1, hA1, hl1⟩ := isrow_reads w1
  have hw1 := isrow_wf w1
  generalize z1.take len1 = x1 at hr1 hw1
  have hb1 : ∀ m ∈ x1, 0 ≤ m ∧ m ≤ 255 := fun m hm => by
    have := hw1 m hm
    simp [Lit.wf, IntKind.min, IntKind.max, IntKind.signed, IntKind.bits] at this
    omega
  have HR1 := Lib.hid hr1; have HA1 := Lib.hid hA1; have HB1 := Lib.hid hb1; have HL1 := Lib.hid hl1
  have l1 : len1 ≤ 9223372036854775807 := hl1
  clear hr1 hA1 hb1 hw1 hl1 w1
  obtain ⟨hr4, hA4, hl4⟩ := isrow_reads w4
  have hw4 := isrow_wf w4
  generalize z4.take len4 = x4 at hr4 hw4
  have hb4 : ∀ m ∈ x4, 0 ≤ m ∧ m ≤ 4294967295 := fun m hm => by
    have := hw4 m hm
    simp [Lit.wf, IntKind.min, IntKind.max, IntKind.signed, IntKind.bits] at this
    omega
  have HR4 := Lib.hid hr4; have HA4 := Lib.hid hA4; have HB4 := Lib.hid hb4; have HL4 := Lib.hid hl4
  have l4 : len4 ≤ 9223372036854775807 := hl4
  clear hr4 hA4 hb4 hw4 hl4 w4
  obtain ⟨hr5, hA5, hl5⟩ := isrow_reads w5
  have hw5 := isrow_wf w5
  generalize z5.take len5 = x5 at hr5 hw5
  have hb5 : ∀ m ∈ x5, 0 ≤ m ∧ m ≤ 4294967295 := fun m hm => by
    have := hw5 m hm
    simp [Lit.wf, IntKind.min, IntKind.max, IntKind.signed, IntKind.bits] at this
    omega
  have HR5 := Lib.hid hr5; have HA5 := Lib.hid hA5; have HB5 := Lib.hid hb5; have HL5 := Lib.hid hl5
  have l5 : len5 ≤ 9223372036854775807 := hl5
  clear hr5 hA5 hb5 hw5 hl5 w5
  simp [Lit.wf, IntKind.min, IntKind.max, IntKind.signed, IntKind.bits] at w2 w3 w6
  obtain ⟨c0, rfl⟩ := Int.eq_ofNat_of_zero_le w2.1
  obtain ⟨c1, rfl⟩ := Int.eq_ofNat_of_zero_le w3.1
  go_enter Try.func3, Try.ntmps3
  go_wp2_with (go_at_call 4; refine (zbytes a0 len0 cap0 a1 len1 cap1 c0 c1 a4 len4 cap4 a5 len5 cap5 a6 _ l0 l1 l4 l5).mono ?_)
  rintro e wz ⟨bz, rfl, rfl⟩
  cases bz
  · go_wp2
    go_ret
    exact ⟨rfl, Below.refl _ _⟩
  by_cases g0 : 4096 < len0
  · go_wp2_with fail
    go_ret
    exact ⟨rfl, Below.refl _ _⟩
  by_cases g1 : 4096 < len1
  · go_wp2_with fail
    go_ret
    exact ⟨rfl, Below.refl _ _⟩
  by_cases g4 : 4096 < len4
  · go_wp2_with fail
    go_ret
    exact ⟨rfl, Below.refl _ _⟩
  by_cases g5 : 4096 < len5
  · go_wp2_with fail
    go_ret
    exact ⟨rfl, Below.refl _ _⟩
  by_cases g2 : 4096 < c0
  · go_wp2_with fail
    go_ret
    exact ⟨rfl, Below.refl _ _⟩
  by_cases g3 : 4096 < c1
  · go_wp2_with fail
    go_ret
    exact ⟨rfl, Below.refl _ _⟩
  by_cases gn : len0 = 0
  · go_wp2_with fail
    go_ret
    exact ⟨rfl, Below.refl _ _⟩
  have hp0 : 0 < len0 := by omega
  clear w2 w3 l0 l1 l4 l5 gn
  have CLE : Hid (∀ j, j < 4 → (f4 c0 c1 0 0) j ≤ 65536) := Lib.hid (lt4 (P := fun j => (f4 c0 c1 0 0) j ≤ 65536) (show c0 ≤ 65536 by omega) (show c1 ≤ 65536 by omega) (show 0 ≤ 65536 by omega) (show 0 ≤ 65536 by omega))
  have CLA : Hid (∀ j, (f4 c0 c1 0 0) j ≤ 8192) := Lib.hid (fun j => by unfold f4; split; omega; split; omega; split <;> omega)
  have BZ : Hid (Below w.heap.size w w) := Lib.hid (Below.refl _ _)
  go_wp2_with (go_at_call 6; refine (build_false a0 len0 cap0 x0 a1 len1 cap1 x1 none 0 0 [] 0 none 0 0 [] w ((HR0.out.below BZ.out).more BZ.out.size) ((HR1.out.below BZ.out).more BZ.out.size) Reads.none_ Reads.none_ (by omega) (by omega) (by omega) (by omega) (by omega) HB0.out (fun x hx => by cases hx) (fun x hx => by cases hx)).mono ?_)
  rintro e wba ⟨oa, ga, rfl, hoa, hga, hoga, hout, htab, hbe⟩
  have BEA := Lib.hid (BZ.out.trans (hbe.mono BZ.out.size))
  have OUTA := Lib.hid hout; have TBA := Lib.hid htab; have HBEA := Lib.hid hbe
  have hgla := htab.lt
  have hola := hout.lt
  have hsza := hbe.size
  clear hout htab hbe
  go_wp2_with (go_at_call 7; refine (sc_any c0 c1 _).mono ?_)
  rintro e wca ⟨rfl, hgc⟩
  have GCA := Lib.hid hgc
  clear hgc
  have hmm := @run_makeMap Try.prog
  go_wp2_with (go_at_call 5; refine (newR oa _ c0 c1 0 0 (by omega) (by omega) (by omega) (by omega) _).mono ?_)
  rintro e wda ⟨vr, rfl, hptr, hgd⟩
  obtain ⟨bra, gma, gsa, rfl, hbra, hgma, hgsa, hmp, hren⟩ := RS.of_ptr hptr
  have GDA : Hid (wba.grownBy wda none) := Lib.hid (grown_tr (only_alloc GCA.out _) hgd)
  have hsda := GDA.out.size
  have hsca := GCA.out.size
  have hsz0a := BZ.out.size
  have hbr2a : wba.heap.size ≤ bra := by simp at hbra; omega
  have hgm2a : wba.heap.size ≤ gma := by simp at hgma; omega
  have hgs2a : ∀ j, j < 4 → wba.heap.size ≤ gsa j := fun j hj => by have := hgsa j hj; simp at this; omega
  have RA : Hid (TRen w.heap.size oa (some wca.heap.size) bra gma (slV gsa (f4 c0 c1 0 0)) ga len0 (symB false 0 x0 x1 [] 0 []) 0 ⟨fun j => List.replicate ((f4 c0 c1 0 0) j) (0, 0), fun _ => none⟩ wda) := Lib.hid (TRen.fresh hren hmp (fun j hj => by have := hgs2a j hj; omega) CLE.out (OUTA.out.grown GDA.out (by simp)) (TBA.out.grown GDA.out (by simp)))
  have LOA : Hid (∀ b, FB (slV gsa (f4 c0 c1 0 0)) bra gma oa ga b → w.heap.size ≤ b) := Lib.hid (fresh_fb (by omega) (by omega) (fun j hj => by have := hgs2a j hj; omega) (by omega) (by omega))
  have BDA : Hid (Below w.heap.size w wda) := Lib.hid (BEA.out.grown GDA.out BEA.out.size (fun k hk => by cases hk))
  have BXA : Hid (Below w.heap.size w wda) := Lib.hid (HBEA.out.grown GDA.out HBEA.out.size (fun k hk => by cases hk))
  clear hptr hgd hren hgsa hmm hmp hbra hgma hgs2a hbr2a hgm2a hgla hola OUTA TBA HBEA GCA GDA BEA
  go_wp2_with (go_at_call 6; refine (build_false a0 len0 cap0 x0 a1 len1 cap1 x1 none 0 0 [] 0 none 0 0 [] wda ((HR0.out.below BDA.out).more BDA.out.size) ((HR1.out.below BDA.out).more BDA.out.size) Reads.none_ Reads.none_ (by omega) (by omega) (by omega) (by omega) (by omega) HB0.out (fun x hx => by cases hx) (fun x hx => by cases hx)).mono ?_)
  rintro e wbb ⟨ob, gb, rfl, hob, hgb, hogb, hout, htab, hbe⟩
  have BEB := Lib.hid (BDA.out.trans (hbe.mono BDA.out.size))
  have OUTB := Lib.hid hout; have TBB := Lib.hid htab; have HBEB := Lib.hid hbe
  have hglb := htab.lt
  have holb := hout.lt
  have hszb := hbe.size
  clear hout htab hbe
  go_wp2_with (go_at_call 7; refine (sc_any c0 c1 _).mono ?_)
  rintro e wcb ⟨rfl, hgc⟩
  have GCB := Lib.hid hgc
  clear hgc
  have hmm := @run_makeMap Try.prog
  go_wp2_with (go_at_call 5; refine (newR ob _ c0 c1 0 0 (by omega) (by omega) (by omega) (by omega) _).mono ?_)
  rintro e wdb ⟨vr, rfl, hptr, hgd⟩
  obtain ⟨brb, gmb, gsb, rfl, hbrb, hgmb, hgsb, hmp, hren⟩ := RS.of_ptr hptr
  have GDB : Hid (wbb.grownBy wdb none) := Lib.hid (grown_tr (only_alloc GCB.out _) hgd)
  have hsdb := GDB.out.size
  have hscb := GCB.out.size
  have hsz0b := BDA.out.size
  have hbr2b : wbb.heap.size ≤ brb := by simp at hbrb; omega
  have hgm2b : wbb.heap.size ≤ gmb := by simp at hgmb; omega
  have hgs2b : ∀ j, j < 4 → wbb.heap.size ≤ gsb j := fun j hj => by have := hgsb j hj; simp at this; omega
  have RB : Hid (TRen w.heap.size ob (some wcb.heap.size) brb gmb (slV gsb (f4 c0 c1 0 0)) gb len0 (symB false 0 x0 x1 [] 0 []) 0 ⟨fun j => List.replicate ((f4 c0 c1 0 0) j) (0, 0), fun _ => none⟩ wdb) := Lib.hid (TRen.fresh hren hmp (fun j hj => by have := hgs2b j hj; omega) CLE.out (OUTB.out.grown GDB.out (by simp)) (TBB.out.grown GDB.out (by simp)))
  have LOB : Hid (∀ b, FB (slV gsb (f4 c0 c1 0 0)) brb gmb ob gb b → wda.heap.size ≤ b) := Lib.hid (fresh_fb (by omega) (by omega) (fun j hj => by have := hgs2b j hj; omega) (by omega) (by omega))
  have BDB : Hid (Below w.heap.size w wdb) := Lib.hid (BEB.out.grown GDB.out BEB.out.size (fun k hk => by cases hk))
  have BXB : Hid (Below wda.heap.size wda wdb) := Lib.hid (HBEB.out.grown GDB.out HBEB.out.size (fun k hk => by cases hk))
  clear hptr hgd hren hgsb hmm hmp hbrb hgmb hgs2b hbr2b hgm2b hglb holb OUTB TBB HBEB GCB GDB BEB
  have APT0 : Hid (Apt (slV gsa (f4 c0 c1 0 0)) bra gma oa ga (slV gsb (f4 c0 c1 0 0)) brb gmb ob gb) := Lib.hid ⟨fun b h1 h2 => by have := RA.out.fbLt h1; have := LOB.out b (.inl h2); omega, fun b h1 h2 => by have := RA.out.fbLt (.inl h2); have := LOB.out b h1; omega⟩
  go_wp2_with (go_at_call 8; refine (entries_any len0 hp0 (by omega) a4 len4 cap4 x4 a5 len5 cap5 x5 wdb ((HR4.out.below BDB.out).more BDB.out.size) ((HR5.out.below BDB.out).more BDB.out.size) (by omega) (by omega) HB4.out).mono ?_)
  rintro e we ⟨q, rfl, hq, hent, hbe⟩
  have ENT := Lib.hid hent; have BE := Lib.hid (BDB.out.trans (hbe.mono BDB.out.size))
  have RAE := Lib.hid ((RA.out.still BXB.out).still hbe); have RBE := Lib.hid (RB.out.still hbe)
  have hqs := BE.out.size
  clear hent hbe RA RB
  obtain ⟨cc, hcc⟩ : ∃ i : Nat, a6 % ((len4 : Int) + 1) = i := ⟨(a6 % ((len4 : Int) + 1)).toNat, by have := Int.emod_nonneg a6 (show (len4 : Int) + 1 ≠ 0 by omega); omega⟩
  have hcl : cc ≤ len4 := by have := Int.emod_lt_of_pos a6 (show 0 < (len4 : Int) + 1 by omega); omega
  have hw1 : IntKind.u32.wrap ((len4 : Int) + 1) = (len4 : Int) + 1 := by rw [IntKind.wrap_u32]; omega
  have hw2 : IntKind.i64.wrap (cc : Int) = cc := IntWalk.i64_in _ (by omega)
  have t0 : ((len4 : Int) + 1 == 0) = false := by rw [beq_eq_false_iff_ne]; omega
  have t1 : ¬ ((len4 : Int) + 1 = 0) := by omega
  go_upto_region 14 with fail
  clear hcc hw1 hw2 t0 t1 w6
  obtain ⟨ES, hES⟩ : ∃ ES, ES = (List.range len4).map (entF len0 x4 x5) := ⟨_, rfl⟩
  have ESL : Hid (ES.length = len4) := Lib.hid (by rw [hES]; simp)
  have ESOK : Hid (∀ e ∈ ES, EntOk (symB false 0 x0 x1 [] 0 []) len0 e) := Lib.hid (by rw [hES]; exact ent_ok 0 x0 x1 [] 0 [] len0 len4 hp0 x4 x5 HB4.out HB5.out)
  have ER0 : Hid (∀ W : World, EntT W q len4 len4 len0 x4 x5 → EntR W (some ⟨q, 0, none⟩) ES) := Lib.hid (fun W h => by have := h.ent 0; rw [← hES] at this; simpa using this)
  have ER1 : Hid (∀ W : World, EntT W q len4 len4 len0 x4 x5 → EntR W (some ⟨q, cc * 4, none⟩) (ES.drop cc)) := Lib.hid (fun W h => by have := h.ent cc; rw [← hES] at this; exact this)
  have HES := Lib.hid hES
  clear hES
  obtain ⟨t0, ht0⟩ : ∃ t0 : TS, t0 = ⟨fun j => List.replicate ((f4 c0 c1 0 0) j) (0, 0), fun _ => none⟩ := ⟨_, rfl⟩
  have TOK0 : Hid (TOk (symB false 0 x0 x1 [] 0 []) 8192 t0) := Lib.hid (by rw [ht0]; exact tok_fresh _ CLA.out)
  rw [← ht0] at RAE RBE
  clear ht0
  go_wp2_with (go_at_call 9; refine (alloc_any w.heap.size oa _ bra gma (slV gsa (f4 c0 c1 0 0)) ga len0 (symB false 0 x0 x1 [] 0 []) 0 8192 t0 (some ⟨q, 0, none⟩) len4 len4 ES we ⟨RAE.out, TOK0.out, Turned.refl _ _, fun j hj q hq => .inl hq⟩ (ER0.out _ ENT.out) ESL.out ESOK.out (by omega) (by omega) (by omega) (by omega) BE.out.size).mono ?_)
  rintro e wf ⟨rfl, va, hst⟩
  have RAF := Lib.hid hst.ren; have RBF := Lib.hid (RBE.out.apart APT0.out hst.tur)
  have OKA := Lib.hid hst.ok
  have ENTF := Lib.hid (ENT.out.turned hst.tur (by obtain ⟨cs, hb, _⟩ := ENT.out; exact inT_typed RAE.out hb (by decide) (by decide)))
  have APT1 := Lib.hid (APT0.out.step hst.fresh (fun b hb => RBE.out.fbLt hb))
  have BF := Lib.hid (BE.out.trans (hst.tur.below (fun i _ hi => LOA.out i (.inl hi)) BE.out.size))
  have hwf := hst.tur.size
  clear hst APT0 RAE RBE ENT
  go_wp2_with (go_at_call 9; refine (alloc_any w.heap.size ob _ brb gmb (slV gsb (f4 c0 c1 0 0)) gb len0 (symB false 0 x0 x1 [] 0 []) 0 8192 t0 (some ⟨q, 0, none⟩) cc len4 (ES.take cc) wf ⟨RBF.out, TOK0.out, Turned.refl _ _, fun j hj q hq => .inl hq⟩ ((ER0.out _ ENTF.out).take cc) (by rw [List.length_take, ESL.out]; omega) (fun e he => ESOK.out e (List.mem_of_mem_take he)) (by omega) (by omega) (by omega) (by omega) BF.out.size).mono ?_)
  rintro e wg ⟨rfl, vb, hst⟩
  have RBG := Lib.hid hst.ren; have RAG := Lib.hid (RAF.out.apart APT1.out.symm hst.tur)
  have OKB := Lib.hid hst.ok
  have ENTG := Lib.hid (ENTF.out.turned hst.tur (by obtain ⟨cs, hb, _⟩ := ENTF.out; exact inT_typed RBF.out hb (by decide) (by decide)))
  have APT2 := Lib.hid (APT1.out.symm.step hst.fresh (fun b hb => RAF.out.fbLt hb))
  have LOB1 : Hid (∀ b, InT (slV gsb (f4 c0 c1 0 0)) brb gmb b → w.heap.size ≤ b) := Lib.hid (fun b hb => by have := LOB.out b (.inl hb); omega)
  have BG := Lib.hid (BF.out.trans (hst.tur.below (fun i _ hi => LOB1.out i hi) BF.out.size))
  have LOB2 := Lib.hid (low_step hst.fresh BF.out.size LOB1.out)
  have hwg := hst.tur.size
  clear hst APT1 RAF RBF ENTF
  obtain ⟨SA, hsa, hsc⟩ := cut_from q len4 cc hcl
  have ER2 : Hid (EntR wg SA (ES.drop cc)) := Lib.hid (by
    by_cases hlt : cc < len4
    · rw [hsc hlt]; exact ER1.out _ ENTG.out
    · rw [List.drop_eq_nil_of_le (by rw [ESL.out]; omega)]; exact EntR.nil)
  clear hsc
  go_wp2_with (go_at_call 9; refine (alloc_any w.heap.size ob _ brb gmb vb gb len0 (symB false 0 x0 x1 [] 0 []) (0 + cc) (8192 + cc) _ SA (len4 - cc) (len4 - cc) (ES.drop cc) wg ⟨RBG.out, OKB.out, Turned.refl _ _, fun j hj q hq => .inl hq⟩ ER2.out (by rw [List.length_drop, ESL.out]) (fun e he => ESOK.out e (List.mem_of_mem_drop he)) (by omega) (by omega) (by omega) (by omega) BG.out.size).mono ?_)
  rintro e wh ⟨rfl, vc, hst⟩
  have RBH := Lib.hid hst.ren; have RAH := Lib.hid (RAG.out.apart APT2.out hst.tur)
  have BH := Lib.hid (BG.out.trans (hst.tur.below (fun i _ hi => LOB2.out i hi) BG.out.size))
  rw [← List.foldl_append, List.take_append_drop] at RBH
  clear hst APT2 RAG RBG ENTG ER2 hsa ER0 ER1 LOA LOB LOB1 LOB2
  obtain ⟨t1, ht1⟩ : ∃ t1, t1 = ES.foldl (tStep (symB false 0 x0 x1 [] 0 [])) t0 := ⟨_, rfl⟩
  rw [← ht1] at RBH RAH OKA
  have LEN : Hid (∀ j, (t1.sl j).length ≤ 16777216) := Lib.hid (fun j => by have := OKA.out.len j; omega)
  clear ht1
  go_wp2_with (go_at_call 10; refine (sameSlots LEN.out _ RAH.out RBH.out).mono ?_; rintro e wz ⟨rfl, rfl⟩)
  go_loopw [20, 21, 22, 23, 24] (fun i s1 s2 s3 s4 wr => ∃ k : Nat, i = .int .i64 k ∧ k ≤ len0 ∧ TRen w.heap.size oa _ bra gma va ga len0 (symB false 0 x0 x1 [] 0 []) (0 + len4) t1 wr ∧ TRen w.heap.size ob _ brb gmb vc gb len0 (symB false 0 x0 x1 [] 0 []) (0 + cc + (len4 - cc)) t1 wr ∧ Below w.heap.size w wr) (fun i s1 s2 s3 s4 _ => len0 - (intOf i).toNat)
  case atStart => exact ⟨0, rfl, by omega, RAH.out, RBH.out, BH.out⟩
  case round =>
    obtain ⟨k, rfl, hk, hra, hrb, hbel⟩ := hrel
    have HA := Lib.hid hra; have HB := Lib.hid hrb; have HBW := Lib.hid hbel
    clear hra hrb hbel
    by_cases hlt : k < len0
    · have hkk := hk
      obtain ⟨sv, hsv⟩ : ∃ sv : Nat, sv = (t1.tm k).getD 0 := ⟨_, rfl⟩
      obtain ⟨bv, hbv⟩ : ∃ bv : Bool, bv = (t1.tm k).isSome := ⟨_, rfl⟩
      have HSV := Lib.hid hsv; have HBV := Lib.hid hbv
      clear hsv hbv
      go_wp2_with (go_at_call 12; refine (ref_any k (by omega) _).mono ?_)
      rintro e w1 ⟨rfl, hg1⟩
      have HA1 := Lib.hid (HA.out.grown hg1); have HB1 := Lib.hid (HB.out.grown hg1); have HW1 := Lib.hid (HBW.out.grown hg1 HBW.out.size (fun k hk => by cases hk))
      clear hg1
      go_wp2_with (go_at_call 11; refine (topSlot k (by omega) _ HA1.out).mono ?_)
      rintro e w2 ⟨rfl, hg1⟩
      rw [← HSV.out, ← HBV.out]
      have HA2 := Lib.hid (HA1.out.grown hg1); have HB2 := Lib.hid (HB1.out.grown hg1); have HW2 := Lib.hid (HW1.out.grown hg1 HW1.out.size (fun k hk => by cases hk))
      clear hg1
      go_wp2_with (go_at_call 12; refine (ref_any k (by omega) _).mono ?_)
      rintro e w3 ⟨rfl, hg1⟩
      have HA3 := Lib.hid (HA2.out.grown hg1); have HB3 := Lib.hid (HB2.out.grown hg1); have HW3 := Lib.hid (HW2.out.grown hg1 HW2.out.size (fun k hk => by cases hk))
      clear hg1
      go_wp2_with (go_at_call 11; refine (topSlot k (by omega) _ HB3.out).mono ?_)
      rintro e w4 ⟨rfl, hg1⟩
      rw [← HSV.out, ← HBV.out]
      have HA4 := Lib.hid (HA3.out.grown hg1); have HB4 := Lib.hid (HB3.out.grown hg1); have HW4 := Lib.hid (HW3.out.grown hg1 HW3.out.size (fun k hk => by cases hk))
      clear hg1
      go_wp2
      go_roundw
      case rel => exact ⟨k + 1, by go_num, by omega, HA4.out, HB4.out, HW4.out⟩
      case measure => simp [intOf]; omega
    · obtain rfl : k = len0 := by omega
      go_wp2
      go_ret
      exact ⟨rfl, HBW.out⟩

/-! ### THE ROW's STEP -/
set_option maxRecDepth 100000 in
theorem lifted (os : Os) (started : os.Started) (H : Type) (enc : TypeId × Value → H) :
    ReturnsInHanded {} Try.checked os 3 .any (Rows.fnAllocateTopLevelSymbolSlotsSplitAgreesSpec.pre6 enc Try.prog Try.f3 Rows.fnAllocateTopLevelSymbolSlotsSplitAgreesRow.domain false) (Rows.fnAllocateTopLevelSymbolSlotsSplitAgreesSpec.post enc Try.prog Try.f3 false true false false) := by
  refine returnsInHanded_of_change (C := Try.checked) own started (by kernel_rfl) Try.func3
    (ChangeSpec.witness6 (enc := enc) (C := Try.checked) false ⟨#[], #[.slice none 0 0, .slice none 0 0, .int .u32 0, .int .u32 0, .slice none 0 0, .slice none 0 0, .int .u32 0], []⟩ 8 (by kernel_rfl) (by kernel_rfl) (by kernel_rfl) (by kernel_rfl)) ?_
  intro W base args ds gs before hval0 hW hcnd _
  have hval : ∀ (j : Nat) t v, Try.f3.params[j]? = some t → args[j]? = some v → Value.okWide Try.prog W .any base t v := hval0
  have hW' := hW
  obtain ⟨p, q, hA0, hV, rfl, hfz, hnd⟩ := hW
  have hA : DataW.TrodAll enc Try.prog W 0 (fun _ => true) true Try.f3.params.toList args.toList ds p := hA0
  rw [Try.params3] at hA hval
  obtain ⟨v0, vs0, d0, ds0, p0, q0, hargs, rfl, rfl, h0, r0⟩ := trodAll_cons hA
  obtain ⟨v1, vs1, d1, ds1, p1, q1, rfl, rfl, rfl, h1, r1⟩ := trodAll_cons r0
  obtain ⟨v2, vs2, d2, ds2, p2, q2, rfl, rfl, rfl, h2, r2⟩ := trodAll_cons r1
  obtain ⟨v3, vs3, d3, ds3, p3, q3, rfl, rfl, rfl, h3, r3⟩ := trodAll_cons r2
  obtain ⟨v4, vs4, d4, ds4, p4, q4, rfl, rfl, rfl, h4, r4⟩ := trodAll_cons r3
  obtain ⟨v5, vs5, d5, ds5, p5, q5, rfl, rfl, rfl, h5, r5⟩ := trodAll_cons r4
  obtain ⟨v6, vs6, d6, ds6, p6, q6, rfl, rfl, rfl, h6, r6⟩ := trodAll_cons r5
  obtain ⟨rfl, rfl, rfl⟩ := trodAll_nil r6
  obtain rfl : args = #[v0, v1, v2, v3, v4, v5, v6] := by cases args; simp_all
  obtain ⟨rfl, rfl⟩ := trodVars_none hV
  have k0 := h0
  have lt0 : ∀ x ∈ p0, x.block < W.heap.size := by obtain ⟨m, hm⟩ := k0; exact DataW.trod_lt m _ _ _ hm
  have k1 := h1
  have lt1 : ∀ x ∈ p1, x.block < W.heap.size := by obtain ⟨m, hm⟩ := k1; exact DataW.trod_lt m _ _ _ hm
  have k2 := h2
  have lt2 : ∀ x ∈ p2, x.block < W.heap.size := by obtain ⟨m, hm⟩ := k2; exact DataW.trod_lt m _ _ _ hm
  have k3 := h3
  have lt3 : ∀ x ∈ p3, x.block < W.heap.size := by obtain ⟨m, hm⟩ := k3; exact DataW.trod_lt m _ _ _ hm
  have k4 := h4
  have lt4 : ∀ x ∈ p4, x.block < W.heap.size := by obtain ⟨m, hm⟩ := k4; exact DataW.trod_lt m _ _ _ hm
  have k5 := h5
  have lt5 : ∀ x ∈ p5, x.block < W.heap.size := by obtain ⟨m, hm⟩ := k5; exact DataW.trod_lt m _ _ _ hm
  have k6 := h6
  have lt6 : ∀ x ∈ p6, x.block < W.heap.size := by obtain ⟨m, hm⟩ := k6; exact DataW.trod_lt m _ _ _ hm
  obtain ⟨a0, len0, cap0, rfl⟩ := okWide_slice Try.underlying22 (hval 0 22 v0 rfl rfl)
  obtain ⟨z0, w0⟩ : ∃ zs, IsRow .u8 W a0 len0 cap0 zs := by
    obtain ⟨fuel, hf⟩ := h0
    rcases open_ints Try.underlying22 Try.underlying5 (by kernel_rfl) hf with ⟨hcs, _⟩ | ⟨x, l, c, zs, hcs, _, hl, hm, hz, _, hcell, hwz⟩
    · simp [Value.cells] at hcs
      obtain ⟨rfl, rfl, rfl⟩ := hcs
      exact ⟨[], .inl ⟨rfl, rfl, rfl, rfl⟩⟩
    · simp [Value.cells] at hcs
      obtain ⟨rfl, rfl, rfl⟩ := hcs
      exact ⟨zs, .inr ⟨_, rfl, hl, hm, by simpa using hz, hcell, hwz⟩⟩
  obtain ⟨a1, len1, cap1, rfl⟩ := okWide_slice Try.underlying22 (hval 1 22 v1 rfl rfl)
  obtain ⟨z1, w1⟩ : ∃ zs, IsRow .u8 W a1 len1 cap1 zs := by
    obtain ⟨fuel, hf⟩ := h1
    rcases open_ints Try.underlying22 Try.underlying5 (by kernel_rfl) hf with ⟨hcs, _⟩ | ⟨x, l, c, zs, hcs, _, hl, hm, hz, _, hcell, hwz⟩
    · simp [Value.cells] at hcs
      obtain ⟨rfl, rfl, rfl⟩ := hcs
      exact ⟨[], .inl ⟨rfl, rfl, rfl, rfl⟩⟩
    · simp [Value.cells] at hcs
      obtain ⟨rfl, rfl, rfl⟩ := hcs
      exact ⟨zs, .inr ⟨_, rfl, hl, hm, by simpa using hz, hcell, hwz⟩⟩
  obtain ⟨a2, rfl, rfl, rfl, w2⟩ := open_int Try.underlying23 (hval 2 23 v2 rfl rfl) h2
  obtain ⟨a3, rfl, rfl, rfl, w3⟩ := open_int Try.underlying23 (hval 3 23 v3 rfl rfl) h3
  obtain ⟨a4, len4, cap4, rfl⟩ := okWide_slice Try.underlying24 (hval 4 24 v4 rfl rfl)
  obtain ⟨z4, w4⟩ : ∃ zs, IsRow .u32 W a4 len4 cap4 zs := by
    obtain ⟨fuel, hf⟩ := h4
    rcases open_ints Try.underlying24 Try.underlying23 (by kernel_rfl) hf with ⟨hcs, _⟩ | ⟨x, l, c, zs, hcs, _, hl, hm, hz, _, hcell, hwz⟩
    · simp [Value.cells] at hcs
      obtain ⟨rfl, rfl, rfl⟩ := hcs
      exact ⟨[], .inl ⟨rfl, rfl, rfl, rfl⟩⟩
    · simp [Value.cells] at hcs
      obtain ⟨rfl, rfl, rfl⟩ := hcs
      exact ⟨zs, .inr ⟨_, rfl, hl, hm, by simpa using hz, hcell, hwz⟩⟩
  obtain ⟨a5, len5, cap5, rfl⟩ := okWide_slice Try.underlying24 (hval 5 24 v5 rfl rfl)
  obtain ⟨z5, w5⟩ : ∃ zs, IsRow .u32 W a5 len5 cap5 zs := by
    obtain ⟨fuel, hf⟩ := h5
    rcases open_ints Try.underlying24 Try.underlying23 (by kernel_rfl) hf with ⟨hcs, _⟩ | ⟨x, l, c, zs, hcs, _, hl, hm, hz, _, hcell, hwz⟩
    · simp [Value.cells] at hcs
      obtain ⟨rfl, rfl, rfl⟩ := hcs
      exact ⟨[], .inl ⟨rfl, rfl, rfl, rfl⟩⟩
    · simp [Value.cells] at hcs
      obtain ⟨rfl, rfl, rfl⟩ := hcs
      exact ⟨zs, .inr ⟨_, rfl, hl, hm, by simpa using hz, hcell, hwz⟩⟩
  obtain ⟨a6, rfl, rfl, rfl, w6⟩ := open_int Try.underlying23 (hval 6 23 v6 rfl rfl) h6
  clear hA0 hval0
  refine (walk a0 len0 cap0 z0 a1 len1 cap1 z1 a2 a3 a4 len4 cap4 z4 a5 len5 cap5 z5 a6 W w0 w1 w2 w3 w4 w5 w6 ).mono fun e W' ⟨he, bel⟩ => ?_
  subst he
  exact ⟨_, rfl, _, _, _, [], _, [], hW', trodAll_mk1 (shut_bool Try.underlying4 _), (trodAll_cons_mk (Below.trod laidOut (by kernel_rfl) (of_decide_eq_true (by kernel_rfl)) k0 bel lt0) (trodAll_cons_mk (Below.trod laidOut (by kernel_rfl) (of_decide_eq_true (by kernel_rfl)) k1 bel lt1) (trodAll_cons_mk (Below.trod laidOut (by kernel_rfl) (of_decide_eq_true (by kernel_rfl)) k2 bel lt2) (trodAll_cons_mk (Below.trod laidOut (by kernel_rfl) (of_decide_eq_true (by kernel_rfl)) k3 bel lt3) (trodAll_cons_mk (Below.trod laidOut (by kernel_rfl) (of_decide_eq_true (by kernel_rfl)) k4 bel lt4) (trodAll_cons_mk (Below.trod laidOut (by kernel_rfl) (of_decide_eq_true (by kernel_rfl)) k5 bel lt5) (trodAll_cons_mk (Below.trod laidOut (by kernel_rfl) (of_decide_eq_true (by kernel_rfl)) k6 bel lt6) trodAll_mk0))))))), rfl, bel.frame _, fun h => by cases h⟩

theorem over : Rows.fnAllocateTopLevelSymbolSlotsSplitAgreesRow.holds Try.pinned (OpenSpec.ofChange Rows.fnAllocateTopLevelSymbolSlotsSplitAgreesSpec) :=
  OpenClaim.holds_of_wide 3 Try.f3 rfl rfl rfl rfl rfl rfl rfl ⟨rfl, rfl, rfl, rfl, rfl⟩ rfl rfl rfl rfl rfl (by kernel_rfl) Try.func3 (by kernel_rfl)
    (of_decide_eq_true (by kernel_rfl)) (by unfold Func.isWrapper; first | (rw [if_pos (by decide +kernel)]; kernel_rfl) | (rw [if_neg (by decide +kernel)]; exact ⟨rfl, rfl⟩))
    (fun os started H enc _ => lifted os started H enc)

theorem proved : Rows.FnAllocateTopLevelSymbolSlotsSplitAgreesSaid := over
#print axioms proved
end Go.Proofs.Ytdmllmipcfkaaaa.fnAllocateTopLevelSymbolSlotsSplitAgrees