/- n011_254: SourceIndexCache.GetGlob. -/
import Derived.Test.YtlkicobpfbgloaaGlm
import Derived.Test.YtlkicobpfbgloaaLocks
import Derived.Conc.MuLone
import Derived.WalkSpells
import Derived.Defers
import Derived.LoopTactic
import Derived.Outline
import Derived.IntWalk
import Derived.OneCell
import Derived.Deep.DeepCutAuto
import Derived.Deep.Cut
namespace Go.Proofs.Ytlkicobpfbgloaa
open Go.RowKit Go.MuLone Go.Maps Go.WideMaps
set_option linter.unusedVariables false
set_option linter.unusedSimpArgs false

/-- Only the blocks of S, and what is new, may have turned. -/
structure Turned (S : Nat → Prop) (w w' : World) : Prop where
  os : w'.os = w.os
  tape : w'.tape = w.tape
  output : w'.output = w.output
  size : w.heap.size ≤ w'.heap.size
  block : ∀ k, k < w.heap.size → ¬ S k → w'.heap[k]? = w.heap[k]?
section
variable {S : Nat → Prop} {w w' w2 : World}
theorem Turned.refl (S : Nat → Prop) (w : World) : Turned S w w := ⟨rfl, rfl, rfl, Nat.le_refl _, fun _ _ _ => rfl⟩
theorem Turned.trans (h : Turned S w w') (k : Turned S w' w2) : Turned S w w2 :=
  ⟨k.os.trans h.os, k.tape.trans h.tape, k.output.trans h.output, Nat.le_trans h.size k.size, fun q hq hs => (k.block q (Nat.lt_of_lt_of_le hq h.size) hs).trans (h.block q hq hs)⟩
theorem Turned.more {S' : Nat → Prop} (h : Turned S w w') (hS : ∀ q, S q → S' q) : Turned S' w w' := ⟨h.os, h.tape, h.output, h.size, fun q hq hs => h.block q hq (fun e => hs (hS q e))⟩
theorem Turned.set (h : Turned S w w') {p : Addr} (hp : S p.block ∨ w.heap.size ≤ p.block) (u : Value) : Turned S w (w'.setCell p u) :=
  ⟨h.os, h.tape, h.output, by simpa using h.size, fun q hq hs => (Below.heap_setCell w' p u q (fun e => by rcases hp with hp | hp; exact hs (e ▸ hp); omega)).trans (h.block q hq hs)⟩
theorem Turned.grown {row : Option Nat} (h : Turned S w w') (hg : w'.grownBy w2 row) (hr : ∀ g, row = some g → S g ∨ w.heap.size ≤ g) : Turned S w w2 :=
  ⟨hg.os.trans h.os, hg.tape.trans h.tape, hg.output.trans h.output, Nat.le_trans h.size hg.size, fun q hq hs => (hg.block q (Nat.lt_of_lt_of_le hq h.size) (fun e => by rcases hr q e.symm with h1 | h1; exact hs h1; omega)).trans (h.block q hq hs)⟩
theorem Turned.below (h : Turned S w w') {B : Nat} (hB : ∀ i, i < w.heap.size → S i → B ≤ i) (hs : B ≤ w.heap.size) : Below B w w' :=
  ⟨h.os, h.tape, h.output, h.size, fun i hi => h.block i (by omega) (fun e => by have := hB i (by omega) e; omega)⟩
theorem Turned.blk {g : Nat} {t : TypeId} {cs : Array Value} (h : Turned S w w') (hb : Blk w g t cs) (hn : ¬ S g) : Blk w' g t cs := (h.block g hb.lt hn).trans hb
end
/-- The set of caches: its map of globs, its lock, its next number. -/
def CS (w : World) (cb mb : Nat) (lk nx : Int) : Prop := ∃ cs, Blk w cb 130 cs ∧ cs.size = 17 ∧ cs[12]? = some (.map (some mb)) ∧ cs[14]? = some (.int .i32 lk) ∧ cs[16]? = some (.int .u32 nx)
section
variable {w w' : World} {cb mb : Nat} {lk nx : Int}
theorem CS.lt (h : CS w cb mb lk nx) : cb < w.heap.size := by obtain ⟨cs, h1, _⟩ := h; exact h1.lt
theorem CS.c12 (h : CS w cb mb lk nx) : w.cell? ⟨cb, 12, none⟩ = some (.map (some mb)) := by obtain ⟨cs, h1, _, h2, _⟩ := h; exact (h1.cell 12).trans h2
theorem CS.c14 (h : CS w cb mb lk nx) : w.cell? ⟨cb, 14, none⟩ = some (.int .i32 lk) := by obtain ⟨cs, h1, _, _, h2, _⟩ := h; exact (h1.cell 14).trans h2
theorem CS.c16 (h : CS w cb mb lk nx) : w.cell? ⟨cb, 16, none⟩ = some (.int .u32 nx) := by obtain ⟨cs, h1, _, _, _, h2⟩ := h; exact (h1.cell 16).trans h2
theorem CS.z (h : CS w cb mb lk nx) (i : Nat) : w.frozen? ⟨cb, i, none⟩ = false := by obtain ⟨cs, h1, _⟩ := h; exact h1.frozen i
theorem CS.setLock (h : CS w cb mb lk nx) (x : Int) : CS (w.setCell ⟨cb, 14, none⟩ (.int .i32 x)) cb mb x nx := by
  obtain ⟨cs, h1, h2, h3, h4, h5⟩ := h
  exact ⟨_, h1.set_ 14 _, by simpa using h2, by rw [Array.getElem?_setIfInBounds_ne (by omega)]; exact h3, by rw [Array.getElem?_setIfInBounds_self_of_lt (by omega)], by rw [Array.getElem?_setIfInBounds_ne (by omega)]; exact h5⟩
theorem CS.setNext (h : CS w cb mb lk nx) (x : Int) : CS (w.setCell ⟨cb, 16, none⟩ (.int .u32 x)) cb mb lk x := by
  obtain ⟨cs, h1, h2, h3, h4, h5⟩ := h
  exact ⟨_, h1.set_ 16 _, by simpa using h2, by rw [Array.getElem?_setIfInBounds_ne (by omega)]; exact h3, by rw [Array.getElem?_setIfInBounds_ne (by omega)]; exact h4, by rw [Array.getElem?_setIfInBounds_self_of_lt (by omega)]⟩
theorem CS.grown {row : Option Nat} (h : CS w cb mb lk nx) (hg : w.grownBy w' row) (hr : some cb ≠ row) : CS w' cb mb lk nx := by
  obtain ⟨cs, h1, h2⟩ := h
  exact ⟨cs, h1.grown hg hr, h2⟩
theorem CS.far (h : CS w cb mb lk nx) {p : Addr} (hp : cb ≠ p.block) (u : Value) : CS (w.setCell p u) cb mb lk nx := by
  obtain ⟨cs, h1, h2⟩ := h
  exact ⟨cs, h1.far hp u, h2⟩
end
theorem MapIs.set {w : World} {b n : Nat} {D : DataW Unit} (h : MapIs w b n D) {g : Nat} {t : TypeId} {cs : Array Value} (hg : Blk w g t cs) (i : Nat) (u : Value) : MapIs (w.setCell ⟨g, i, none⟩ u) b n D :=
  World.ownsMap.setCell h (h.not_cells hg) u
theorem CS.map_set {w : World} {cb mb n m b : Nat} {lk nx : Int} {D : DataW Unit} (hc : CS w cb m lk nx) (h : MapIs w mb n D) (i : Nat) (u : Value) : MapIs (w.setCell ⟨cb, i, none⟩ u) mb n D := by
  obtain ⟨cs, h1, _⟩ := hc
  exact h.set h1 i u
theorem CS.map_ne {w : World} {cb mb n m : Nat} {lk nx : Int} {D : DataW Unit} (hc : CS w cb m lk nx) (h : MapIs w mb n D) : mb ≠ cb := by
  obtain ⟨cs, h1, _⟩ := hc
  exact h.not_cells h1
theorem key_wf (p g : Int) (hp : 0 ≤ p ∧ p ≤ 4294967295) (hg : 0 ≤ g ∧ g ≤ 4294967295) : ∃ k : Int, bits .or .u64 (p * 4294967296) g = k ∧ (Lit.int .u64 k).wf = true := by
  refine ⟨p * 4294967296 + g, bits_join .u64 64 (by decide) (fun n h1 h2 => by rw [IntKind.wrap_u64]; omega) 32 (p * 4294967296) g (by omega) (by omega) (by omega) (by omega) (by omega) (by omega), ?_⟩
  simp [Lit.wf, IntKind.min, IntKind.max, IntKind.signed, IntKind.bits]
  omega
def GetPost (w : World) (cb mb c n : Nat) (e : Ending) (w' : World) : Prop :=
  ∃ (v c' n' : Nat) (D' : DataW Unit), e = .returned (.int .u32 (v : Int)) ∧ CS w' cb mb 0 ((c' + 1 : Nat) : Int) ∧ MapIs w' mb n' D' ∧ InC D' c' ∧ n' ≤ n + 1 ∧ ((c' = c ∧ 1 ≤ v ∧ v ≤ c) ∨ (c' = c + 1 ∧ v = c + 1)) ∧ Turned (fun q => q = cb ∨ q = mb) w w'
set_option maxHeartbeats 4000000 in
set_option maxRecDepth 100000 in
theorem get_any (cb mb c n : Nat) (p g : Int) (D : DataW Unit) (w : World) (hp : 0 ≤ p ∧ p ≤ 4294967295) (hg : 0 ≤ g ∧ g ≤ 4294967295) (hc : CS w cb mb 0 ((c + 1 : Nat) : Int)) (hm : MapIs w mb n D) (hi : InC D c) (hn : n ≤ 1000000) (hcn : c ≤ 1000000) :
    Calls Try.prog 12 #[.pointer (some ⟨cb, 12, none⟩), .int .u32 p, .int .u32 g] w (GetPost w cb mb c n) := by
  obtain ⟨m, hmc⟩ : ∃ m, m = c + 1 := ⟨_, rfl⟩
  rw [← hmc] at hc
  have HC := Lib.hid hc; have HM := Lib.hid hm; have HI := Lib.hid hi; have HMC := Lib.hid hmc
  have hmb : m ≤ 1000001 := by omega
  clear hc hm hi hmc
  go_enter_defers Try.func12, Try.ntmps12
  go_upto_region 2 with fail
  obtain ⟨key, hkey, hkw⟩ := key_wf p g hp hg
  rw [hkey]
  have HKW := Lib.hid hkw
  clear hkey hkw
  go_wp2_with (go_at_call 13; refine (lock_free muLib ⟨cb, 14, none⟩ _ HC.out.c14 (HC.out.z 14)).mono ?_)
  rintro e w1 ⟨rfl, hw1⟩
  have HC1 : Hid (CS w1 cb mb 1 (m : Int)) := Lib.hid (by rw [hw1]; exact HC.out.setLock 1)
  have HM1 : Hid (MapIs w1 mb n D) := Lib.hid (by rw [hw1]; exact HC.out.map_set (b := 0) HM.out 14 _)
  have HT1 : Hid (Turned (fun q => q = cb ∨ q = mb) w w1) := Lib.hid (by rw [hw1]; exact (Turned.refl _ _).set (p := ⟨cb, 14, none⟩) (.inl (.inl rfl)) _)
  clear hw1 HC HM
  have k12 : w1.cell? ⟨cb, 12, none⟩ = some (.map (some mb)) := HC1.out.c12
  have k16 : w1.cell? ⟨cb, 16, none⟩ = some (.int .u32 (m : Int)) := HC1.out.c16
  have z16 : w1.frozen? ⟨cb, 16, none⟩ = false := HC1.out.z 16
  obtain ⟨v, h, hlook, hv, hh⟩ := mp_look HM1.out HI.out key HKW.out
  cases h
  · have hcw : IntKind.u32.wrap ((m : Int) + 1) = (m : Int) + 1 := by rw [IntKind.wrap_u32]; omega
    obtain ⟨w2, hw2⟩ : ∃ W, W = w1.setCell ⟨cb, 16, none⟩ (.int .u32 ((m : Int) + 1)) := ⟨_, rfl⟩
    have HC2 : Hid (CS w2 cb mb 1 ((m : Int) + 1)) := Lib.hid (by rw [hw2]; exact HC1.out.setNext _)
    have HM2 : Hid (MapIs w2 mb n D) := Lib.hid (by rw [hw2]; exact HC1.out.map_set (b := 0) HM1.out 16 _)
    have HT2 : Hid (Turned (fun q => q = cb ∨ q = mb) w w2) := Lib.hid (by rw [hw2]; exact HT1.out.set (p := ⟨cb, 16, none⟩) (.inl (.inl rfl)) _)
    have HW2 := Lib.hid hw2
    clear hw2 hv hh
    go_upto_region 9 with fail
    rw [← HW2.out]
    clear HW2 HC1 HM1 HT1 k12 k16 z16 hlook
    have k12 : w2.cell? ⟨cb, 12, none⟩ = some (.map (some mb)) := HC2.out.c12
    have hne := HC2.out.map_ne HM2.out
    have hpe : plainElem (H := Unit) Try.prog 29 (.int .u32 (m : Int)) = some (.lit (.int .u32 (m : Int)), []) := plainElem_int Try.underlying29 (by simp [Lit.wf, IntKind.min, IntKind.max, IntKind.signed, IntKind.bits]; omega)
    have HPE := Lib.hid hpe
    have HKY : Hid (keyOf Try.prog 84 (.int .u64 key) = some (.int .u64 key)) := Lib.hid (keyOf_int_mk Try.underlying84 HKW.out)
    clear hpe
    go_wp2_with (at_mapUpdate; refine wpList_mapUpdate_own _ rfl _ _ _ 107 rfl 84 29 lawG Try.underlying107 (plainElem (H := Unit) Try.prog 29) mb n _ rfl HM2.out (by unfold maxLen; omega) _ _ _ rfl rfl HKY.out _ [] HPE.out ?_; intro w3 hown3 hgrow3; have HO3 := Lib.hid hown3; have HG3 := Lib.hid hgrow3; clear hown3 hgrow3)
    have HC3 : Hid (CS w3 cb mb 1 ((m : Int) + 1)) := Lib.hid (HC2.out.grown HG3.out (by simpa using fun e => hne e.symm))
    have HT3 : Hid (Turned (fun q => q = cb ∨ q = mb) w w3) := Lib.hid (HT2.out.grown HG3.out (fun g hg => by cases hg; exact .inl (.inr rfl)))
    have HIM : Hid (IsMap D) := Lib.hid (World.ownsMap.isMap HM2.out)
    clear HC2 HT2 HM2 HG3 k12 HPE HKY
    go_wp2_with fail
    refine leaves_cons (f := 14) (args := #[.pointer (some ⟨cb, 14, none⟩)]) (by simp) (by simp [go_sem]) ?_
    refine (unlock_deferred muLib ⟨cb, 14, none⟩ .returning _ HC3.out.c14 (HC3.out.z 14)).mono ?_
    rintro e u' w'' ⟨rfl, rfl, rfl⟩
    have hm2 : (m : Int) + 1 = ((c + 1 + 1 : Nat) : Int) := by have := HMC.out; omega
    have hI := inC_put HIM.out HI.out key
    rw [← HMC.out] at hI
    refine ⟨_, results_tmp rfl _ _ _, m, c + 1, n + 1, _, rfl, ?_, HC3.out.map_set (b := 0) HO3.out 14 _, by rw [HMC.out] at hI ⊢; exact hI, by omega, .inr ⟨rfl, HMC.out⟩, HT3.out.set (p := ⟨cb, 14, none⟩) (.inl (.inl rfl)) _⟩
    rw [← hm2]
    exact HC3.out.setLock 0
  · obtain ⟨hv1, hv2⟩ := hh rfl
    clear k16 z16
    go_wp2_with fail
    refine leaves_cons (f := 14) (args := #[.pointer (some ⟨cb, 14, none⟩)]) (by simp) (by simp [go_sem]) ?_
    refine (unlock_deferred muLib ⟨cb, 14, none⟩ .returning _ HC1.out.c14 (HC1.out.z 14)).mono ?_
    rintro e u' w'' ⟨rfl, rfl, rfl⟩
    exact ⟨_, results_tmp rfl _ _ _, v, c, n, D, rfl, by rw [← HMC.out]; exact HC1.out.setLock 0, HC1.out.map_set (b := 0) HM1.out 14 _, HI.out, by omega, .inl ⟨rfl, hv1, hv2⟩, HT1.out.set (p := ⟨cb, 14, none⟩) (.inl (.inl rfl)) _⟩
end Go.Proofs.Ytlkicobpfbgloaa
