/- recursivelyValidateTLA, one call: what it does to the checks. -/
import Derived.Test.YtecncdcfmmceeaaGreatTlm
import Derived.Test.YtecncdcfmmceeaaGreatIx3
import Derived.WalkKit
import Derived.WalkSpells
import Derived.LoopTactic
import Derived.WalkMore
import Derived.Deep.Light
import Derived.Deep.QuietTactic
import Derived.BigQuiet
import Derived.Deep.RegionWith
import Derived.Deep.Cut
import Derived.Deep.CutRange
import Derived.Deep.DeepCutAuto
import Derived.Outline
import Derived.IntWalk
import Derived.Carry
namespace Go.Proofs.YtecncdcfmmceeaaGreat
open Go.RowKit
set_option linter.unusedVariables false
set_option linter.unusedSimpArgs false
theorem chkI : (Tryz.prog.info? 85).map (·.size) = some 4 := by kernel_rfl
def chk (σ : TS) (i : Nat) : Array Value := #[.int .u32 ((INV - σ.par i : Nat) : Int), .int .u32 ((INV - σ.dep i : Nat) : Int), .int .u32 (σ.pas i : Nat), .int .u32 (σ.ri i : Nat)]
structure GOk (G : TG) : Prop where
  n : G.n ≤ 65536
  ok : ∀ j, G.ok j = true → j < G.n
  len : ∀ j, (G.recs j).length ≤ 1048576
  tgt : ∀ (j r k t : Nat), (G.recs j)[r]? = some (k, t) → k ≤ 2 ∧ (t < G.n ∨ t = INV)
def RecPost (G : TG) (rb db sb : Nat) (jb : Nat → Nat) (σ : TS) (dc : Bool) (i p : Nat) (w : World) (e : Ending) (w' : World) : Prop :=
  ∃ σ' dc', e = .returned (.agg (chk σ' i)) ∧ TW G rb db sb jb σ' dc' w' ∧ Sound G σ' ∧ Rel G p none σ σ' ∧ Flag σ σ' dc dc' ∧ (G.ok i = true → σ'.pas i = p) ∧ Fr rb db w w'
def zChk : Array Value := #[.int .u32 0, .int .u32 0, .int .u32 0, .int .u32 0]
/-- The last statement: the check is copied out. -/
theorem out_fr {G : TG} {rb db sb : Nat} {jb : Nat → Nat} {σ : TS} {dc : Bool} {w W : World} (h : TW G rb db sb jb σ dc W) {rs : Nat} (hb : Blk W rs 85 zChk) (i : Nat) (hrs : w.heap.size ≤ rs) (hf : Fr rb db w W) :
    TW G rb db sb jb σ dc ((((W.setCell ⟨rs, 0, none⟩ (.int .u32 ((INV - σ.par i : Nat) : Int))).setCell ⟨rs, 1, none⟩ (.int .u32 ((INV - σ.dep i : Nat) : Int))).setCell ⟨rs, 2, none⟩ (.int .u32 (σ.pas i : Nat))).setCell ⟨rs, 3, none⟩ (.int .u32 (σ.ri i : Nat))) ∧ Fr rb db w ((((W.setCell ⟨rs, 0, none⟩ (.int .u32 ((INV - σ.par i : Nat) : Int))).setCell ⟨rs, 1, none⟩ (.int .u32 ((INV - σ.dep i : Nat) : Int))).setCell ⟨rs, 2, none⟩ (.int .u32 (σ.pas i : Nat))).setCell ⟨rs, 3, none⟩ (.int .u32 (σ.ri i : Nat))) ∧
    Blk ((((W.setCell ⟨rs, 0, none⟩ (.int .u32 ((INV - σ.par i : Nat) : Int))).setCell ⟨rs, 1, none⟩ (.int .u32 ((INV - σ.dep i : Nat) : Int))).setCell ⟨rs, 2, none⟩ (.int .u32 (σ.pas i : Nat))).setCell ⟨rs, 3, none⟩ (.int .u32 (σ.ri i : Nat))) rs 85 (chk σ i) := by
  have b1 := hb.set_ 0 (.int .u32 ((INV - σ.par i : Nat) : Int))
  have b2 := b1.set_ 1 (.int .u32 ((INV - σ.dep i : Nat) : Int))
  have b3 := b2.set_ 2 (.int .u32 (σ.pas i : Nat))
  have b4 := b3.set_ 3 (.int .u32 (σ.ri i : Nat))
  have hne : 85 ≠ 87 ∧ 85 ≠ 4 ∧ 85 ≠ 153 ∧ 85 ≠ 191 ∧ 85 ≠ 62 := by decide
  exact ⟨(((h.far hb hne 0 _).far b1 hne 1 _).far b2 hne 2 _).far b3 hne 3 _, (((hf.setCell (p := ⟨rs, 0, none⟩) (.inr (.inr hrs)) _).setCell (p := ⟨rs, 1, none⟩) (.inr (.inr hrs)) _).setCell (p := ⟨rs, 2, none⟩) (.inr (.inr hrs)) _).setCell (p := ⟨rs, 3, none⟩) (.inr (.inr hrs)) _, b4⟩
set_option maxHeartbeats 8000000 in
set_option maxRecDepth 100000 in
/-- A file that is absent or stamped: nothing is done. -/
theorem rec_skip (G : TG) (rb db sb : Nat) (jb : Nat → Nat) (σ : TS) (dc : Bool) (i p : Nat) (w : World) (hG : GOk G) (hi : i < G.n) (ht : TW G rb db sb jb σ dc w) (hs : Sound G σ) (hp : σ.pas i = p ∨ G.ok i = false) :
    Calls Tryz.prog 24 #[.pointer (some ⟨sb, 0, none⟩), .int .u32 (i : Int), .int .u32 (p : Int), .pointer (some ⟨db, 0, none⟩)] w (RecPost G rb db sb jb σ dc i p w) := by
  obtain ⟨css, cap, hsb, h11, hcap⟩ := ht.scan
  have HT := Lib.hid (ht.alloc (.cells zChk 85))
  obtain ⟨W, hW⟩ : ∃ W, W = w.alloc (.cells zChk 85) := ⟨_, rfl⟩
  have hB := Blk.new w 85 zChk
  rw [← hW] at HT hB
  have HB := Lib.hid hB
  have HF : Hid (Fr rb db w W) := Lib.hid (by rw [hW]; exact (Fr.refl _ _ _).alloc _)
  have c11 : W.cell? ⟨sb, 11, none⟩ = some (.slice (some ⟨rb, 0, none⟩) G.n cap) := by rw [hW]; exact ((hsb.alloc _).cell 11).trans h11
  obtain ⟨q4, q22, q23, q24, q25, q26⟩ := HT.out.cells hi
  have r0 : W.cell? ⟨w.heap.size, 0, none⟩ = some (.int .u32 0) := hB.cell 0
  have r1 : W.cell? ⟨w.heap.size, 1, none⟩ = some (.int .u32 0) := hB.cell 1
  have r2 : W.cell? ⟨w.heap.size, 2, none⟩ = some (.int .u32 0) := hB.cell 2
  have r3 : W.cell? ⟨w.heap.size, 3, none⟩ = some (.int .u32 0) := hB.cell 3
  have z0 : W.frozen? ⟨w.heap.size, 0, none⟩ = false := hB.frozen 0
  have z1 : W.frozen? ⟨w.heap.size, 1, none⟩ = false := hB.frozen 1
  have z2 : W.frozen? ⟨w.heap.size, 2, none⟩ = false := hB.frozen 2
  have z3 : W.frozen? ⟨w.heap.size, 3, none⟩ = false := hB.frozen 3
  have HFIN := Lib.hid (out_fr HT.out HB.out i (Nat.le_refl _) HF.out)
  have hii : (i : Int) < (G.n : Int) := by omega
  have hsame : (G.ok i = true → σ.pas i = p) := fun h => by
    rcases hp with h1 | h1
    · exact h1
    · rw [h] at h1; cases h1
  have HSM := Lib.hid hsame; have HS := Lib.hid hs
  obtain ⟨v22, e22⟩ : ∃ v : Nat, v = INV - σ.par i := ⟨_, rfl⟩
  obtain ⟨v23, e23⟩ : ∃ v : Nat, v = INV - σ.dep i := ⟨_, rfl⟩
  obtain ⟨v24, e24⟩ : ∃ v : Nat, v = σ.pas i := ⟨_, rfl⟩
  obtain ⟨v25, e25⟩ : ∃ v : Nat, v = σ.ri i := ⟨_, rfl⟩
  rw [← e22] at q22
  rw [← e23] at q23
  rw [← e24] at q24
  rw [← e25] at q25
  have HCH : Hid (chk σ i = #[.int .u32 (v22 : Int), .int .u32 (v23 : Int), .int .u32 (v24 : Int), .int .u32 (v25 : Int)]) := Lib.hid (by unfold chk; rw [e22, e23, e24, e25])
  rw [← e22, ← e23, ← e24, ← e25] at HFIN
  have hpp : G.ok i = true → (v24 : Int) = (p : Int) := fun h => by rw [e24, hsame h]
  clear hsame hp hs ht hsb h11 hB q4 e22 e23 e24 e25
  cases ho : G.ok i with
  | false =>
    rw [ho] at q26
    have HO := Lib.hid ho
    clear hpp ho
    go_enter Tryz.func24, Tryz.ntmps24
    go_upto_region 1 with fail
    have hW2 : w.alloc (.cells #[.int .u32 0, .int .u32 0, .int .u32 0, .int .u32 0] 85) = W := hW.symm
    rw [hW2]
    clear hW hW2
    go_wp2
    refine bodyPost_ret (results_cell_row Tryz.results24 _ _ w.heap.size 85 (chk σ i) (0, 0) _ rfl HFIN.out.2.2 Tryz.underlying85 rfl chkI) rfl ?_
    exact ⟨σ, dc, rfl, HFIN.out.1, HS.out, Rel.refl _ _ _ _, .inl ⟨rfl, Same.refl _⟩, HSM.out, HFIN.out.2.1⟩
  | true =>
    rw [ho] at q26
    have hv := hpp ho
    have t24 : ((v24 : Int) != (p : Int)) = false := by simp [hv]
    have t24' : (v24 != p) = false := by simp; omega
    have HO := Lib.hid ho
    clear hpp ho hv
    go_enter Tryz.func24, Tryz.ntmps24
    go_upto_region 1 with fail
    have hW2 : w.alloc (.cells #[.int .u32 0, .int .u32 0, .int .u32 0, .int .u32 0] 85) = W := hW.symm
    rw [hW2]
    clear hW hW2
    go_wp2
    refine bodyPost_ret (results_cell_row Tryz.results24 _ _ w.heap.size 85 (chk σ i) (0, 0) _ rfl HFIN.out.2.2 Tryz.underlying85 rfl chkI) rfl ?_
    exact ⟨σ, dc, rfl, HFIN.out.1, HS.out, Rel.refl _ _ _ _, .inl ⟨rfl, Same.refl _⟩, HSM.out, HFIN.out.2.1⟩
end Go.Proofs.YtecncdcfmmceeaaGreat
