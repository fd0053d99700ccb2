/- MakeChunkBuilder, GenerateChunk of a builder that has no mapping. -/
import Derived.Test.YtgdcpladehcegaaDoorUpd
import Derived.WalkKit
import Derived.WalkSpells
import Derived.LoopTactic
import Derived.WalkMore
import Derived.Deep.Light
import Derived.Outline
import Derived.IntWalk
import Derived.ProofKit
import Derived.BigCall
import Derived.Carry
import Derived.Deep.Cut
import Derived.Deep.CutRange
import Derived.Deep.DeepCutAuto
import Derived.StillTailTactics
namespace Go.Proofs.YtgdcpladehcegaaDoor
open Go.RowKit
set_option linter.unusedVariables false
set_option linter.unusedSimpArgs false
theorem cbI : (Tryd.prog.info? 38).map (fun i => i.size) = some 22 := by kernel_rfl
theorem chI : (Tryd.prog.info? 43).map (fun i => i.size) = some 12 := by kernel_rfl
def CH (sm : Value) (gl gc : Nat) : Array Value :=
  #[sm, .int .u32 0, .slice none 0 0, .int .i64 (gl : Int), .int .i64 0, .int .i64 0, .int .i64 0, .int .i64 0, .int .i64 0, .bool false, .int .i64 (gc : Int), .bool true]
theorem upd_any (s : ByteArray) (B g k m : Nat) (im sm nm tb : Value) (pn : ByteArray) (pgl : Nat) (ploc : Int) (asc lsm cov : Bool) (A : Option Addr) (cap : Nat) (w : World) (hs : s.size ≤ 1048576) (hkm : k ≤ m)
    (hb : BS s B g im sm nm tb pn k (pos s k) pgl ploc asc lsm cov w) (hgB : B ≤ g) (ho : Out w B A (pos s m) cap s) (hcl : Clean s (pos s m)) (hn : A = none → pos s m = 0) :
    Calls Tryd.prog 16 #[.pointer (some ⟨g, 0, none⟩), .slice A (pos s m) cap] w (UpdPost s B g m im nm tb pn pgl ploc asc cov sm.ownBlock w) := by
  cases cov with
  | true => exact upd_true s B g k m im sm nm tb pn pgl ploc asc lsm A cap w hs hkm hb hgB ho hcl hn
  | false => exact upd_false s B g k m im sm nm tb pn pgl ploc asc lsm A cap w hs hkm hb hgB ho hcl hn
theorem CH_one (A : Option Addr) (n c gl gc : Nat) : (CH (.slice A n c) gl gc).all (·.oneCell') = true := by kernel_rfl
theorem CB_one (A : Option Addr) (a : Option Addr) (h : Option Nat) (n c : Nat) (pn : ByteArray) (gl lgu gc pgl : Nat) (ploc : Int) (asc lsm cov : Bool) : (CB (.pointer a) (.slice none 0 0) (.map h) (.slice A n c) pn gl lgu gc pgl ploc asc lsm cov).all (·.oneCell') = true := by kernel_rfl
theorem below_row {B : Nat} {w w' : World} (h : Below B w w') {g : Nat} (hg : B ≤ g) (cs : Array Value) : Below B w (w'.setRow g cs) :=
  ⟨h.os, h.tape, h.output, by simp [World.setRow]; exact h.size, fun i hi => (setRow_other w' g i cs (by omega)).trans (h.block i hi)⟩
set_option maxHeartbeats 2000000 in
set_option maxRecDepth 100000 in
theorem mcb_any (a : Option Addr) (cov : Bool) (tA : Option Addr) (tn tc : Nat) (asc : Bool) (w : World) (heq : ∀ W : World, (binOp .eql 27 (.pointer a) (.pointer none)).run Tryd.prog W = .ok (.bool cov) W) :
    Calls Tryd.prog 8 #[.pointer a, .slice tA tn tc, .bool asc] w fun e w' => (∃ h, e = .returned (.agg (CB (.pointer a) (.slice none 0 0) (.map (some h)) (.slice tA tn tc) ByteArray.empty 0 0 0 0 (-1) asc false cov))) ∧ Below w.heap.size w w' := by
  have hmm := @run_makeMap Tryd.prog
  obtain ⟨n1, hn1⟩ : ∃ n1, n1 = w.heap.size + 1 := ⟨_, rfl⟩
  have hbd : ∀ W : World, (Instr.build 38 #[(0, .pointer a), (10, .agg #[.int .i32 (-1)]), (4, .slice tA tn tc), (13, .bool asc), (3, .map (some (w.heap.size + 1))), (15, .bool cov)]).run Tryd.prog W = .ok (.agg (CB (.pointer a) (.slice none 0 0) (.map (some (w.heap.size + 1))) (.slice tA tn tc) ByteArray.empty 0 0 0 0 (-1) asc false cov)) W := fun W => run_build W _ _ _ (by kernel_rfl)
  go_enter Tryd.func8, Tryd.ntmps8
  go_wp2_with (refine wpList_store_row rfl 38 (.tmp 6) (.tmp 14) rfl w.heap.size (CB (.pointer a) (.slice none 0 0) (.map (some (w.heap.size + 1))) (.slice tA tn tc) ByteArray.empty 0 0 0 0 (-1) asc false cov) rfl rfl 38 _ ((Blk.new w 38 _).alloc _) cbI rfl (CB_one _ _ _ _ _ _ _ _ _ _ _ _ _ _) ?_)
  refine bodyPost_ret (results_cell_row Tryd.results8 _ _ w.heap.size 38 (CB (.pointer a) (.slice none 0 0) (.map (some (w.heap.size + 1))) (.slice tA tn tc) ByteArray.empty 0 0 0 0 (-1) asc false cov) (0, 0) _ rfl (setRow_heap _ w.heap.size _ _ 38 (0, 0) ((Blk.new w 38 _).alloc _)) Tryd.underlying38 rfl cbI) rfl ?_
  exact ⟨⟨_, rfl⟩, below_row (((Below.refl _ _).alloc (Nat.le_refl _) _).alloc (by simp) _) (Nat.le_refl _) _⟩
def ChPost (s : ByteArray) (B g m : Nat) (im nm tb : Value) (pn : ByteArray) (pgl : Nat) (ploc : Int) (asc cov : Bool) (w : World) (e : Ending) (w' : World) : Prop :=
  ∃ (A : Option Addr) (c : Nat), e = .returned (.agg (CH (.slice A (lc s m).1 c) (lc s m).1 (lc s m).2)) ∧ w'.ownsRow B 5 1 (.slice A (lc s m).1 c) (lc s m).1 (semis (lc s m).1) ∧ Below B w w'
set_option maxHeartbeats 4000000 in
set_option maxRecDepth 100000 in
theorem gen_any (s : ByteArray) (B g k m : Nat) (im sm nm tb : Value) (pn : ByteArray) (pgl : Nat) (ploc : Int) (asc lsm cov : Bool) (A : Option Addr) (cap : Nat) (w : World) (hs : s.size ≤ 1048576) (hkm : k ≤ m)
    (hb : BS s B g im sm nm tb pn k (pos s k) pgl ploc asc lsm cov w) (hgB : B ≤ g) (ho : Out w B A (pos s m) cap s) (hcl : Clean s (pos s m)) (hn : A = none → pos s m = 0) :
    Calls Tryd.prog 9 #[.pointer (some ⟨g, 0, none⟩), .slice A (pos s m) cap] w (ChPost s B g m im nm tb pn pgl ploc asc cov w) := by
  have hne : w.heap.size ≠ g := fun e => by have := hb.blk.lt; omega
  have hnr : some w.heap.size ≠ sm.ownBlock := fun e => by have := (hb.own.lt _ e.symm).2; omega
  have HBS := Lib.hid hb; have HO := Lib.hid ho; have HCL := Lib.hid hcl; have HN := Lib.hid hn
  have hBw : B ≤ w.heap.size := by have := hb.blk.lt; omega
  have hUPD := fun (o : Obj) => upd_any s B g k m im sm nm tb pn pgl ploc asc lsm cov A cap (w.alloc o) hs hkm ⟨hb.blk.alloc o, hb.own.alloc o, hb.cov_⟩ hgB (ho.below ((Below.refl _ _).alloc hBw o)) hcl hn
  have HU := Lib.hid hUPD
  obtain ⟨l, hl⟩ : ∃ l, l = (lc s m).1 := ⟨_, rfl⟩
  obtain ⟨cl, hcl1⟩ : ∃ l, l = (lc s m).2 := ⟨_, rfl⟩
  obtain ⟨n, hnn⟩ : ∃ n, n = pos s m := ⟨_, rfl⟩
  have hll := lc_le s m
  have hps := pos_le s m
  rw [← hl, ← hcl1, ← hnn] at hll
  rw [← hnn] at hps HU ⊢
  have HL := Lib.hid hl; have HC := Lib.hid hcl1
  clear hb ho hcl hn hUPD hl hcl1 hnn
  go_enter Tryd.func9, Tryd.ntmps9
  go_wp2_with (go_at_call 16; refine (HU.out _).mono ?_)
  rintro e w1 ⟨rfl, sm1, lsm1, hbs, hbel, hkp⟩
  obtain ⟨SA, sc, rfl⟩ := own_slice hbs.own
  rw [← HL.out] at hbs
  have HB1 := Lib.hid hbs; have HBE := Lib.hid hbel
  have HRB : Hid (Blk w1 w.heap.size 43 _) := Lib.hid ((hkp.1 w.heap.size (by simp) hne hnr).trans (Blk.new w 43 _))
  have hrd : ∀ i, i < l → ∃ ob, SA = some ⟨ob, 0, none⟩ ∧ w1.cell? ⟨ob, i, none⟩ = some (.int .u8 59) := fun i hi => by
    have hown := hbs.own
    rw [← HL.out] at hown
    obtain ⟨ob, cap, hv, _, _⟩ := hown.form (by omega)
    injection hv with e1 e2 e3
    subst e1
    refine ⟨ob, rfl, (hown.cellAt i (by omega)).trans ?_⟩
    unfold semis
    simp [hi]
  have HRD := Lib.hid hrd
  have c1 : w1.cell? ⟨g, 1, none⟩ = some (.slice SA l sc) := hbs.blk.cell 1
  clear hbs hbel hrd hkp
  go_wp2
  go_loop [5, 16] (fun b t => ∃ k : Nat, b = .bool true ∧ t = .int .i64 (k : Int) ∧ k ≤ l) (fun _ t => l - (intOf t).toNat)
  case atStart => exact ⟨0, rfl, rfl, Nat.zero_le _⟩
  case round =>
    obtain ⟨k, rfl, rfl, hk⟩ := hrel
    by_cases hlt : k < l
    · obtain ⟨ob, hSA, hc⟩ := HRD.out k hlt
      subst hSA
      have hlt' : (k : Int) < (l : Int) := by omega
      have hw : IntKind.i64.wrap ((k : Int) + 1) = ((k + 1 : Nat) : Int) := by rw [IntKind.wrap_i64]; omega
      go_wp2
      go_round
      case rel => exact ⟨k + 1, rfl, rfl, by omega⟩
      case measure => simp [intOf]; omega
    · obtain rfl : k = l := by omega
      have hlt' : ¬ ((k : Int) < (k : Int)) := by omega
      go_wp2
      have c2 : w1.cell? ⟨g, 2, none⟩ = some (.slice none 0 0) := HB1.out.blk.cell 2
      have c6 : w1.cell? ⟨g, 6, none⟩ = some (.int .i64 (k : Int)) := by rw [HL.out]; exact HB1.out.blk.cell 6
      have c7 : w1.cell? ⟨g, 7, none⟩ = some (.int .i64 0) := HB1.out.blk.cell 7
      have c8 : w1.cell? ⟨g, 8, none⟩ = some (.int .i64 0) := HB1.out.blk.cell 8
      have c9 : w1.cell? ⟨g, 9, none⟩ = some (.int .i64 0) := HB1.out.blk.cell 9
      have c10 : w1.cell? ⟨g, 10, none⟩ = some (.int .i64 0) := HB1.out.blk.cell 10
      have c11 : w1.cell? ⟨g, 11, none⟩ = some (.int .i64 0) := HB1.out.blk.cell 11
      have c12 : w1.cell? ⟨g, 12, none⟩ = some (.bool false) := HB1.out.blk.cell 12
      have c14 : w1.cell? ⟨g, 14, none⟩ = some (.int .i64 (cl : Int)) := by rw [HC.out]; exact HB1.out.blk.cell 14
      have c17 : w1.cell? ⟨g, 17, none⟩ = some (.int .u32 0) := HB1.out.blk.cell 17
      clear hll hps hs hlt
      go_still_tail 23, (by kernel_rfl)
      change wpList _ _ _ _ _ w1.drew
      refine wpList_store_row rfl 43 (.tmp 4) (.tmp 45) rfl w.heap.size (CH (.slice SA k sc) k cl) rfl rfl 43 _ HRB.out.drew chI rfl (CH_one _ _ _ _ _) ?_
      go_wp2
      refine bodyPost_ret (results_cell_row Tryd.results9 _ _ w.heap.size 43 (CH (.slice SA k sc) k cl) (0, 0) _ rfl (setRow_heap _ w.heap.size _ _ 43 (0, 0) HRB.out.drew) Tryd.underlying43 rfl chI) rfl ?_
      have hB : Below B w w1 := ((Below.refl B w).alloc hBw _).trans HBE.out
      refine ⟨SA, sc, by rw [← HL.out, ← HC.out], ?_, below_row hB.drew hBw _⟩
      have hown := HB1.out.own
      rw [← HL.out] at hown ⊢
      exact own_same (w := w1) hown fun g' hg' => setRow_other _ _ _ _ (fun e => own_blk_ne hown HRB.out (by decide) (by rw [hg', e]))
end Go.Proofs.YtgdcpladehcegaaDoor
