/- NewMinifyRenamer: a renamer with four rows of empty slots. -/
import Derived.Test.YtlpmkbdglpnjhaaTbs
import Derived.Test.YtlpmkbdglpnjhaaLoo
import Derived.BigRegion
namespace Go.Proofs.Ytlpmkbdglpnjhaa
open Go.RowKit
set_option linter.unusedVariables false
set_option linter.unusedSimpArgs false
def zSlot : Value := .agg #[.string ⟨#[]⟩, .int .u32 0, .int .u32 0]
theorem slot_info : (Try.prog.info? 83).map (fun i => (i.zero, i.size, i.bytes)) = some (some zSlot, 3, 24) := by kernel_rfl
def mkSl (n : Nat) : Array Value := madeCells zSlot.cells (n * 3)
theorem mkSl_size (n : Nat) : (mkSl n).size = n * 3 := by simp [mkSl, madeCells, zSlot, Value.cells]
theorem mkSl_run (n : Nat) (hn : n ≤ 65536) (W : World) : (Instr.makeSlice 72 (.int .u32 (n : Int)) (.int .u32 (n : Int))).run Try.prog W = .ok (.slice (some ⟨W.heap.size, 0, none⟩) n n) (W.alloc (.cells (mkSl n) 83)) := by
  obtain ⟨i0, hi, hz0, hz1, hz2⟩ := info_parts slot_info
  have hr := run_make (P := Try.prog) W 72 83 i0 zSlot Try.underlying72 hi hz0 .u32 .u32 n n (by omega) (by omega) (by rw [hz2]; omega) (by omega)
  simp only [Int.toNat_natCast, hz1] at hr
  exact hr
/-- A row of c empty slots of the call's own. -/
def SlR (base c : Nat) (v : Value) (w : World) : Prop := ∃ g, v = .slice (some ⟨g, 0, none⟩) c c ∧ base ≤ g ∧ Blk w g 83 (mkSl c)
def MpR (base : Nat) (v : Value) (w : World) : Prop := ∃ g, v = .map (some g) ∧ base ≤ g ∧ w.heap[g]? = some (.map #[] 0)
theorem SlR.grown {base c : Nat} {v : Value} {w w' : World} (h : SlR base c v w) (hg : w.grownBy w' none) : SlR base c v w' := by
  obtain ⟨g, h1, h2, h3⟩ := h
  exact ⟨g, h1, h2, h3.grown hg (by simp)⟩
theorem MpR.grown {base : Nat} {v : Value} {w w' : World} (h : MpR base v w) (hg : w.grownBy w' none) : MpR base v w' := by
  obtain ⟨g, h1, h2, h3⟩ := h
  have hlt : g < w.heap.size := by
    rcases Nat.lt_or_ge g w.heap.size with hl | hl
    · exact hl
    · rw [Array.getElem?_eq_none hl] at h3; cases h3
  exact ⟨g, h1, h2, (hg.block g hlt (by simp)).trans h3⟩
/-- The renamer's fields. -/
structure Fld (base c0 c1 c2 c3 : Nat) (s0 s1 s2 s3 : Value) (w : World) : Prop where
  r0 : SlR base c0 s0 w
  r1 : SlR base c1 s1 w
  r2 : SlR base c2 s2 w
  r3 : SlR base c3 s3 w
  d01 : s0 ≠ s1
  d02 : s0 ≠ s2
  d03 : s0 ≠ s3
  d12 : s1 ≠ s2
  d13 : s1 ≠ s3
  d23 : s2 ≠ s3
theorem Fld.grown {base c0 c1 c2 c3 : Nat} {s0 s1 s2 s3 : Value} {w w' : World} (h : Fld base c0 c1 c2 c3 s0 s1 s2 s3 w) (hg : w.grownBy w' none) : Fld base c0 c1 c2 c3 s0 s1 s2 s3 w' :=
  ⟨h.r0.grown hg, h.r1.grown hg, h.r2.grown hg, h.r3.grown hg, h.d01, h.d02, h.d03, h.d12, h.d13, h.d23⟩
def renCells (o : Nat) (mo : Option Nat) (s0 s1 s2 s3 mp : Value) : Array Value := #[.map mo, s0, s1, s2, s3, mp, .slice (some ⟨o, 0, none⟩) 1 1]
def PtrR (base o : Nat) (mo : Option Nat) (c0 c1 c2 c3 : Nat) (v : Value) (w : World) : Prop :=
  ∃ br s0 s1 s2 s3 mp, v = .pointer (some ⟨br, 0, none⟩) ∧ base ≤ br ∧ Blk w br 76 (renCells o mo s0 s1 s2 s3 mp) ∧ Fld base c0 c1 c2 c3 s0 s1 s2 s3 w ∧ MpR base mp w
def NF (base x1 o : Nat) (mo : Option Nat) (c0 c1 c2 c3 : Nat) (i : Nat) (v : Value) (w : World) : Prop :=
  match i with
  | 0 => v = .agg #[.slice (some ⟨o, 0, none⟩) 1 1]
  | 1 => v = .map mo
  | 2 => v = .pointer (some ⟨x1, 0, none⟩)
  | 3 => v = .int .u32 c0
  | 4 => SlR base c0 v w
  | 5 => v = .pointer (some ⟨x1, 1, none⟩)
  | 6 => v = .int .u32 c1
  | 7 => SlR base c1 v w
  | 8 => v = .pointer (some ⟨x1, 2, none⟩)
  | 9 => v = .int .u32 c2
  | 10 => SlR base c2 v w
  | 11 => v = .pointer (some ⟨x1, 3, none⟩)
  | 12 => v = .int .u32 c3
  | 13 => SlR base c3 v w
  | 14 => ∃ s0 s1 s2 s3, v = .agg #[s0, s1, s2, s3] ∧ Fld base c0 c1 c2 c3 s0 s1 s2 s3 w
  | 15 => MpR base v w
  | 16 => ∃ s0 s1 s2 s3 mp, v = .agg (renCells o mo s0 s1 s2 s3 mp) ∧ Fld base c0 c1 c2 c3 s0 s1 s2 s3 w ∧ MpR base mp w
  | _ => PtrR base o mo c0 c1 c2 c3 v w
def isMk (i : Nat) : Prop := i = 4 ∨ i = 7 ∨ i = 10 ∨ i = 13
def ND (i j : Nat) (u v : Value) : Prop := isMk i → isMk j → u ≠ v
theorem NF_grown (base x1 o : Nat) (mo : Option Nat) (c0 c1 c2 c3 : Nat) (i : Nat) (v : Value) (w w' : World) (hg : w.grownBy w' none) (h : NF base x1 o mo c0 c1 c2 c3 i v w) : NF base x1 o mo c0 c1 c2 c3 i v w' := by
  unfold NF at *
  split at h
  all_goals first
    | exact h
    | exact SlR.grown h hg
    | exact MpR.grown h hg
    | (obtain ⟨s0, s1, s2, s3, h1, h2⟩ := h; exact ⟨s0, s1, s2, s3, h1, h2.grown hg⟩)
    | (obtain ⟨s0, s1, s2, s3, mp, h1, h2, h3⟩ := h; exact ⟨s0, s1, s2, s3, mp, h1, h2.grown hg, h3.grown hg⟩)
    | (obtain ⟨br, s0, s1, s2, s3, mp, h1, h2, h3, h4, h5⟩ := h; exact ⟨br, s0, s1, s2, s3, mp, h1, h2, h3.grown hg (by simp), h4.grown hg, h5.grown hg⟩)
theorem NF_slr {base x1 o : Nat} {mo : Option Nat} {c0 c1 c2 c3 : Nat} {j : Nat} {u : Value} {w : World} (hj : isMk j) (h : NF base x1 o mo c0 c1 c2 c3 j u w) : ∃ g c, u = .slice (some ⟨g, 0, none⟩) c c ∧ g < w.heap.size := by
  rcases hj with rfl | rfl | rfl | rfl
  all_goals
    obtain ⟨g, h1, _, h3⟩ := h
    exact ⟨g, _, h1, h3.lt⟩
theorem ND_no {i j : Nat} {u v : Value} (h : ¬ isMk i) : ND i j u v ∧ ND j i v u := ⟨fun h1 _ => absurd h1 h, fun _ h1 => absurd h1 h⟩
theorem ND_new {base x1 o : Nat} {mo : Option Nat} {c0 c1 c2 c3 : Nat} {i j : Nat} {u : Value} {w : World} (c : Nat) (h : NF base x1 o mo c0 c1 c2 c3 j u w) : ND i j (.slice (some ⟨w.heap.size, 0, none⟩) c c) u ∧ ND j i u (.slice (some ⟨w.heap.size, 0, none⟩) c c) := by
  constructor
  · intro _ hj e
    obtain ⟨g, c', h1, h2⟩ := NF_slr hj h
    subst h1
    injection e with e
    have := congrArg (fun a : Option Addr => a.map (·.block)) e
    simp at this
    omega
  · intro hj _ e
    obtain ⟨g, c', h1, h2⟩ := NF_slr hj h
    subst h1
    injection e with e
    have := congrArg (fun a : Option Addr => a.map (·.block)) e
    simp at this
    omega
def NewPost (w : World) (o : Nat) (mo : Option Nat) (c0 c1 c2 c3 : Nat) (e : Ending) (w' : World) : Prop := ∃ v, e = .returned v ∧ PtrR w.heap.size o mo c0 c1 c2 c3 v w' ∧ w.grownBy w' none
set_option maxHeartbeats 4000000 in
set_option maxRecDepth 100000 in
theorem newR (o : Nat) (mo : Option Nat) (c0 c1 c2 c3 : Nat) (h0 : c0 ≤ 65536) (h1 : c1 ≤ 65536) (h2 : c2 ≤ 65536) (h3 : c3 ≤ 65536) (w : World) :
    Calls Try.prog 9 #[.agg #[.slice (some ⟨o, 0, none⟩) 1 1], .agg #[.int .u32 (c0 : Int), .int .u32 (c1 : Int), .int .u32 (c2 : Int), .int .u32 (c3 : Int)], .map mo] w (NewPost w o mo c0 c1 c2 c3) := by
  have m0 := mkSl_run c0 h0
  have m1 := mkSl_run c1 h1
  have m2 := mkSl_run c2 h2
  have m3 := mkSl_run c3 h3
  have hmm := @run_makeMap Try.prog
  go_enter Try.func9, Try.ntmps9
  go_wp2
  generalize hW : (w.alloc (.cells #[.slice (some ⟨o, 0, none⟩) 1 1] 30)).alloc (.cells #[.int .u32 (c0 : Int), .int .u32 (c1 : Int), .int .u32 (c2 : Int), .int .u32 (c3 : Int)] 35) = W
  have b0 : Blk W w.heap.size 30 #[.slice (some ⟨o, 0, none⟩) 1 1] := by rw [← hW]; exact (Blk.new w 30 #[.slice (some ⟨o, 0, none⟩) 1 1]).alloc _
  have b1 : Blk W (w.heap.size + 1) 35 #[.int .u32 (c0 : Int), .int .u32 (c1 : Int), .int .u32 (c2 : Int), .int .u32 (c3 : Int)] := by
    rw [← hW]; have := Blk.new (w.alloc (.cells #[.slice (some ⟨o, 0, none⟩) 1 1] 30)) 35 #[.int .u32 (c0 : Int), .int .u32 (c1 : Int), .int .u32 (c2 : Int), .int .u32 (c3 : Int)]; simpa using this
  have hgW : w.grownBy W none := by rw [← hW]; exact only_alloc (only_alloc (World.grownBy.refl _ _) _) _
  have hs : W.heap.size = w.heap.size + 2 := by rw [← hW]; simp
  refine wp_region_loose (by kernel_rfl) (by kernel_rfl) (by kernel_rfl) (fun u v => u.grownBy v none) (NF w.heap.size (w.heap.size + 1) o mo c0 c1 c2 c3) ND (World.grownBy.refl _ _) (fun a b h k => grown_tr h k) (fun i v a b => NF_grown _ _ _ _ _ _ _ _ _ _ _ _) ?hop ?he
  case hop =>
    refine ⟨?_, ?_, ?_, ?_, ?_, ?_, ?_, ?_, ?_, ?_, ?_, ?_, ?_, ?_, ?_, ?_, ?_, ?_, ?_, trivial⟩
    · intro a W1 hg hdf hsz hfr hdep hdd
      have e3 : a.tmps.getD 3 undef = .pointer (some ⟨w.heap.size, 0, none⟩) := hfr 3 (nodst_of (by kernel_rfl))
      have k0 : W1.cell? ⟨w.heap.size, 0, none⟩ = some (.slice (some ⟨o, 0, none⟩) 1 1) := (b0.drew.grown hg (by simp)).cell 0
      exact wp_of_run (v := .agg #[.slice (some ⟨o, 0, none⟩) 1 1]) (w' := W1) (by unfold execOp; simp only [Act.eval, e3]; go_simp) ⟨_, rfl, (World.grownBy.refl _ _), rfl, fun j u hj hu => ND_no (by unfold isMk; omega)⟩
    · intro a W1 hg hdf hsz hfr hdep hdd
      have e2 : a.tmps.getD 2 undef = .map mo := hfr 2 (nodst_of (by kernel_rfl))
      exact wp_of_run (v := .map mo) (w' := W1) (by unfold execOp; simp only [Act.eval, e2]; go_simp) ⟨_, rfl, (World.grownBy.refl _ _), rfl, fun j u hj hu => ND_no (by unfold isMk; omega)⟩
    · intro a W1 hg hdf hsz hfr hdep hdd
      have e4 : a.tmps.getD 4 undef = .pointer (some ⟨w.heap.size + 1, 0, none⟩) := hfr 4 (nodst_of (by kernel_rfl))
      exact wp_of_run (v := .pointer (some ⟨w.heap.size + 1, 0, none⟩)) (w' := W1) (by unfold execOp; simp only [Act.eval, e4]; go_simp) ⟨_, rfl, (World.grownBy.refl _ _), rfl, fun j u hj hu => ND_no (by unfold isMk; omega)⟩
    · intro a W1 hg hdf hsz hfr hdep hdd
      have hd := hdep ⟨2, .data⟩ (by simp) (by decide) _ _ rfl rfl
      have e : a.tmps.getD 9 undef = .pointer (some ⟨w.heap.size + 1, 0, none⟩) := hd
      have k0 : W1.cell? ⟨w.heap.size + 1, 0, none⟩ = some (.int .u32 (c0 : Int)) := (b1.drew.grown hg (by simp)).cell 0
      exact wp_of_run (v := .int .u32 (c0 : Int)) (w' := W1) (by unfold execOp; simp only [Act.eval, e]; go_simp) ⟨_, rfl, (World.grownBy.refl _ _), rfl, fun j u hj hu => ND_no (by unfold isMk; omega)⟩
    · intro a W1 hg hdf hsz hfr hdep hdd
      have hd := hdep ⟨3, .data⟩ (by simp) (by decide) _ _ rfl rfl
      have e : a.tmps.getD 10 undef = .int .u32 (c0 : Int) := hd
      exact wp_of_run (v := .slice (some ⟨W1.heap.size, 0, none⟩) c0 c0) (w' := W1.alloc (.cells (mkSl c0) 83)) (by unfold execOp; simp only [Act.eval, e]; go_simp) ⟨_, rfl, only_alloc (World.grownBy.refl _ _) _, ⟨_, rfl, (Nat.le_trans hgW.size hg.size), Blk.new _ _ _⟩, fun j u hj hu => ND_new c0 hu⟩
    · intro a W1 hg hdf hsz hfr hdep hdd
      have e4 : a.tmps.getD 4 undef = .pointer (some ⟨w.heap.size + 1, 0, none⟩) := hfr 4 (nodst_of (by kernel_rfl))
      exact wp_of_run (v := .pointer (some ⟨w.heap.size + 1, 1, none⟩)) (w' := W1) (by unfold execOp; simp only [Act.eval, e4]; go_simp) ⟨_, rfl, (World.grownBy.refl _ _), rfl, fun j u hj hu => ND_no (by unfold isMk; omega)⟩
    · intro a W1 hg hdf hsz hfr hdep hdd
      have hd := hdep ⟨5, .data⟩ (by simp) (by decide) _ _ rfl rfl
      have e : a.tmps.getD 12 undef = .pointer (some ⟨w.heap.size + 1, 1, none⟩) := hd
      have k0 : W1.cell? ⟨w.heap.size + 1, 1, none⟩ = some (.int .u32 (c1 : Int)) := (b1.drew.grown hg (by simp)).cell 1
      exact wp_of_run (v := .int .u32 (c1 : Int)) (w' := W1) (by unfold execOp; simp only [Act.eval, e]; go_simp) ⟨_, rfl, (World.grownBy.refl _ _), rfl, fun j u hj hu => ND_no (by unfold isMk; omega)⟩
    · intro a W1 hg hdf hsz hfr hdep hdd
      have hd := hdep ⟨6, .data⟩ (by simp) (by decide) _ _ rfl rfl
      have e : a.tmps.getD 13 undef = .int .u32 (c1 : Int) := hd
      exact wp_of_run (v := .slice (some ⟨W1.heap.size, 0, none⟩) c1 c1) (w' := W1.alloc (.cells (mkSl c1) 83)) (by unfold execOp; simp only [Act.eval, e]; go_simp) ⟨_, rfl, only_alloc (World.grownBy.refl _ _) _, ⟨_, rfl, (Nat.le_trans hgW.size hg.size), Blk.new _ _ _⟩, fun j u hj hu => ND_new c1 hu⟩
    · intro a W1 hg hdf hsz hfr hdep hdd
      have e4 : a.tmps.getD 4 undef = .pointer (some ⟨w.heap.size + 1, 0, none⟩) := hfr 4 (nodst_of (by kernel_rfl))
      exact wp_of_run (v := .pointer (some ⟨w.heap.size + 1, 2, none⟩)) (w' := W1) (by unfold execOp; simp only [Act.eval, e4]; go_simp) ⟨_, rfl, (World.grownBy.refl _ _), rfl, fun j u hj hu => ND_no (by unfold isMk; omega)⟩
    · intro a W1 hg hdf hsz hfr hdep hdd
      have hd := hdep ⟨8, .data⟩ (by simp) (by decide) _ _ rfl rfl
      have e : a.tmps.getD 15 undef = .pointer (some ⟨w.heap.size + 1, 2, none⟩) := hd
      have k0 : W1.cell? ⟨w.heap.size + 1, 2, none⟩ = some (.int .u32 (c2 : Int)) := (b1.drew.grown hg (by simp)).cell 2
      exact wp_of_run (v := .int .u32 (c2 : Int)) (w' := W1) (by unfold execOp; simp only [Act.eval, e]; go_simp) ⟨_, rfl, (World.grownBy.refl _ _), rfl, fun j u hj hu => ND_no (by unfold isMk; omega)⟩
    · intro a W1 hg hdf hsz hfr hdep hdd
      have hd := hdep ⟨9, .data⟩ (by simp) (by decide) _ _ rfl rfl
      have e : a.tmps.getD 16 undef = .int .u32 (c2 : Int) := hd
      exact wp_of_run (v := .slice (some ⟨W1.heap.size, 0, none⟩) c2 c2) (w' := W1.alloc (.cells (mkSl c2) 83)) (by unfold execOp; simp only [Act.eval, e]; go_simp) ⟨_, rfl, only_alloc (World.grownBy.refl _ _) _, ⟨_, rfl, (Nat.le_trans hgW.size hg.size), Blk.new _ _ _⟩, fun j u hj hu => ND_new c2 hu⟩
    · intro a W1 hg hdf hsz hfr hdep hdd
      have e4 : a.tmps.getD 4 undef = .pointer (some ⟨w.heap.size + 1, 0, none⟩) := hfr 4 (nodst_of (by kernel_rfl))
      exact wp_of_run (v := .pointer (some ⟨w.heap.size + 1, 3, none⟩)) (w' := W1) (by unfold execOp; simp only [Act.eval, e4]; go_simp) ⟨_, rfl, (World.grownBy.refl _ _), rfl, fun j u hj hu => ND_no (by unfold isMk; omega)⟩
    · intro a W1 hg hdf hsz hfr hdep hdd
      have hd := hdep ⟨11, .data⟩ (by simp) (by decide) _ _ rfl rfl
      have e : a.tmps.getD 18 undef = .pointer (some ⟨w.heap.size + 1, 3, none⟩) := hd
      have k0 : W1.cell? ⟨w.heap.size + 1, 3, none⟩ = some (.int .u32 (c3 : Int)) := (b1.drew.grown hg (by simp)).cell 3
      exact wp_of_run (v := .int .u32 (c3 : Int)) (w' := W1) (by unfold execOp; simp only [Act.eval, e]; go_simp) ⟨_, rfl, (World.grownBy.refl _ _), rfl, fun j u hj hu => ND_no (by unfold isMk; omega)⟩
    · intro a W1 hg hdf hsz hfr hdep hdd
      have hd := hdep ⟨12, .data⟩ (by simp) (by decide) _ _ rfl rfl
      have e : a.tmps.getD 19 undef = .int .u32 (c3 : Int) := hd
      exact wp_of_run (v := .slice (some ⟨W1.heap.size, 0, none⟩) c3 c3) (w' := W1.alloc (.cells (mkSl c3) 83)) (by unfold execOp; simp only [Act.eval, e]; go_simp) ⟨_, rfl, only_alloc (World.grownBy.refl _ _) _, ⟨_, rfl, (Nat.le_trans hgW.size hg.size), Blk.new _ _ _⟩, fun j u hj hu => ND_new c3 hu⟩
    · intro a W1 hg hdf hsz hfr hdep hdd
      have h0x := hdep ⟨4, .data⟩ (by simp) (by decide) _ _ rfl rfl
      generalize hv0 : a.tmps.getD 11 undef = s0 at h0x
      have h1x := hdep ⟨7, .data⟩ (by simp) (by decide) _ _ rfl rfl
      generalize hv1 : a.tmps.getD 14 undef = s1 at h1x
      have h2x := hdep ⟨10, .data⟩ (by simp) (by decide) _ _ rfl rfl
      generalize hv2 : a.tmps.getD 17 undef = s2 at h2x
      have h3x := hdep ⟨13, .data⟩ (by simp) (by decide) _ _ rfl rfl
      generalize hv3 : a.tmps.getD 20 undef = s3 at h3x
      have q11 : ∀ h : 11 < a.tmps.size, a.tmps[11]'h = s0 := fun h => by rw [← hv0, Array.getD_eq_getD_getElem?, Array.getElem?_eq_getElem h]; rfl
      have q14 : ∀ h : 14 < a.tmps.size, a.tmps[14]'h = s1 := fun h => by rw [← hv1, Array.getD_eq_getD_getElem?, Array.getElem?_eq_getElem h]; rfl
      have q17 : ∀ h : 17 < a.tmps.size, a.tmps[17]'h = s2 := fun h => by rw [← hv2, Array.getD_eq_getD_getElem?, Array.getElem?_eq_getElem h]; rfl
      have q20 : ∀ h : 20 < a.tmps.size, a.tmps[20]'h = s3 := fun h => by rw [← hv3, Array.getD_eq_getD_getElem?, Array.getElem?_eq_getElem h]; rfl
      have F0 : Fld w.heap.size c0 c1 c2 c3 s0 s1 s2 s3 W1 := ⟨h0x, h1x, h2x, h3x, by rw [← hv0, ← hv1]; exact hdd ⟨4, .data⟩ (by simp) ⟨7, .data⟩ (by simp) (by decide) (by decide) (by decide) _ _ _ _ rfl rfl rfl rfl (.inl rfl) (.inr (.inl rfl)), by rw [← hv0, ← hv2]; exact hdd ⟨4, .data⟩ (by simp) ⟨10, .data⟩ (by simp) (by decide) (by decide) (by decide) _ _ _ _ rfl rfl rfl rfl (.inl rfl) (.inr (.inr (.inl rfl))), by rw [← hv0, ← hv3]; exact hdd ⟨4, .data⟩ (by simp) ⟨13, .data⟩ (by simp) (by decide) (by decide) (by decide) _ _ _ _ rfl rfl rfl rfl (.inl rfl) (.inr (.inr (.inr rfl))), by rw [← hv1, ← hv2]; exact hdd ⟨7, .data⟩ (by simp) ⟨10, .data⟩ (by simp) (by decide) (by decide) (by decide) _ _ _ _ rfl rfl rfl rfl (.inr (.inl rfl)) (.inr (.inr (.inl rfl))), by rw [← hv1, ← hv3]; exact hdd ⟨7, .data⟩ (by simp) ⟨13, .data⟩ (by simp) (by decide) (by decide) (by decide) _ _ _ _ rfl rfl rfl rfl (.inr (.inl rfl)) (.inr (.inr (.inr rfl))), by rw [← hv2, ← hv3]; exact hdd ⟨10, .data⟩ (by simp) ⟨13, .data⟩ (by simp) (by decide) (by decide) (by decide) _ _ _ _ rfl rfl rfl rfl (.inr (.inr (.inl rfl))) (.inr (.inr (.inr rfl)))⟩
      exact wp_of_run (v := .agg #[s0, s1, s2, s3]) (w' := W1) (by unfold execOp; obtain ⟨_, rfl, _⟩ := h0x; obtain ⟨_, rfl, _⟩ := h1x; obtain ⟨_, rfl, _⟩ := h2x; obtain ⟨_, rfl, _⟩ := h3x; go_simp) ⟨_, rfl, (World.grownBy.refl _ _), ⟨s0, s1, s2, s3, rfl, F0⟩, fun j u hj hu => ND_no (by unfold isMk; omega)⟩
    · intro a W1 hg hdf hsz hfr hdep hdd
      exact wp_of_run (v := .map (some W1.heap.size)) (w' := W1.alloc (.map #[] 0)) (by unfold execOp; go_simp) ⟨_, rfl, only_alloc (World.grownBy.refl _ _) _, ⟨_, rfl, (Nat.le_trans hgW.size hg.size), heap_alloc_new _ _⟩, fun j u hj hu => ND_no (by unfold isMk; omega)⟩
    · intro a W1 hg hdf hsz hfr hdep hdd
      have d0 := hdep ⟨0, .data⟩ (by simp) (by decide) _ _ rfl rfl
      have d1 := hdep ⟨1, .data⟩ (by simp) (by decide) _ _ rfl rfl
      have d2 := hdep ⟨14, .data⟩ (by simp) (by decide) _ _ rfl rfl
      have d3 := hdep ⟨15, .data⟩ (by simp) (by decide) _ _ rfl rfl
      replace d0 : a.tmps.getD 7 undef = .agg #[.slice (some ⟨o, 0, none⟩) 1 1] := d0
      replace d1 : a.tmps.getD 8 undef = .map mo := d1
      obtain ⟨s0, s1, s2, s3, e2, F0⟩ : ∃ s0 s1 s2 s3, a.tmps.getD 21 undef = .agg #[s0, s1, s2, s3] ∧ Fld w.heap.size c0 c1 c2 c3 s0 s1 s2 s3 W1 := d2
      replace d3 : MpR w.heap.size (a.tmps.getD 22 undef) W1 := d3
      generalize hv : a.tmps.getD 22 undef = mp at d3
      have q7 : ∀ h : 7 < a.tmps.size, a.tmps[7]'h = .agg #[.slice (some ⟨o, 0, none⟩) 1 1] := fun h => by rw [← d0, Array.getD_eq_getD_getElem?, Array.getElem?_eq_getElem h]; rfl
      have q8 : ∀ h : 8 < a.tmps.size, a.tmps[8]'h = .map mo := fun h => by rw [← d1, Array.getD_eq_getD_getElem?, Array.getElem?_eq_getElem h]; rfl
      have q21 : ∀ h : 21 < a.tmps.size, a.tmps[21]'h = .agg #[s0, s1, s2, s3] := fun h => by rw [← e2, Array.getD_eq_getD_getElem?, Array.getElem?_eq_getElem h]; rfl
      have q22 : ∀ h : 22 < a.tmps.size, a.tmps[22]'h = mp := fun h => by rw [← hv, Array.getD_eq_getD_getElem?, Array.getElem?_eq_getElem h]; rfl
      exact wp_of_run (v := .agg (renCells o mo s0 s1 s2 s3 mp)) (w' := W1) (by unfold execOp; obtain ⟨_, rfl, _⟩ := F0.r0; obtain ⟨_, rfl, _⟩ := F0.r1; obtain ⟨_, rfl, _⟩ := F0.r2; obtain ⟨_, rfl, _⟩ := F0.r3; obtain ⟨_, rfl, _⟩ := d3; go_simp; rfl) ⟨_, rfl, (World.grownBy.refl _ _), ⟨s0, s1, s2, s3, mp, rfl, F0, d3⟩, fun j u hj hu => ND_no (by unfold isMk; omega)⟩
    · intro a W1 hg hdf hsz hfr hdep hdd
      have d0 := hdep ⟨16, .data⟩ (by simp) (by decide) _ _ rfl rfl
      obtain ⟨s0, s1, s2, s3, mp, e2, F0, M0⟩ : ∃ s0 s1 s2 s3 mp, a.tmps.getD 23 undef = .agg (renCells o mo s0 s1 s2 s3 mp) ∧ Fld w.heap.size c0 c1 c2 c3 s0 s1 s2 s3 W1 ∧ MpR w.heap.size mp W1 := d0
      have hga : W1.grownBy (W1.alloc (.cells (renCells o mo s0 s1 s2 s3 mp) 76)) none := only_alloc (World.grownBy.refl _ _) _
      exact wp_of_run (v := .pointer (some ⟨W1.heap.size, 0, none⟩)) (w' := W1.alloc (.cells (renCells o mo s0 s1 s2 s3 mp) 76)) (by unfold execOp; simp only [Act.eval, e2]; go_simp) ⟨_, rfl, hga, ⟨_, s0, s1, s2, s3, mp, rfl, (Nat.le_trans hgW.size hg.size), Blk.new _ _ _, F0.grown hga, M0.grown hga⟩, fun j u hj hu => ND_no (by unfold isMk; omega)⟩
    · intro a W1 hg hdf hsz hfr hdep hdd
      have d0 := hdep ⟨17, .data⟩ (by simp) (by decide) _ _ rfl rfl
      replace d0 : PtrR w.heap.size o mo c0 c1 c2 c3 (a.tmps.getD 24 undef) W1 := d0
      exact wp_of_run (v := a.tmps.getD 24 undef) (w' := W1) (by unfold execOp; simp only [Act.eval]; go_simp) ⟨_, rfl, (World.grownBy.refl _ _), d0, fun j u hj hu => ND_no (by unfold isMk; omega)⟩
  case he =>
    intro a W2 hg hdf hsz hfr hall
    have hp : PtrR w.heap.size o mo c0 c1 c2 c3 (a.tmps.getD 6 undef) W2 := hall 18 _ 6 rfl rfl
    obtain ⟨t, df⟩ := a
    obtain rfl : df = [] := hdf
    clear hall hfr
    have HP := Lib.hid hp
    have HG := Lib.hid (grown_tr hgW (grown_tr (only_drew (World.grownBy.refl W none)) hg))
    clear hp hg hgW
    go_wp2
    go_ret
    exact ⟨_, rfl, HP.out, HG.out⟩
end Go.Proofs.Ytlpmkbdglpnjhaa
