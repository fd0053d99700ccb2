/- applyOptionDefaults (written by mkopa.py). -/
import Derived.Test.YtjellcldojmpcaaOmp
namespace Go.Proofs.Ytjellcldojmpcaa
open Go.RowKit Go.Maps Go.WideMaps
set_option linter.unusedVariables false
set_option linter.unusedSimpArgs false

def jsB : ByteArray := ⟨#[46, 106, 115]⟩
def cssB : ByteArray := ⟨#[46, 99, 115, 115]⟩
def dotS : ByteArray := ⟨#[46, 47]⟩
def slaB : ByteArray := ⟨#[47]⟩
def dashB : ByteArray := ⟨#[45]⟩
def dflt (x d : ByteArray) : ByteArray := bif x.toList.isEmpty then d else x
def MapRel (M M1 : Value) (W : World) : Prop := (M ≠ .map none ∧ M1 = M) ∨ (M = .map none ∧ ∃ g, M1 = .map (some g) ∧ MapIs W g 13 D13)
/-- A slice of two templates. -/
def Tm2 (v : Value) (a : ByteArray) (x : Int) (b : ByteArray) (y : Int) (W : World) : Prop := ∃ g, v = .slice (some ⟨g, 0, none⟩) 2 2 ∧ Blk W g 94 #[.string a, .int .u8 x, .string b, .int .u8 y]
def TRel (n : Nat) (E E1 : Value) (a : ByteArray) (x : Int) (b : ByteArray) (y : Int) (W : World) : Prop := (n ≠ 0 ∧ E1 = E) ∨ (n = 0 ∧ Tm2 E1 a x b y W)
def OptSt.six (S : OptSt) : OptSt := (((((S.fix 8#64 144115188092633104#64).fix 536870912#64 16#64).fix 8796093022208#64 4352#64).fix 128#64 1024#64).fix 65536#64 8192#64).fix 64#64 130944#64
def IS : BitVec 64 := 68719476736#64
def IY : BitVec 16 := 64#16
def OptSt.plat (S : OptSt) : OptSt := bif S.pl != 0 then { S with f := (bif meets S.m IS then S.f else S.f ||| IS), c := (bif meets S.cm IY then S.c else S.c ||| IY) } else S
def OptSt.fin (S : OptSt) (M E C A : Value) : OptSt := ({ S with M := M, js := dflt S.js jsB, css := dflt S.css cssB, E := E, C := C, A := A, pr := !S.mi } : OptSt).six.plat
def ApPost (b : Nat) (S : OptSt) (n1 n2 n3 : Nat) (w : World) (e : Ending) (w' : World) : Prop :=
  ∃ M E C A, e = .returned (.tuple #[]) ∧ OptIs b (S.fin M E C A) w' ∧ OFr b w w' ∧ (∀ W, OFr b w' W → MapRel S.M M W) ∧ (∀ W, OFr b w' W → TRel n1 S.E E dotS 1 slaB 2 W) ∧ (∀ W, OFr b w' W → TRel n2 S.C C dotS 2 dashB 3 W) ∧ (∀ W, OFr b w' W → TRel n3 S.A A dotS 2 dashB 3 W)
theorem MapRel.keep {b : Nat} {M M1 : Value} {w1 : World} (h : ∀ W, OFr b w1 W → MapRel M M1 W) {w2 : World} (h12 : OFr b w1 w2) : ∀ W, OFr b w2 W → MapRel M M1 W := fun W hW => h W (h12.trans hW)
theorem OFr.none {b : Nat} {w w' : World} (h : w.grownBy w' none) : OFr b w w' := ⟨h.os, h.tape, h.output, h.size, fun i hi hne => h.block i hi (by simp)⟩
theorem has64_lit (x y : BitVec 64) (yi : Int) (hy : (y.toNat : Int) = yi) (w : World) : Calls Try.prog 20 #[.int .u64 (x.toNat : Int), .int .u64 yi] w fun e w' => e = .returned (.bool (meets x y)) ∧ w = w' := by
  rw [← hy]; exact has64 x y w
theorem has16_lit (x y : BitVec 16) (yi : Int) (hy : (y.toNat : Int) = yi) (w : World) : Calls Try.prog 21 #[.int .u16 (x.toNat : Int), .int .u16 yi] w fun e w' => e = .returned (.bool (meets x y)) ∧ w = w' := by
  rw [← hy]; exact has16 x y w
theorem fix_lit (b : Nat) (S : OptSt) (a d : BitVec 64) (ai di : Int) (ha : (a.toNat : Int) = ai) (hd : (d.toNat : Int) = di) (w : World) (h : OptIs b S w) :
    Calls Try.prog 19 #[.pointer (some ⟨b, 0, none⟩), .int .u64 ai, .int .u64 di] w (FixPost b (S.fix a d) w) := by
  rw [← ha, ← hd]; exact fix_any b S a d w h
set_option maxHeartbeats 4000000 in
set_option maxRecDepth 100000 in
theorem ap_any (b : Nat) (S : OptSt) (mo : Option Nat) (hM : S.M = .map mo) (A1 A2 A3 : Option Addr) (n1 n2 n3 c1 c2 c3 : Nat) (hE : S.E = .slice A1 n1 c1) (hC : S.C = .slice A2 n2 c2) (hA : S.A = .slice A3 n3 c3) (w : World) (h : OptIs b S w) :
    Calls Try.prog 15 #[.pointer (some ⟨b, 0, none⟩)] w (ApPost b S n1 n2 n3 w) := by
  have H0 := Lib.hid h
  have c30 := h.c30
  rw [hM] at c30
  have z30 := h.frozen 30
  have HM := Lib.hid hM
  have HE := Lib.hid hE; have HC := Lib.hid hC; have HA := Lib.hid hA
  have hpt1 : ∀ (a : ByteArray) (x : Int) (W : World), (Instr.build 94 #[(0, .string a), (1, .int .u8 x)]).run Try.prog W = .ok (.agg #[.string a, .int .u8 x]) W := fun a x W => run_build W _ _ _ (by kernel_rfl)
  clear h hE hC hA hM
  have heq : ∀ W : World, (binOp BinOp.eql 46 (.map mo) (.map none)).run Try.prog W = .ok (.bool mo.isNone) W := fun W => by cases mo <;> kernel_rfl
  go_enter Try.func15, Try.ntmps15
  go_upto_if 6 with fail
  go_cut [] (fun wx => ∃ M : Value, OptIs b { S with M := M } wx ∧ OFr b w wx ∧ ∀ W, OFr b wx W → MapRel S.M M W)
  case first =>
    cases mo with
    | none =>
      go_wp2_with (go_at_call 18; refine (dm_any w).mono ?_; rintro e wd ⟨g, rfl, hg, hm, hgr⟩; have HMP := Lib.hid hm; have HGR := Lib.hid (OFr.none (b := b) hgr); have HGE := Lib.hid hg; have HD : Hid (OptIs b S wd) := Lib.hid (H0.out.same (hgr.block b H0.out.lt (by simp))); have c30 := HD.out.c30; rw [HM.out] at c30; have z30 := HD.out.frozen 30; clear hg hm hgr)
      go_meet
      refine ⟨_, HD.out.s30 (.map (some g)), HGR.out.set 30 _, fun W hW => .inr ⟨HM.out, g, rfl, ?_⟩⟩
      have h1 : g ≠ b := by have := H0.out.lt; have := HGE.out; omega
      exact ((HMP.out).setCell (fun e => h1 e) _).kept hW (by simpa using h1)
    | some g =>
      go_wp2
      go_meet
      refine ⟨S.M, H0.out, OFr.refl _ _, fun W hW => .inl ⟨by rw [HM.out]; simp, rfl⟩⟩
  case rest =>
    obtain ⟨M, ho, hf, hm⟩ := hcut
    have HO1 := Lib.hid ho; have HF1 := Lib.hid hf; have HMR := Lib.hid hm
    clear ho hf hm c30 z30
    obtain ⟨S1, hS1⟩ : ∃ T : OptSt, T = { S with M := M } := ⟨_, rfl⟩
    rw [← hS1] at HO1
    have HS1 := Lib.hid hS1
    clear hS1
    have c25 := HO1.out.c25
    have z25 := HO1.out.frozen 25
    go_upto_if 15 with fail
    go_cut [] (fun wx => OptIs b { S1 with js := dflt S1.js jsB } wx ∧ OFr b wc wx)
    case first =>
      cases hz : S1.js.toList.isEmpty
      · have HZ := Lib.hid hz
        go_wp2
        go_meet
        have e : ({ S1 with js := dflt S1.js jsB } : OptSt) = S1 := by unfold dflt; rw [HZ.out]; rfl
        rw [e]
        exact ⟨HO1.out, OFr.refl _ _⟩
      · have HZ := Lib.hid hz
        go_wp2
        go_meet
        have e : dflt S1.js jsB = jsB := by unfold dflt; rw [HZ.out]; rfl
        rw [e]
        exact ⟨HO1.out.s25 jsB, (OFr.refl _ _).set 25 _⟩
    case rest =>
      obtain ⟨ho, hf⟩ := hcut
      rename_i wc
      have HO2 := Lib.hid ho; have HF2 := Lib.hid (HF1.out.trans hf)
      have HMR : Hid (∀ W, OFr b wc W → MapRel S.M M W) := Lib.hid (fun W hW => HMR.out W (hf.trans hW))
      clear ho hf c25 z25
      obtain ⟨S2, hS2⟩ : ∃ T : OptSt, T = { S1 with js := dflt S1.js jsB } := ⟨_, rfl⟩
      rw [← hS2] at HO2
      have HS2 := Lib.hid hS2
      clear hS2
      have c26 := HO2.out.c26
      have z26 := HO2.out.frozen 26
      go_upto_if 23 with fail
      go_cut [] (fun wx => OptIs b { S2 with css := dflt S2.css cssB } wx ∧ OFr b wc wx)
      case first =>
        cases hz : S2.css.toList.isEmpty
        · have HZ := Lib.hid hz
          go_wp2
          go_meet
          have e : ({ S2 with css := dflt S2.css cssB } : OptSt) = S2 := by unfold dflt; rw [HZ.out]; rfl
          rw [e]
          exact ⟨HO2.out, OFr.refl _ _⟩
        · have HZ := Lib.hid hz
          go_wp2
          go_meet
          have e : dflt S2.css cssB = cssB := by unfold dflt; rw [HZ.out]; rfl
          rw [e]
          exact ⟨HO2.out.s26 cssB, (OFr.refl _ _).set 26 _⟩
      case rest =>
        obtain ⟨ho, hf⟩ := hcut
        rename_i wc
        have HO3 := Lib.hid ho; have HF3 := Lib.hid (HF2.out.trans hf)
        have HMR : Hid (∀ W, OFr b wc W → MapRel S.M M W) := Lib.hid (fun W hW => HMR.out W (hf.trans hW))
        clear ho hf c26 z26
        obtain ⟨S3, hS3⟩ : ∃ T : OptSt, T = { S2 with css := dflt S2.css cssB } := ⟨_, rfl⟩
        rw [← hS3] at HO3
        have HS3 := Lib.hid hS3
        clear hS3
        have HQ3 : Hid (S3.E = S.E) := Lib.hid (by rw [HS3.out, HS2.out, HS1.out])
        have c39 : wc.cell? ⟨b, 39, none⟩ = some (.slice A1 n1 c1) := by rw [HO3.out.c39, HQ3.out, HE.out]
        have z39 := HO3.out.frozen 39
        have hlt := HO3.out.lt
        go_upto_if 32 with fail
        go_cut [] (fun wx => ∃ E : Value, OptIs b { S3 with E := E } wx ∧ OFr b wc wx ∧ ∀ W, OFr b wx W → TRel n1 S.E E dotS 1 slaB 2 W)
        case first =>
          by_cases hz : n1 = 0
          · subst hz
            go_wp2
            go_meet
            refine ⟨_, (HO3.out.s39 _).alloc _, ((OFr.refl _ _).set 39 _).alloc _, fun W hW => .inr ⟨rfl, wc.heap.size, rfl, ?_⟩⟩
            have hne : wc.heap.size ≠ b := by omega
            have hb := Blk.new (wc.setCell ⟨b, 39, none⟩ (.slice (some ⟨wc.heap.size, 0, none⟩) 2 2)) 94 #[.string dotS, .int .u8 1, .string slaB, .int .u8 2]
            have e : (wc.setCell ⟨b, 39, none⟩ (.slice (some ⟨wc.heap.size, 0, none⟩) 2 2)).heap.size = wc.heap.size := by simp
            rw [e] at hb
            exact hb.grown hW (by simpa using hne)
          · have hz' : ((n1 : Int) == 0) = false := by simpa using hz
            have HZ := Lib.hid hz
            clear hz
            go_wp2
            go_meet
            exact ⟨S3.E, HO3.out, OFr.refl _ _, fun W hW => .inl ⟨HZ.out, HQ3.out⟩⟩
        case rest =>
          obtain ⟨E3, ho, hf, hm⟩ := hcut
          rename_i wc
          have HO4 := Lib.hid ho; have HF4 := Lib.hid (HF3.out.trans hf); have HT3 := Lib.hid hm
          have HMR : Hid (∀ W, OFr b wc W → MapRel S.M M W) := Lib.hid (fun W hW => HMR.out W (hf.trans hW))
          clear ho hf hm c39 z39 hlt
          obtain ⟨S4, hS4⟩ : ∃ T : OptSt, T = { S3 with E := E3 } := ⟨_, rfl⟩
          rw [← hS4] at HO4
          have HS4 := Lib.hid hS4
          clear hS4
          have HQ4 : Hid (S4.C = S.C) := Lib.hid (by rw [HS4.out, HS3.out, HS2.out, HS1.out])
          have c40 : wc.cell? ⟨b, 40, none⟩ = some (.slice A2 n2 c2) := by rw [HO4.out.c40, HQ4.out, HC.out]
          have z40 := HO4.out.frozen 40
          have hlt := HO4.out.lt
          go_upto_if 44 with fail
          go_cut [] (fun wx => ∃ E : Value, OptIs b { S4 with C := E } wx ∧ OFr b wc wx ∧ ∀ W, OFr b wx W → TRel n2 S.C E dotS 2 dashB 3 W)
          case first =>
            by_cases hz : n2 = 0
            · subst hz
              go_wp2
              go_meet
              refine ⟨_, (HO4.out.s40 _).alloc _, ((OFr.refl _ _).set 40 _).alloc _, fun W hW => .inr ⟨rfl, wc.heap.size, rfl, ?_⟩⟩
              have hne : wc.heap.size ≠ b := by omega
              have hb := Blk.new (wc.setCell ⟨b, 40, none⟩ (.slice (some ⟨wc.heap.size, 0, none⟩) 2 2)) 94 #[.string dotS, .int .u8 2, .string dashB, .int .u8 3]
              have e : (wc.setCell ⟨b, 40, none⟩ (.slice (some ⟨wc.heap.size, 0, none⟩) 2 2)).heap.size = wc.heap.size := by simp
              rw [e] at hb
              exact hb.grown hW (by simpa using hne)
            · have hz' : ((n2 : Int) == 0) = false := by simpa using hz
              have HZ := Lib.hid hz
              clear hz
              go_wp2
              go_meet
              exact ⟨S4.C, HO4.out, OFr.refl _ _, fun W hW => .inl ⟨HZ.out, HQ4.out⟩⟩
          case rest =>
            obtain ⟨E4, ho, hf, hm⟩ := hcut
            rename_i wc
            have HO5 := Lib.hid ho; have HF5 := Lib.hid (HF4.out.trans hf); have HT4 := Lib.hid hm
            have HMR : Hid (∀ W, OFr b wc W → MapRel S.M M W) := Lib.hid (fun W hW => HMR.out W (hf.trans hW))
            have HT3 : Hid (∀ W, OFr b wc W → TRel n1 S.E E3 dotS 1 slaB 2 W) := Lib.hid (fun W hW => HT3.out W (hf.trans hW))
            clear ho hf hm c40 z40 hlt
            obtain ⟨S5, hS5⟩ : ∃ T : OptSt, T = { S4 with C := E4 } := ⟨_, rfl⟩
            rw [← hS5] at HO5
            have HS5 := Lib.hid hS5
            clear hS5
            have HQ5 : Hid (S5.A = S.A) := Lib.hid (by rw [HS5.out, HS4.out, HS3.out, HS2.out, HS1.out])
            have c41 : wc.cell? ⟨b, 41, none⟩ = some (.slice A3 n3 c3) := by rw [HO5.out.c41, HQ5.out, HA.out]
            have z41 := HO5.out.frozen 41
            have hlt := HO5.out.lt
            go_upto_if 56 with fail
            go_cut [] (fun wx => ∃ E : Value, OptIs b { S5 with A := E } wx ∧ OFr b wc wx ∧ ∀ W, OFr b wx W → TRel n3 S.A E dotS 2 dashB 3 W)
            case first =>
              by_cases hz : n3 = 0
              · subst hz
                go_wp2
                go_meet
                refine ⟨_, (HO5.out.s41 _).alloc _, ((OFr.refl _ _).set 41 _).alloc _, fun W hW => .inr ⟨rfl, wc.heap.size, rfl, ?_⟩⟩
                have hne : wc.heap.size ≠ b := by omega
                have hb := Blk.new (wc.setCell ⟨b, 41, none⟩ (.slice (some ⟨wc.heap.size, 0, none⟩) 2 2)) 94 #[.string dotS, .int .u8 2, .string dashB, .int .u8 3]
                have e : (wc.setCell ⟨b, 41, none⟩ (.slice (some ⟨wc.heap.size, 0, none⟩) 2 2)).heap.size = wc.heap.size := by simp
                rw [e] at hb
                exact hb.grown hW (by simpa using hne)
              · have hz' : ((n3 : Int) == 0) = false := by simpa using hz
                have HZ := Lib.hid hz
                clear hz
                go_wp2
                go_meet
                exact ⟨S5.A, HO5.out, OFr.refl _ _, fun W hW => .inl ⟨HZ.out, HQ5.out⟩⟩
            case rest =>
              obtain ⟨E5, ho, hf, hm⟩ := hcut
              rename_i wc
              have HO6 := Lib.hid ho; have HF6 := Lib.hid (HF5.out.trans hf); have HT5 := Lib.hid hm
              have HMR : Hid (∀ W, OFr b wc W → MapRel S.M M W) := Lib.hid (fun W hW => HMR.out W (hf.trans hW))
              have HT3 : Hid (∀ W, OFr b wc W → TRel n1 S.E E3 dotS 1 slaB 2 W) := Lib.hid (fun W hW => HT3.out W (hf.trans hW))
              have HT4 : Hid (∀ W, OFr b wc W → TRel n2 S.C E4 dotS 2 dashB 3 W) := Lib.hid (fun W hW => HT4.out W (hf.trans hW))
              clear ho hf hm c41 z41 hlt
              obtain ⟨S6, hS6⟩ : ∃ T : OptSt, T = { S5 with A := E5 } := ⟨_, rfl⟩
              rw [← hS6] at HO6
              have HS6 := Lib.hid hS6
              clear hS6
              have c76 := HO6.out.c76; have c78 := HO6.out.c78; have z78 := HO6.out.frozen 78
              have HO7 := Lib.hid (HO6.out.s78 (!S6.mi))
              have HF7 := Lib.hid (HF6.out.set 78 (.bool (!S6.mi)))
              have HG7 := Lib.hid ((OFr.refl b wc).set 78 (.bool (!S6.mi)))
              go_upto_region 13 with fail
              have FX0 := Lib.hid (fix_lit b _ 8#64 144115188092633104#64 8 144115188092633104 (by kernel_rfl) (by kernel_rfl) (wc.setCell ⟨b, 78, none⟩ (.bool (!S6.mi))) HO7.out)
              go_upto_region 14 with (go_at_call 19; refine FX0.out.mono ?_; rintro e wf1 ⟨rfl, ho, hf⟩; have HO8 := Lib.hid ho; have HF8 := Lib.hid (HF7.out.trans hf); have HG8 := Lib.hid (HG7.out.trans hf); clear ho hf)
              clear FX0
              have FX1 := Lib.hid (fix_lit b _ 536870912#64 16#64 536870912 16 (by kernel_rfl) (by kernel_rfl) wf1 HO8.out)
              go_upto_region 15 with (go_at_call 19; refine FX1.out.mono ?_; rintro e wf2 ⟨rfl, ho, hf⟩; have HO9 := Lib.hid ho; have HF9 := Lib.hid (HF8.out.trans hf); have HG9 := Lib.hid (HG8.out.trans hf); clear ho hf)
              clear FX1
              have FX2 := Lib.hid (fix_lit b _ 8796093022208#64 4352#64 8796093022208 4352 (by kernel_rfl) (by kernel_rfl) wf2 HO9.out)
              go_upto_region 16 with (go_at_call 19; refine FX2.out.mono ?_; rintro e wf3 ⟨rfl, ho, hf⟩; have HO10 := Lib.hid ho; have HF10 := Lib.hid (HF9.out.trans hf); have HG10 := Lib.hid (HG9.out.trans hf); clear ho hf)
              clear FX2
              have FX3 := Lib.hid (fix_lit b _ 128#64 1024#64 128 1024 (by kernel_rfl) (by kernel_rfl) wf3 HO10.out)
              go_upto_region 17 with (go_at_call 19; refine FX3.out.mono ?_; rintro e wf4 ⟨rfl, ho, hf⟩; have HO11 := Lib.hid ho; have HF11 := Lib.hid (HF10.out.trans hf); have HG11 := Lib.hid (HG10.out.trans hf); clear ho hf)
              clear FX3
              have FX4 := Lib.hid (fix_lit b _ 65536#64 8192#64 65536 8192 (by kernel_rfl) (by kernel_rfl) wf4 HO11.out)
              go_upto_region 18 with (go_at_call 19; refine FX4.out.mono ?_; rintro e wf5 ⟨rfl, ho, hf⟩; have HO12 := Lib.hid ho; have HF12 := Lib.hid (HF11.out.trans hf); have HG12 := Lib.hid (HG11.out.trans hf); clear ho hf)
              clear FX4
              have FX5 := Lib.hid (fix_lit b _ 64#64 130944#64 64 130944 (by kernel_rfl) (by kernel_rfl) wf5 HO12.out)
              go_upto_region 19 with (go_at_call 19; refine FX5.out.mono ?_; rintro e wf6 ⟨rfl, ho, hf⟩; have HO13 := Lib.hid ho; have HF13 := Lib.hid (HF12.out.trans hf); have HG13 := Lib.hid (HG12.out.trans hf); clear ho hf)
              clear FX5
              clear c76 c78 z78
              obtain ⟨T, hT⟩ : ∃ T : OptSt, T = OptSt.six { S6 with pr := !S6.mi } := ⟨_, rfl⟩
              have HT := Lib.hid hT
              have HOT : Hid (OptIs b T wf6) := Lib.hid (by rw [hT]; exact HO13.out)
              clear hT
              have c97 := HOT.out.c97; have c62 := HOT.out.c62; have c64 := HOT.out.c64; have c59 := HOT.out.c59; have c60 := HOT.out.c60
              have z59 := HOT.out.frozen 59; have z60 := HOT.out.frozen 60
              have HFIN : Hid (S.fin M E3 E4 E5 = T.plat) := Lib.hid (by rw [HT.out]; unfold OptSt.fin; rw [HS6.out, HS5.out, HS4.out, HS3.out, HS2.out, HS1.out])
              have HEND : Hid (∀ wz, OptIs b T.plat wz → OFr b wf6 wz → ApPost b S n1 n2 n3 w (.returned (.tuple #[])) wz) := Lib.hid (fun wz h1 h2 => ⟨M, E3, E4, E5, rfl, by rw [HFIN.out]; exact h1, HF13.out.trans h2, fun W hW => HMR.out W ((HG13.out.trans h2).trans hW), fun W hW => HT3.out W ((HG13.out.trans h2).trans hW), fun W hW => HT4.out W ((HG13.out.trans h2).trans hW), fun W hW => HT5.out W ((HG13.out.trans h2).trans hW)⟩)
              by_cases hp : T.pl = 0
              · have HP := Lib.hid hp
                have hp' : (T.pl != 0) = false := by rw [hp]; rfl
                clear hp
                go_wp2
                go_end0
                exact HEND.out _ (by have e : T.plat = T := by unfold OptSt.plat; rw [HP.out]; rfl
                                     rw [e]; exact HOT.out) (OFr.refl _ _)
              · have hp' : (T.pl != 0) = true := by simpa using hp
                have HP := Lib.hid hp'
                clear hp
                cases ha : meets T.m IS
                · cases hb : meets T.cm IY
                  · have HA' := Lib.hid ha; have HB' := Lib.hid hb
                    clear ha hb
                    go_wp2_with (first | (go_at_call 20; refine (has64_lit T.m IS 68719476736 (by kernel_rfl) _).mono ?_; rw [HA'.out]; rintro e wz ⟨rfl, rfl⟩) | (go_at_call 21; refine (has16_lit T.cm IY 64 (by kernel_rfl) _).mono ?_; rw [HB'.out]; rintro e wz ⟨rfl, rfl⟩))
                    go_end0
                    refine HEND.out _ ?_ (((OFr.refl _ _).set 59 _).set 60 _)
                    have e : T.plat = { T with f := T.f ||| IS, c := T.c ||| IY } := by unfold OptSt.plat; rw [HP.out, HA'.out, HB'.out]; rfl
                    rw [e]
                    rw [show (68719476736 : Int) = (IS.toNat : Int) by kernel_rfl, or64]
                    rw [show (64 : Int) = (IY.toNat : Int) by kernel_rfl, or16]
                    exact ((HOT.out.s59 (T.f ||| IS)).s60 (T.c ||| IY))
                  · have HA' := Lib.hid ha; have HB' := Lib.hid hb
                    clear ha hb
                    go_wp2_with (first | (go_at_call 20; refine (has64_lit T.m IS 68719476736 (by kernel_rfl) _).mono ?_; rw [HA'.out]; rintro e wz ⟨rfl, rfl⟩) | (go_at_call 21; refine (has16_lit T.cm IY 64 (by kernel_rfl) _).mono ?_; rw [HB'.out]; rintro e wz ⟨rfl, rfl⟩))
                    go_end0
                    refine HEND.out _ ?_ ((OFr.refl _ _).set 59 _)
                    have e : T.plat = { T with f := T.f ||| IS, c := T.c } := by unfold OptSt.plat; rw [HP.out, HA'.out, HB'.out]; rfl
                    rw [e]
                    rw [show (68719476736 : Int) = (IS.toNat : Int) by kernel_rfl, or64]
                    skip
                    exact (HOT.out.s59 (T.f ||| IS))
                · cases hb : meets T.cm IY
                  · have HA' := Lib.hid ha; have HB' := Lib.hid hb
                    clear ha hb
                    go_wp2_with (first | (go_at_call 20; refine (has64_lit T.m IS 68719476736 (by kernel_rfl) _).mono ?_; rw [HA'.out]; rintro e wz ⟨rfl, rfl⟩) | (go_at_call 21; refine (has16_lit T.cm IY 64 (by kernel_rfl) _).mono ?_; rw [HB'.out]; rintro e wz ⟨rfl, rfl⟩))
                    go_end0
                    refine HEND.out _ ?_ ((OFr.refl _ _).set 60 _)
                    have e : T.plat = { T with f := T.f, c := T.c ||| IY } := by unfold OptSt.plat; rw [HP.out, HA'.out, HB'.out]; rfl
                    rw [e]
                    skip
                    rw [show (64 : Int) = (IY.toNat : Int) by kernel_rfl, or16]
                    exact (HOT.out.s60 (T.c ||| IY))
                  · have HA' := Lib.hid ha; have HB' := Lib.hid hb
                    clear ha hb
                    go_wp2_with (first | (go_at_call 20; refine (has64_lit T.m IS 68719476736 (by kernel_rfl) _).mono ?_; rw [HA'.out]; rintro e wz ⟨rfl, rfl⟩) | (go_at_call 21; refine (has16_lit T.cm IY 64 (by kernel_rfl) _).mono ?_; rw [HB'.out]; rintro e wz ⟨rfl, rfl⟩))
                    go_end0
                    refine HEND.out _ ?_ (OFr.refl _ _)
                    have e : T.plat = { T with f := T.f, c := T.c } := by unfold OptSt.plat; rw [HP.out, HA'.out, HB'.out]; rfl
                    rw [e]
                    skip
                    skip
                    exact HOT.out
end Go.Proofs.Ytjellcldojmpcaa
