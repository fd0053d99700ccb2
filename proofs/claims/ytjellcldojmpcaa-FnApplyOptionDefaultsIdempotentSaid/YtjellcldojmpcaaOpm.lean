/- zzMakeOptions (written by mkopm.py). -/
import Derived.Test.YtjellcldojmpcaaOpa
import Derived.Deep.CutBlock
namespace Go.Proofs.Ytjellcldojmpcaa
open Go.RowKit Go.Maps Go.WideMaps
set_option linter.unusedVariables false
set_option linter.unusedSimpArgs false
noncomputable def zOpt : Array Value := match Try.prog.info? 79 with
  | some i => (match i.zero with | some (.agg cs) => cs | _ => #[])
  | none => #[]
theorem zOpt_zero (W : World) : (zeroValue 79).run Try.prog W = .ok (.agg zOpt) W := by kernel_rfl
def S00 : OptSt := ⟨⟨#[]⟩, ⟨#[]⟩, .map none, .slice none 0 0, .slice none 0 0, .slice none 0 0, 0#64, 0#16, 0#64, 0#64, 0#16, false, false, 0⟩
theorem zOpt_k : OptK S00 zOpt :=
  ⟨by kernel_rfl, by kernel_rfl, by kernel_rfl, by kernel_rfl, by kernel_rfl, by kernel_rfl, by kernel_rfl, by kernel_rfl, by kernel_rfl, by kernel_rfl, by kernel_rfl, by kernel_rfl, by kernel_rfl, by kernel_rfl, by kernel_rfl, by kernel_rfl⟩
theorem infoO : (Try.prog.info? 79).map (·.size) = some 102 := by kernel_rfl
def zzB : ByteArray := ⟨#[46, 122, 122]⟩
def D1 : DataW Unit := (DataW.map []).put (.string zzB.data.toList) (.lit (.int .u8 15))
theorem map_not_cells {w : World} {b n : Nat} {D : DataW Unit} (h : MapIs w b n D) {g : Nat} {t : TypeId} {cs : Array Value} (hg : Blk w g t cs) : b ≠ g := by
  rintro rfl
  obtain ⟨es, cl, h1, _⟩ := h
  unfold Blk at hg
  rw [hg] at h1
  cases h1
/-- The map that the options are made with. -/
def LRel (s : Int) (M : Option Nat) (W : World) : Prop := (s = 0 ∧ M = none) ∨ (s = 1 ∧ ∃ g, M = some g ∧ MapIs W g 0 (.map [])) ∨ (s = 2 ∧ ∃ g, M = some g ∧ MapIs W g 1 D1)
def Tm1 (v : Value) (a : ByteArray) (W : World) : Prop := ∃ g, v = .slice (some ⟨g, 0, none⟩) 1 1 ∧ Blk W g 94 #[.string a, .int .u8 0]
/-- The templates that the options are made with. -/
def TmRel (s : Int) (n : Nat) (E : Value) (a : ByteArray) (W : World) : Prop := (s ≠ 2 ∧ n = 0 ∧ ∃ A c, E = .slice A 0 c) ∨ (s = 2 ∧ n = 1 ∧ Tm1 E a W)
def eB : ByteArray := ⟨#[101]⟩
def cB : ByteArray := ⟨#[99]⟩
def aB : ByteArray := ⟨#[97]⟩
/-- What stays so, whatever is done to blocks that are made later. -/
def Stay (w : World) (P : World → Prop) : Prop := ∀ b, w.heap.size ≤ b → ∀ W, OFr b w W → P W
theorem LRel.stay {s : Int} {M : Option Nat} {w : World} (h : LRel s M w) : Stay w (LRel s M) := by
  intro b hb W hW
  rcases h with h | ⟨h, g, h1, h2⟩ | ⟨h, g, h1, h2⟩
  · exact .inl h
  · exact .inr (.inl ⟨h, g, h1, h2.kept hW (by have := h2.lt; intro e; injection e with e; omega)⟩)
  · exact .inr (.inr ⟨h, g, h1, h2.kept hW (by have := h2.lt; intro e; injection e with e; omega)⟩)
theorem TmRel.stay {s : Int} {n : Nat} {E : Value} {a : ByteArray} {w : World} (h : TmRel s n E a w) : Stay w (TmRel s n E a) := by
  intro b hb W hW
  rcases h with h | ⟨h, h0, g, h1, h2⟩
  · exact .inl h
  · exact .inr ⟨h, h0, g, h1, h2.grown hW (by have := h2.lt; intro e; injection e with e; omega)⟩
theorem LRel.row {s : Int} {M : Option Nat} {w w' : World} {g : Nat} {K : Array Value} (h : LRel s M w) (hB : Blk w g 79 K) (hg : w.grownBy w' (some g)) : LRel s M w' := by
  rcases h with h | ⟨h, q, h1, h2⟩ | ⟨h, q, h1, h2⟩
  · exact .inl h
  · exact .inr (.inl ⟨h, q, h1, h2.kept hg (by intro e; injection e with e; exact map_not_cells h2 hB e)⟩)
  · exact .inr (.inr ⟨h, q, h1, h2.kept hg (by intro e; injection e with e; exact map_not_cells h2 hB e)⟩)
theorem TmRel.row {s : Int} {n : Nat} {E : Value} {a : ByteArray} {w w' : World} {g : Nat} {K : Array Value} (h : TmRel s n E a w) (hB : Blk w g 79 K) (hg : w.grownBy w' (some g)) : TmRel s n E a w' := by
  rcases h with h | ⟨h, h0, q, h1, h2⟩
  · exact .inl h
  · exact .inr ⟨h, h0, q, h1, h2.grown hg (by intro e; injection e with e; exact h2.ne_ hB (by decide) e)⟩
theorem plat_any (x : Int) (h0 : 0 ≤ x) (hx : x ≤ 255) (w : World) : Calls Try.prog 11 #[.int .u8 x] w fun e w' => e = .returned (.int .u8 (x % 3)) ∧ w = w' := by
  have h3 : x % 3 = 0 ∨ x % 3 = 1 ∨ x % 3 = 2 := by omega
  rcases h3 with h | h | h
  all_goals
    go_enter Try.func11, Try.ntmps11
    go_wp2
    go_ret
    exact ⟨by rw [h]; rfl, rfl⟩
def MoPost (ls ts : Int) (S : OptSt) (w : World) (e : Ending) (w' : World) : Prop :=
  ∃ (M : Option Nat) (E C A : Value) (n : Nat) (K : Array Value), e = .returned (.agg K) ∧ OptK { S with M := .map M, E := E, C := C, A := A } K ∧ LRel ls M w' ∧ TmRel ts n E eB w' ∧ TmRel ts n C cB w' ∧ TmRel ts n A aB w' ∧ w.grownBy w' none
theorem two_new {b : Nat} {w w1 w2 : World} (h : w.grownBy w1 none) (h2 : OFr b w1 w2) (hb : w.heap.size ≤ b) : w.grownBy w2 none := new_grown h h2 hb
theorem set_row_new {w w1 : World} (h : w.grownBy w1 none) (g : Nat) (K : Array Value) (hg : w.heap.size ≤ g) : w.grownBy (w1.setRow g K) none :=
  ⟨h.os, h.tape, h.output, by simp [World.setRow]; exact h.size, fun i hi hne => by
    rw [← h.block i hi hne]
    simp only [World.setRow, Array.getElem?_modify]
    rw [if_neg (by omega)]⟩
theorem three_new (W : World) (T : TypeId) (o1 o2 o3 : Array Value) : Blk (((W.alloc (.cells o1 T)).alloc (.cells o2 T)).alloc (.cells o3 T)) W.heap.size T o1 ∧ Blk (((W.alloc (.cells o1 T)).alloc (.cells o2 T)).alloc (.cells o3 T)) (W.heap.size + 1) T o2 ∧ Blk (((W.alloc (.cells o1 T)).alloc (.cells o2 T)).alloc (.cells o3 T)) (W.heap.size + 1 + 1) T o3 := by
  refine ⟨((Blk.new W T o1).alloc _).alloc _, ?_, ?_⟩
  · have h := (Blk.new (W.alloc (.cells o1 T)) T o2).alloc (.cells o3 T)
    have e : (W.alloc (.cells o1 T)).heap.size = W.heap.size + 1 := by simp
    rwa [e] at h
  · have h := Blk.new ((W.alloc (.cells o1 T)).alloc (.cells o2 T)) T o3
    have e : ((W.alloc (.cells o1 T)).alloc (.cells o2 T)).heap.size = W.heap.size + 1 + 1 := by simp
    rwa [e] at h
set_option maxHeartbeats 8000000 in
set_option maxRecDepth 100000 in
theorem mo_any (ls ts ps : Int) (hl : 0 ≤ ls ∧ ls ≤ 255) (ht : 0 ≤ ts ∧ ts ≤ 255) (hp : 0 ≤ ps ∧ ps ≤ 255) (js css : ByteArray) (mi : Bool) (f o m : BitVec 64) (c cm : BitVec 16) (w : World) :
    Calls Try.prog 6 #[.int .u8 ls, .string js, .string css, .int .u8 ts, .bool mi, .int .u64 (f.toNat : Int), .int .u64 (o.toNat : Int), .int .u64 (m.toNat : Int), .int .u16 (c.toNat : Int), .int .u16 (cm.toNat : Int), .int .u8 ps] w
      (MoPost (ls % 3) (ts % 3) ⟨js, css, .map none, .slice none 0 0, .slice none 0 0, .slice none 0 0, f, c, o, m, cm, mi, false, ps % 3⟩ w) := by
  have hz := zOpt_zero
  have hmm := @run_makeMap Try.prog
  have hls : ls % 3 = 0 ∨ ls % 3 = 1 ∨ ls % 3 = 2 := by omega
  have hts : ts % 3 = 0 ∨ ts % 3 = 1 ∨ ts % 3 = 2 := by omega
  go_enter Try.func6, Try.ntmps6
  go_upto_block 0 with fail
  obtain ⟨b, hb⟩ : ∃ b, b = w.heap.size + 1 := ⟨_, rfl⟩
  obtain ⟨w2, hw2⟩ : ∃ W : World, W = (w.alloc (.cells zOpt 79)).alloc (.cells zOpt 79) := ⟨_, rfl⟩
  rw [← hb, ← hw2]
  have HO0 : Hid (OptIs b S00 w2) := Lib.hid ⟨zOpt, by rw [hb, hw2]; simpa using Blk.new (w.alloc (.cells zOpt 79)) 79 zOpt, zOpt_k⟩
  have HB0 : Hid (Blk w2 w.heap.size 79 zOpt) := Lib.hid (by rw [hw2]; exact (Blk.new w _ _).alloc _)
  have HG0 : Hid (w.grownBy w2 none) := Lib.hid (by rw [hw2]; exact ⟨rfl, rfl, rfl, by simp; omega, fun i hi _ => by rw [Below.heap_alloc _ _ _ (by simp; omega), Below.heap_alloc _ _ _ hi]⟩)
  have hb1 : w.heap.size < b := by omega
  clear hw2 hb
  have c30 := HO0.out.c30; have z30 := HO0.out.frozen 30
  have hlt := HO0.out.lt
  have e30 : S00.M = .map none := rfl
  rw [e30] at c30
  clear e30
  go_cut [] (fun wx => ∃ M : Option Nat, OptIs b { S00 with M := .map M } wx ∧ OFr b w2 wx ∧ ∀ W, OFr b wx W → LRel (ls % 3) M W)
  case first =>
    rcases hls with hs | hs | hs
    · have e1 : (ls % 3 == 1) = false := by rw [hs]; rfl
      have e2 : (ls % 3 == 2) = false := by rw [hs]; rfl
      have HS := Lib.hid hs
      clear hs
      go_wp2
      go_meet
      exact ⟨none, HO0.out, OFr.refl _ _, fun W hW => .inl ⟨HS.out, rfl⟩⟩
    · have e1 : (ls % 3 == 1) = true := by rw [hs]; rfl
      have e2 : (ls % 3 == 2) = false := by rw [hs]; rfl
      have HS := Lib.hid hs
      clear hs
      go_wp2
      go_meet
      refine ⟨some w2.heap.size, (HO0.out.s30 _).alloc _, ((OFr.refl _ _).set 30 _).alloc _, fun W hW => .inr (.inl ⟨HS.out, _, rfl, ?_⟩)⟩
      have h := World.ownsMap_made (H := Unit) (w2.setCell ⟨b, 30, none⟩ (.map (some w2.heap.size))) Try.prog 9 (plainElem Try.prog 83)
      have e : (w2.setCell ⟨b, 30, none⟩ (.map (some w2.heap.size))).heap.size = w2.heap.size := by simp
      rw [e] at h
      exact h.kept hW (by intro e; injection e with e; omega)
    · have e1 : (ls % 3 == 1) = false := by rw [hs]; rfl
      have e2 : (ls % 3 == 2) = true := by rw [hs]; rfl
      have HS := Lib.hid hs
      clear hs
      obtain ⟨w3, r3, o3, g3⟩ := mp_put (World.ownsMap_made w2 Try.prog 9 (plainElem Try.prog 83)) (by decide) ⟨#[46, 122, 122]⟩ (by decide) 15 (by decide)
      have O3 := Lib.hid o3; have HG3 : Hid (OFr b w2 w3) := Lib.hid (OFr.none (new_grown (World.grownBy_alloc w2 _ none) g3 (Nat.le_refl _)))
      have HO3 : Hid (OptIs b S00 w3) := Lib.hid ((HO0.out.alloc (.map #[] 0)).same (g3.block b (by simp; omega) (by simp; omega)))
      have c30' := HO3.out.c30; have z30' := HO3.out.frozen 30
      rw [show S00.M = .map none from rfl] at c30'
      clear o3 g3
      go_wp2
      go_meet
      refine ⟨some w2.heap.size, HO3.out.s30 _, HG3.out.set 30 _, fun W hW => .inr (.inr ⟨HS.out, _, rfl, ?_⟩)⟩
      exact (O3.out.setCell (by simp; omega) _).kept hW (by intro e; injection e with e; omega)
  case rest =>
    obtain ⟨M, ho, hf, hm⟩ := hcut
    have HO1 := Lib.hid ho; have HF1 := Lib.hid hf; have HL1 := Lib.hid hm
    clear ho hf hm c30 z30 hlt hls
    have c25 := HO1.out.c25; have z25 := HO1.out.frozen 25
    have c26 := HO1.out.c26; have z26 := HO1.out.frozen 26
    go_upto_block 1 with fail
    obtain ⟨w4, hw4⟩ : ∃ W : World, W = (wc.setCell ⟨b, 25, none⟩ (.string js)).setCell ⟨b, 26, none⟩ (.string css) := ⟨_, rfl⟩
    rw [← hw4]
    obtain ⟨S1, hS1⟩ : ∃ S : OptSt, S = { { { S00 with M := .map M } with js := js } with css := css } := ⟨_, rfl⟩
    have HS1 := Lib.hid hS1
    have HO4 : Hid (OptIs b S1 w4) := Lib.hid (by rw [hS1, hw4]; exact (HO1.out.s25 js).s26 css)
    have HF4 : Hid (OFr b w2 w4) := Lib.hid (by rw [hw4]; exact (HF1.out.set 25 _).set 26 _)
    have HL4 : Hid (∀ W, OFr b w4 W → LRel (ls % 3) M W) := Lib.hid (by rw [hw4]; exact fun W hW => HL1.out W ((((OFr.refl b wc).set 25 _).set 26 _).trans hW))
    clear c25 z25 c26 z26 hw4 hS1
    have c39 := HO4.out.c39; have z39 := HO4.out.frozen 39
    have c40 := HO4.out.c40; have z40 := HO4.out.frozen 40
    have c41 := HO4.out.c41; have z41 := HO4.out.frozen 41
    have hlt := HO4.out.lt
    have hlt1 : b < w4.heap.size + 1 := by omega
    have hlt2 : b < w4.heap.size + 1 + 1 := by omega
    have hpt1 : ∀ (a : ByteArray) (W : World), (Instr.build 94 #[(0, .string a)]).run Try.prog W = .ok (.agg #[.string a, .int .u8 0]) W := fun a W => run_build W _ _ _ (by kernel_rfl)
    go_cut [] (fun wx => ∃ (E C A : Value) (n : Nat), OptIs b { { { S1 with E := E } with C := C } with A := A } wx ∧ OFr b w4 wx ∧ ∀ W, OFr b wx W → TmRel (ts % 3) n E eB W ∧ TmRel (ts % 3) n C cB W ∧ TmRel (ts % 3) n A aB W)
    case first =>
      rcases hts with hs | hs | hs
      · have e1 : (ts % 3 == 1) = false := by rw [hs]; rfl
        have e2 : (ts % 3 == 2) = false := by rw [hs]; rfl
        have HS := Lib.hid hs
        clear hs
        have e39 : S1.E = .slice none 0 0 := by rw [HS1.out]; rfl
        have e40 : S1.C = .slice none 0 0 := by rw [HS1.out]; rfl
        have e41 : S1.A = .slice none 0 0 := by rw [HS1.out]; rfl
        have HE := Lib.hid e39; have HC := Lib.hid e40; have HA := Lib.hid e41
        clear e39 e40 e41
        go_wp2
        go_meet
        have h2 : ts % 3 ≠ 2 := by rw [HS.out]; decide
        exact ⟨S1.E, S1.C, S1.A, 0, HO4.out, OFr.refl _ _, fun W hW => ⟨.inl ⟨h2, rfl, _, _, HE.out⟩, .inl ⟨h2, rfl, _, _, HC.out⟩, .inl ⟨h2, rfl, _, _, HA.out⟩⟩⟩
      · have e1 : (ts % 3 == 1) = true := by rw [hs]; rfl
        have e2 : (ts % 3 == 2) = false := by rw [hs]; rfl
        have HS := Lib.hid hs
        clear hs
        go_wp2
        go_meet
        have h2 : ts % 3 ≠ 2 := by rw [HS.out]; decide
        exact ⟨.slice (some ⟨w4.heap.size, 0, none⟩) 0 0, .slice (some ⟨w4.heap.size + 1, 0, none⟩) 0 0, .slice (some ⟨w4.heap.size + 1 + 1, 0, none⟩) 0 0, 0, ((((((HO4.out.s39 _).s40 _).s41 _).alloc _).alloc _).alloc _), (((((((OFr.refl _ _).set 39 _).set 40 _).set 41 _).alloc _).alloc _).alloc _), fun W hW => ⟨.inl ⟨h2, rfl, _, _, rfl⟩, .inl ⟨h2, rfl, _, _, rfl⟩, .inl ⟨h2, rfl, _, _, rfl⟩⟩⟩
      · have e1 : (ts % 3 == 1) = false := by rw [hs]; rfl
        have e2 : (ts % 3 == 2) = true := by rw [hs]; rfl
        have HS := Lib.hid hs
        clear hs
        go_wp2
        go_meet
        obtain ⟨W3, hW3⟩ : ∃ W3 : World, W3 = ((w4.setCell ⟨b, 39, none⟩ (.slice (some ⟨w4.heap.size, 0, none⟩) 1 1)).setCell ⟨b, 40, none⟩ (.slice (some ⟨w4.heap.size + 1, 0, none⟩) 1 1)).setCell ⟨b, 41, none⟩ (.slice (some ⟨w4.heap.size + 1 + 1, 0, none⟩) 1 1) := ⟨_, rfl⟩
        have e3 : W3.heap.size = w4.heap.size := by rw [hW3]; simp
        obtain ⟨b1, b2, b3⟩ := three_new W3 94 #[.string eB, .int .u8 0] #[.string cB, .int .u8 0] #[.string aB, .int .u8 0]
        rw [e3, hW3] at b1 b2 b3
        refine ⟨.slice (some ⟨w4.heap.size, 0, none⟩) 1 1, .slice (some ⟨w4.heap.size + 1, 0, none⟩) 1 1, .slice (some ⟨w4.heap.size + 1 + 1, 0, none⟩) 1 1, 1, ((((((HO4.out.s39 _).s40 _).s41 _).alloc _).alloc _).alloc _), (((((((OFr.refl _ _).set 39 _).set 40 _).set 41 _).alloc _).alloc _).alloc _), fun W hW => ⟨.inr ⟨HS.out, rfl, _, rfl, b1.grown hW ?_⟩, .inr ⟨HS.out, rfl, _, rfl, b2.grown hW ?_⟩, .inr ⟨HS.out, rfl, _, rfl, b3.grown hW ?_⟩⟩⟩
        all_goals (intro e; injection e with e; omega)
    case rest =>
      obtain ⟨E, C, A, n, ho, hf, hm⟩ := hcut
      have HO5 := Lib.hid ho; have HF5 := Lib.hid (HF4.out.trans hf); have HT5 := Lib.hid hm
      have HL5 : Hid (∀ W, OFr b wc W → LRel (ls % 3) M W) := Lib.hid (fun W hW => HL4.out W (hf.trans hW))
      clear ho hf hm c39 z39 c40 z40 c41 z41 hlt hlt1 hlt2 hts
      obtain ⟨S2, hS2⟩ : ∃ S : OptSt, S = { { { S1 with E := E } with C := C } with A := A } := ⟨_, rfl⟩
      rw [← hS2] at HO5
      have HS2 := Lib.hid hS2
      clear hS2
      have c76 := HO5.out.c76; have z76 := HO5.out.frozen 76
      have c59 := HO5.out.c59; have z59 := HO5.out.frozen 59
      have c61 := HO5.out.c61; have z61 := HO5.out.frozen 61
      have c62 := HO5.out.c62; have z62 := HO5.out.frozen 62
      have c60 := HO5.out.c60; have z60 := HO5.out.frozen 60
      have c64 := HO5.out.c64; have z64 := HO5.out.frozen 64
      have c97 := HO5.out.c97; have z97 := HO5.out.frozen 97
      go_upto_region 25 with (go_at_call 11; refine (plat_any ps hp.1 hp.2 _).mono ?_; rintro e wz ⟨rfl, rfl⟩)
      obtain ⟨w6, hw6⟩ : ∃ W : World, W = (((((((wc.setCell ⟨b, 76, none⟩ (.bool mi)).setCell ⟨b, 59, none⟩ (.int .u64 (f.toNat : Int))).setCell ⟨b, 61, none⟩ (.int .u64 (o.toNat : Int))).setCell ⟨b, 62, none⟩ (.int .u64 (m.toNat : Int))).setCell ⟨b, 60, none⟩ (.int .u16 (c.toNat : Int))).setCell ⟨b, 64, none⟩ (.int .u16 (cm.toNat : Int))).setCell ⟨b, 97, none⟩ (.int .u8 (ps % 3))) := ⟨_, rfl⟩
      rw [← hw6]
      have HO6 := Lib.hid (show OptIs b _ w6 from by rw [hw6]; exact (((((((HO5.out.s76 mi).s59 f).s61 o).s62 m).s60 c).s64 cm).s97 (ps % 3)))
      have HF6 : Hid (OFr b wc w6) := Lib.hid (by rw [hw6]; exact ((((((((OFr.refl b wc).set 76 _).set 59 _).set 61 _).set 62 _).set 60 _).set 64 _).set 97 _))
      clear hw6 c76 z76 c59 z59 c61 z61 c62 z62 c60 z60 c64 z64 c97 z97
      obtain ⟨K, hK, hk⟩ := HO6.out
      have hB : Blk w6 w.heap.size 79 zOpt := (HB0.out.grown HF5.out (by intro e; injection e with e; omega)).grown HF6.out (by intro e; injection e with e; omega)
      have hi : (Try.prog.info? 79).map (·.size) = some K.size := by rw [hk.sz]; exact infoO
      have hzs : zOpt.size = K.size := by rw [hk.sz]; exact zOpt_k.sz
      have HK := Lib.hid hK; have HKK := Lib.hid hk
      clear hk
      go_wp2_with (first | refine wpList_load_row rfl 79 (.tmp 23) rfl b rfl 79 K (0, 0) _ hK Try.underlying79 rfl hi ?_ | refine wpList_store_row rfl 79 (.tmp 22) (.tmp 75) rfl w.heap.size K rfl rfl 79 zOpt hB hi hzs HKK.out.one ?_)
      have hR : Blk (w6.setRow w.heap.size K) w.heap.size 79 K := setRow_heap w6 w.heap.size zOpt K 79 (0, 0) hB
      refine bodyPost_ret (results_cell_row Try.results6 _ _ w.heap.size 79 K (0, 0) _ rfl hR Try.underlying79 rfl hi) rfl ?_
      have HR : Hid (w6.grownBy (w6.setRow w.heap.size K) (some w.heap.size)) := Lib.hid ⟨rfl, rfl, rfl, by simp [World.setRow], fun i hi hne => by
        simp only [World.setRow, Array.getElem?_modify]
        rw [if_neg (fun e => hne (by rw [e]))]⟩
      have ht := HT5.out w6 HF6.out
      refine ⟨M, E, C, A, n, K, rfl, ?_, (HL5.out w6 HF6.out).row hB HR.out, ht.1.row hB HR.out, ht.2.1.row hB HR.out, ht.2.2.row hB HR.out, ?_⟩
      · have h := HKK.out
        rw [HS2.out, HS1.out] at h
        exact h
      · exact set_row_new (new_grown (new_grown HG0.out HF5.out (Nat.le_of_lt hb1)) HF6.out (Nat.le_of_lt hb1)) _ _ (Nat.le_refl _)
end Go.Proofs.Ytjellcldojmpcaa
