/- MinifyRenamer.NameForSymbol on a fresh renamer. -/
import Derived.Test.YtgjmjdacdjobjaaDoorFlw
import Derived.Test.YtgjmjdacdjobjaaDoorMnw
import Derived.Test.YtgjmjdacdjobjaaDoorMin
namespace Go.Proofs.YtgjmjdacdjobjaaDoor
open Go.RowKit
set_option linter.unusedVariables false
set_option linter.unusedSimpArgs false
theorem ret_strM {a b : ByteArray} (h : a = b) : Ending.returned (.string a) = .returned (.string b) := by rw [h]
theorem mkSl_name (c k : Nat) (h : k < c) : (mkSl c)[k * 3]? = some (.string ⟨#[]⟩) := by
  have hb : k * 3 < c * 3 := by omega
  have hm : (k * 3) % 3 = 0 := by omega
  unfold mkSl madeCells
  simp only [zSlot, Value.cells]
  rw [Array.getElem?_map, Array.getElem?_range, if_pos hb]
  simp [hm]
/-- The namespace of a kind (no flag set). -/
def nsU (kd : Int) : Int := if kd = 0 then 4 else if kd = 18 then 1 else 0
def Kd (kd : Int) : Prop := kd = 0 ∨ kd = 27 ∨ kd = 18
set_option maxHeartbeats 1000000 in
set_option maxRecDepth 100000 in
theorem slotns (g m : Nat) (kd : Int) (hk : Kd kd) (w : World) (c7 : w.cell? ⟨g, m * 10 + 7, none⟩ = some (.int .u16 0)) (c8 : w.cell? ⟨g, m * 10 + 8, none⟩ = some (.int .u8 kd)) :
    Calls Tryd.prog 24 #[.pointer (some ⟨g, m * 10, none⟩)] w (KPost (.int .u8 (nsU kd)) w) := by
  have hb0 : bits .and .u16 0 1 = 0 := by decide
  rcases hk with rfl | rfl | rfl
  all_goals
    go_enter Tryd.func24, Tryd.ntmps24
    go_wp2
    go_ret
    exact ⟨rfl, by first | exact World.grownBy.refl _ _ | exact only_alloc (World.grownBy.refl _ _) _⟩
set_option maxHeartbeats 1000000 in
set_option maxRecDepth 100000 in
theorem getIdx (v : Int) (h0 : 0 ≤ v) (h1 : v ≤ 4294967295) (w : World) : Calls Tryd.prog 26 #[.agg #[.int .u32 v]] w (KPost (.int .u32 (4294967295 - v)) w) := by
  have hsg : IntKind.u32.signed = false := rfl
  have hx := u32_not v h0 h1
  go_enter Tryd.func26, Tryd.ntmps26
  go_wp2
  go_ret
  exact ⟨rfl, by first | exact World.grownBy.refl _ _ | exact only_alloc (World.grownBy.refl _ _) _⟩
set_option maxRecDepth 100000 in
theorem isv_any (v : Int) (b : Bool) (hb : (v != 0) = b) (w : World) : Calls Tryd.prog 25 #[.agg #[.int .u32 v]] w (KPost (.bool b) w) := by
  have HB := Lib.hid hb
  clear hb
  go_enter Tryd.func25, Tryd.ntmps25
  go_wp2
  go_ret
  exact ⟨ret_bool HB.out, by first | exact World.grownBy.refl _ _ | exact only_alloc (World.grownBy.refl _ _) _⟩
/-- A renamer just made lies at block br. -/
def RenOk (o : Nat) (mo : Option Nat) (c0 c1 c2 c3 br : Nat) (w : World) : Prop :=
  ∃ s0 s1 s2 s3 mp, Blk w br 67 (renCells o mo s0 s1 s2 s3 mp) ∧ Fld 0 c0 c1 c2 c3 s0 s1 s2 s3 w ∧ MpR 0 mp w
theorem SlR.more {base c : Nat} {v : Value} {w : World} (h : SlR base c v w) : SlR 0 c v w := by obtain ⟨g, h1, _, h3⟩ := h; exact ⟨g, h1, Nat.zero_le _, h3⟩
theorem RenOk.of_ptr {base o : Nat} {mo : Option Nat} {c0 c1 c2 c3 : Nat} {v : Value} {w : World} (h : PtrR base o mo c0 c1 c2 c3 v w) : ∃ br, v = .pointer (some ⟨br, 0, none⟩) ∧ base ≤ br ∧ RenOk o mo c0 c1 c2 c3 br w := by
  obtain ⟨br, s0, s1, s2, s3, mp, h1, h2, h3, h4, ⟨gm, h5, _, h6⟩⟩ := h
  exact ⟨br, h1, h2, s0, s1, s2, s3, mp, h3, ⟨h4.r0.more, h4.r1.more, h4.r2.more, h4.r3.more, h4.d01, h4.d02, h4.d03, h4.d12, h4.d13, h4.d23⟩, ⟨gm, h5, Nat.zero_le _, h6⟩⟩
/-- Blocks of symbols are no blocks of the renamer. -/
theorem blk_ne {w : World} {g g' : Nat} {t t' : TypeId} {cs cs' : Array Value} (h : Blk w g t cs) (h' : Blk w g' t' cs') (hne : t ≠ t') : g ≠ g' := Blk.ne_ h h' hne
theorem Tbl.blk {w : World} {g n : Nat} {S : Nat → SymR} (h : Tbl w g n S) : ∃ cs, Blk w g 58 cs := by obtain ⟨cs, h1, _⟩ := h; exact ⟨cs, h1⟩
theorem Lk.blk {w : World} {g n : Nat} {S0 : Nat → SymR} {R M : Nat → Nat} (h : Lk w g n S0 R M) : ∃ cs, Blk w g 58 cs := by obtain ⟨S, h1, _⟩ := h; exact h1.blk
theorem map_lt {w : World} {g : Nat} (h : w.heap[g]? = some (.map #[] 0)) : g < w.heap.size := by
  rcases Nat.lt_or_ge g w.heap.size with hl | hl
  · exact hl
  · rw [Array.getElem?_eq_none hl] at h; cases h
/-- The renamer lies still while only the block of a table turns. -/
theorem RenOk.grown {o : Nat} {mo : Option Nat} {c0 c1 c2 c3 br g : Nat} {w w' : World} {t : TypeId} {cs : Array Value} (h : RenOk o mo c0 c1 c2 c3 br w) (hb : Blk w g t cs) (h1 : t ≠ 67) (h2 : t ≠ 75) (hg : w.grownBy w' (some g)) : RenOk o mo c0 c1 c2 c3 br w' := by
  obtain ⟨s0, s1, s2, s3, mp, hblk, hf, ⟨gm, hm1, hm2, hm3⟩⟩ := h
  have ks : ∀ c v, SlR 0 c v w → SlR 0 c v w' := fun c v ⟨x, e1, e2, e3⟩ => ⟨x, e1, e2, e3.grown hg (fun e => blk_ne hb e3 h2 (Option.some.inj e).symm)⟩
  refine ⟨s0, s1, s2, s3, mp, hblk.grown hg (fun e => blk_ne hb hblk h1 (Option.some.inj e).symm), ⟨ks _ _ hf.r0, ks _ _ hf.r1, ks _ _ hf.r2, ks _ _ hf.r3, hf.d01, hf.d02, hf.d03, hf.d12, hf.d13, hf.d23⟩, gm, hm1, hm2, (hg.block gm (map_lt hm3) (fun e => ?_)).trans hm3⟩
  have e' := Option.some.inj e
  subst e'
  unfold Blk at hb
  rw [hm3] at hb
  injection hb with hb
  cases hb
theorem RenOk.grow0 {o : Nat} {mo : Option Nat} {c0 c1 c2 c3 br : Nat} {w w' : World} (h : RenOk o mo c0 c1 c2 c3 br w) (hg : w.grownBy w' none) : RenOk o mo c0 c1 c2 c3 br w' := by
  obtain ⟨s0, s1, s2, s3, mp, hblk, hf, hm⟩ := h
  exact ⟨s0, s1, s2, s3, mp, hblk.grown hg (by simp), hf.grown hg, hm.grown hg⟩
theorem look_empty (W : World) (gm : Nat) (h : W.heap[gm]? = some (.map #[] 0)) (a b : Int) : (Instr.lookup 65 (.map (some gm)) (.agg #[.int .u32 a, .int .u32 b]) true).run Tryd.prog W = .ok (.tuple #[.int .u32 0, .bool false]) W := by
  have hg : (getObj gm).run Tryd.prog W = .ok (.map #[] 0) W := by simp [getObj, Sem.run, h]
  have hc : (Instr.checkKey true 10000 41 (.agg #[.int .u32 a, .int .u32 b])).run Tryd.prog W = .ok () W := by kernel_rfl
  have hf : (Instr.findKey 41 (.agg #[.int .u32 a, .int .u32 b]) []).run Tryd.prog W = .ok none W := by kernel_rfl
  have hz : (zeroValue 25).run Tryd.prog W = .ok (.int .u32 0) W := by kernel_rfl
  have hu : Tryd.prog.underlying 65 = some (.map 41 25) := by kernel_rfl
  simp [Instr.lookup, run_underlying hu, hg, hc, hf, hz]
/-- What NameForSymbol answers on a fresh renamer. -/
def nameOf (r : SymR) : ByteArray := if r.kd = 0 ∨ r.ns = 0 then r.nm else ⟨#[]⟩
def cntU (c0 c1 : Nat) (kd : Int) : Nat := if kd = 18 then c1 else c0
structure MSt (w W : World) (br o : Nat) (mo : Option Nat) (c0 c1 c2 c3 g n : Nat) (S0 : Nat → SymR) (R M : Nat → Nat) (i : Nat) : Prop where
  b3 : Blk W w.heap.size 41 #[.int .u32 0, .int .u32 i]
  ren : RenOk o mo c0 c1 c2 c3 br W
  tab : Lk W g n S0 R M
  inv : Inv W
  out : Out1 W o g n
  gr : w.grownBy W (some g)
theorem MSt.next {w W W' : World} {br o : Nat} {mo : Option Nat} {c0 c1 c2 c3 g n : Nat} {S0 : Nat → SymR} {R M : Nat → Nat} {i : Nat} (h : MSt w W br o mo c0 c1 c2 c3 g n S0 R M i) (hg : W.grownBy W' (some g)) (ht : Lk W' g n S0 R M) (hgw : g < w.heap.size) (ho : o ≠ g) (h0 : g ≠ 0) : MSt w W' br o mo c0 c1 c2 c3 g n S0 R M i := by
  obtain ⟨cs, hb⟩ := h.tab.blk
  exact ⟨h.b3.grown hg (by simp; omega), h.ren.grown hb (by decide) (by decide) hg, ht, h.inv.grown hg (by simp; omega), h.out.grown hg (by simpa using ho), grown_tr h.gr hg⟩
def NamePost (w : World) (g n : Nat) (S0 : Nat → SymR) (R M : Nat → Nat) (i : Nat) (e : Ending) (w' : World) : Prop :=
  e = .returned (.string (nameOf (S0 (R i)))) ∧ Lk w' g n S0 R M ∧ w.grownBy w' (some g)
set_option maxHeartbeats 8000000 in
set_option maxRecDepth 100000 in
theorem nameFor (br o : Nat) (mo : Option Nat) (c0 c1 c2 c3 g n : Nat) (S0 : Nat → SymR) (R M : Nat → Nat) (i : Nat) (w : World) (hn : n ≤ 16777216) (ho : o ≠ g) (h0 : g ≠ 0)
    (hR : Roots n R M) (hi : i < n) (hinv : Inv w) (hout : Out1 w o g n) (htab : Lk w g n S0 R M) (hren : RenOk o mo c0 c1 c2 c3 br w)
    (hkd : Kd (S0 (R i)).kd) (hfl : (S0 (R i)).fl = 0) (hns : 0 ≤ (S0 (R i)).ns ∧ (S0 (R i)).ns ≤ 4294967295) (hrg : (S0 (R i)).kd = 0 ∨ (S0 (R i)).ns = 0 ∨ 4294967295 - (S0 (R i)).ns < cntU c0 c1 (S0 (R i)).kd)
    (hcs : c0 ≤ 65536 ∧ c1 ≤ 65536 ∧ c2 ≤ 65536 ∧ c3 ≤ 65536) :
    Calls Tryd.prog 12 #[.pointer (some ⟨br, 0, none⟩), .agg #[.int .u32 0, .int .u32 i]] w (NamePost w g n S0 R M i) := by
  have hgw := htab.lt
  have how := hout.lt
  have h0w := hinv.pos
  have hRi := hR i hi
  have hRn : R i < n := hRi.1
  obtain ⟨w3, hw3⟩ : ∃ w3, w3 = w.alloc (.cells #[.int .u32 0, .int .u32 i] 41) := ⟨_, rfl⟩
  have hgn : w.grownBy w3 none := by rw [hw3]; exact only_alloc (World.grownBy.refl _ _) _
  have S3 : MSt w w3 br o mo c0 c1 c2 c3 g n S0 R M i :=
    ⟨by rw [hw3]; exact Blk.new _ _ _, hren.grow0 hgn, htab.grown hgn (by simp), hinv.grown hgn (by simp), hout.grown hgn (by simp), grown_any hgn⟩
  have HS3 := Lib.hid S3; have HR := Lib.hid hR; have HW3 := Lib.hid hw3
  clear S3 hgn hren htab hinv hout hR hRi
  obtain ⟨s0, s1, s2, s3, mp, hblk, _, _⟩ := HS3.out.ren
  have j0 : w3.cell? ⟨br, 6, none⟩ = some (.slice (some ⟨o, 0, none⟩) 1 1) := hblk.cell 6
  have j1 : w3.cell? ⟨w.heap.size, 0, none⟩ = some (.int .u32 0) := HS3.out.b3.cell 0
  have j2 : w3.cell? ⟨w.heap.size, 1, none⟩ = some (.int .u32 i) := HS3.out.b3.cell 1
  clear hblk
  have HSA : Hid (∀ W : World, (W = w3 ∨ W = w3.drew ∨ W = w3.drew.drew) → MSt w W br o mo c0 c1 c2 c3 g n S0 R M i) := Lib.hid (fun W hW => by
    have h1 : w3.grownBy W none := by
      rcases hW with rfl | rfl | rfl
      · exact World.grownBy.refl _ _
      · exact only_drew (World.grownBy.refl _ _)
      · exact only_drew (only_drew (World.grownBy.refl _ _))
    exact HS3.out.next (grown_any h1) (HS3.out.tab.grown h1 (by simp)) hgw ho h0)
  have HMEET : Hid (∀ w5 : World, MSt w w5 br o mo c0 c1 c2 c3 g n S0 R M i → MSt w ((w5.setCell ⟨w.heap.size, 0, none⟩ (.int .u32 0)).setCell ⟨w.heap.size, 1, none⟩ (.int .u32 (R i : Nat))) br o mo c0 c1 c2 c3 g n S0 R M (R i)) := Lib.hid (fun w5 h => by
    have h1 : w5.grownBy ((w5.setCell ⟨w.heap.size, 0, none⟩ (.int .u32 0)).setCell ⟨w.heap.size, 1, none⟩ (.int .u32 (R i : Nat))) (some w.heap.size) :=
      only_setCell (p := ⟨w.heap.size, 1, none⟩) (only_setCell (p := ⟨w.heap.size, 0, none⟩) (World.grownBy.refl _ _) (Or.inl rfl) _) (Or.inl rfl) _
    exact ⟨(h.b3.set_ 0 _).set_ 1 _, h.ren.grown h.b3 (by decide) (by decide) h1, h.tab.grown h1 (fun e => by have := Option.some.inj e; omega), h.inv.grown h1 (fun e => by have := Option.some.inj e; omega), h.out.grown h1 (fun e => by have := Option.some.inj e; omega),
      only_setCell (p := ⟨w.heap.size, 1, none⟩) (only_setCell (p := ⟨w.heap.size, 0, none⟩) h.gr (Or.inr (Nat.le_refl _)) _) (Or.inr (Nat.le_refl _)) _⟩)
  go_enter Tryd.func12, Tryd.ntmps12
  go_upto_region 1 with fail
  rw [← HW3.out]
  clear hw3 HW3
  go_cut [] (fun wx => MSt w wx br o mo c0 c1 c2 c3 g n S0 R M (R i))
  case first =>
    go_region_with (go_at_call 22; refine (follow o g n S0 R M hn ho h0 HR.out (M i) i rfl hi _ (HSA.out _ (by first | exact Or.inl rfl | exact Or.inr (Or.inl rfl) | exact Or.inr (Or.inr rfl))).inv (HSA.out _ (by first | exact Or.inl rfl | exact Or.inr (Or.inl rfl) | exact Or.inr (Or.inr rfl))).out (HSA.out _ (by first | exact Or.inl rfl | exact Or.inr (Or.inl rfl) | exact Or.inr (Or.inr rfl))).tab).mono ?_; rintro e w5 ⟨rfl, ht5, hg5⟩; have hst := (HSA.out _ (by first | exact Or.inl rfl | exact Or.inr (Or.inl rfl) | exact Or.inr (Or.inr rfl))).next hg5 ht5 hgw ho h0; have kb0 : w5.cell? ⟨w.heap.size, 0, none⟩ = some (.int .u32 0) := hst.b3.cell 0; have kb1 : w5.cell? ⟨w.heap.size, 1, none⟩ = some (.int .u32 i) := hst.b3.cell 1; have kf0 : w5.frozen? ⟨w.heap.size, 0, none⟩ = false := hst.b3.frozen 0; have kf1 : w5.frozen? ⟨w.heap.size, 1, none⟩ = false := hst.b3.frozen 1; have HST := Lib.hid hst; clear hst hg5 ht5)
    all_goals
      go_wp2_with fail
      go_meet
      exact HMEET.out w5 HST.out
  case rest =>
    obtain ⟨wa, rfl⟩ : ∃ wa : World, wa = wc := ⟨_, rfl⟩
    have HST := Lib.hid hcut
    clear hcut HSA HS3 HMEET j0 j1 j2
    have hsc := HST.out.gr.size
    obtain ⟨s0, s1, s2, s3, mp, hblk, hf, ⟨gm, rfl, _, hm3⟩⟩ := HST.out.ren
    have j0 : wa.cell? ⟨br, 6, none⟩ = some (.slice (some ⟨o, 0, none⟩) 1 1) := hblk.cell 6
    have j1 : wa.cell? ⟨w.heap.size, 0, none⟩ = some (.int .u32 0) := HST.out.b3.cell 0
    have j2 : wa.cell? ⟨w.heap.size, 1, none⟩ = some (.int .u32 (R i : Nat)) := HST.out.b3.cell 1
    have HBLK := Lib.hid hblk; have HFL := Lib.hid hf; have HM3 := Lib.hid hm3
    have HSB : Hid (∀ W : World, (W = wa ∨ W = wa.drew ∨ W = wa.drew.drew) → Out1 W o g n) := Lib.hid (fun W hW => by
      rcases hW with rfl | rfl | rfl <;> exact HST.out.out)
    have HSC : Hid (∀ W w7 : World, (W = wa ∨ W = wa.drew ∨ W = wa.drew.drew) → W.grownBy w7 none → wa.grownBy w7 none) := Lib.hid (fun W w7 hW hg => by
      rcases hW with rfl | rfl | rfl <;> exact ⟨hg.os, hg.tape, hg.output, hg.size, hg.block⟩)
    clear hblk hf hm3
    go_wp2
    go_cut [5] (fun p wx => p = .pointer (some ⟨g, R i * 10, none⟩) ∧ wa.grownBy wx none)
    case first =>
      go_region_with (go_at_call 23; refine (getS o g n (R i) _ (HSB.out _ (by first | exact Or.inl rfl | exact Or.inr (Or.inl rfl) | exact Or.inr (Or.inr rfl))) hRn hn).mono ?_; rintro e w7 ⟨rfl, hg7⟩; have HG7 := Lib.hid (HSC.out _ w7 (by first | exact Or.inl rfl | exact Or.inr (Or.inl rfl) | exact Or.inr (Or.inr rfl)) hg7); clear hg7)
      all_goals
        go_wp2_with fail
        go_meet
        exact ⟨rfl, HG7.out⟩
    case rest =>
      obtain ⟨rfl, hgd⟩ := hcut
      have hst : MSt w wc br o mo c0 c1 c2 c3 g n S0 R M (R i) := HST.out.next (grown_any hgd) (HST.out.tab.grown hgd (by simp)) hgw ho h0
      have HST2 := Lib.hid hst; have HGD := Lib.hid hgd
      have m1 : wc.cell? ⟨g, R i * 10 + 1, none⟩ = some (.string (S0 (R i)).nm) := hst.tab.name hRn
      have m6 : wc.cell? ⟨g, R i * 10 + 6, none⟩ = some (.int .u32 (S0 (R i)).ns) := hst.tab.nest hRn
      have m7 : wc.cell? ⟨g, R i * 10 + 7, none⟩ = some (.int .u16 0) := by rw [← hfl]; exact hst.tab.flags hRn
      have m8 : wc.cell? ⟨g, R i * 10 + 8, none⟩ = some (.int .u8 (S0 (R i)).kd) := hst.tab.kind hRn
      obtain ⟨NM, hNM⟩ : ∃ x, x = nameOf (S0 (R i)) := ⟨_, rfl⟩
      have HNM : Hid (NM = nameOf (S0 (R i))) := Lib.hid hNM
      have HFIN : Hid (∀ W : World, wc.grownBy W none → Lk W g n S0 R M ∧ w.grownBy W (some g)) := Lib.hid (fun W h => ⟨hst.tab.grown h (by simp), grown_tr hst.gr (grown_any h)⟩)
      have HR2 := Lib.hid hst.ren
      have HB3 := Lib.hid hst.b3
      have hgl := hst.tab.lt
      have hb3l := hst.b3.lt
      clear hst hgd hNM hfl HST2 HST HSB HSC HBLK HFL HM3 j0 j1 j2
      generalize hr : S0 (R i) = r at *
      have HRR := Lib.hid hr
      obtain ⟨xn, xa, xb, xs, xf, xk⟩ := r
      simp only at m1 m6 m8 hkd hns hrg
      clear hr
      have M1 := Lib.hid m1; have M6 := Lib.hid m6
      rcases hkd with rfl | hkd
      · have HE : Hid (NM = xn) := Lib.hid (by rw [HNM.out]; exact if_pos (.inl rfl))
        go_wp2_with (go_at_call 24; refine (slotns g (R i) 0 (.inl rfl) _ m7 m8).mono ?_)
        rintro e w8 ⟨rfl, hg8⟩
        have n1 : w8.cell? ⟨g, R i * 10 + 1, none⟩ = some (.string xn) := (World.cell?_of_block (hg8.block g hgl (by simp))).trans M1.out
        have HF := Lib.hid (HFIN.out w8 hg8)
        clear hg8 m1 m6 m7 m8 M1 M6
        go_wp2
        go_ret
        exact ⟨ret_strM (HE.out.symm.trans (by rw [HRR.out]; exact HNM.out)), HF.out⟩
      · rcases hkd with rfl | rfl
        · go_wp2_with (go_at_call 24; refine (slotns g (R i) 27 (by unfold Kd; decide) _ m7 m8).mono ?_; rw [show nsU 27 = 0 from rfl])
          rintro e w8 ⟨rfl, hg8⟩
          have n1 : w8.cell? ⟨g, R i * 10 + 1, none⟩ = some (.string xn) := (World.cell?_of_block (hg8.block g hgl (by simp))).trans M1.out
          have n6 : w8.cell? ⟨g, R i * 10 + 6, none⟩ = some (.int .u32 xs) := (World.cell?_of_block (hg8.block g hgl (by simp))).trans M6.out
          have HF := Lib.hid (fun W (h : w8.grownBy W none) => HFIN.out W (grown_tr hg8 h))
          have hb8 := HB3.out.grown hg8 (by simp)
          have y0 : w8.cell? ⟨w.heap.size, 0, none⟩ = some (.int .u32 0) := hb8.cell 0
          have y1 : w8.cell? ⟨w.heap.size, 1, none⟩ = some (.int .u32 (R i : Nat)) := hb8.cell 1
          have hbl := hb8.lt
          obtain ⟨s0, s1, s2, s3, mp, hblk, hf, ⟨gm, rfl, _, hm3⟩⟩ := HR2.out.grow0 hg8
          have y5 : w8.cell? ⟨br, 5, none⟩ = some (.map (some gm)) := hblk.cell 5
          have y1s : w8.cell? ⟨br, 1, none⟩ = some s0 := hblk.cell 1
          have hbrl := hblk.lt
          have hgl8 := Nat.lt_of_lt_of_le hgl hg8.size
          have HM3 := Lib.hid hm3; have HFLD := Lib.hid hf
          clear hg8 hb8 hblk hf hm3 m1 m6 m7 m8
          by_cases hx : xs = 0
          · have HE : Hid (NM = xn) := Lib.hid (by rw [HNM.out]; exact if_pos (.inr hx))
            have t6 : (xs != 0) = false := by rw [hx]; rfl
            clear hx
            go_wp2_with (go_at_call 25; refine (isv_any xs false t6 _).mono ?_)
            rintro e w9 ⟨rfl, hg9⟩
            have hg89 : w8.grownBy w9 none := grown_tr (only_alloc (World.grownBy.refl _ _) _) hg9
            have z1 : w9.cell? ⟨g, R i * 10 + 1, none⟩ = some (.string xn) := (World.cell?_of_block (hg89.block g hgl8 (by simp))).trans n1
            have a0 : w9.cell? ⟨w.heap.size, 0, none⟩ = some (.int .u32 0) := (World.cell?_of_block (hg89.block w.heap.size hbl (by simp))).trans y0
            have a1 : w9.cell? ⟨w.heap.size, 1, none⟩ = some (.int .u32 (R i : Nat)) := (World.cell?_of_block (hg89.block w.heap.size hbl (by simp))).trans y1
            have a5 : w9.cell? ⟨br, 5, none⟩ = some (.map (some gm)) := (World.cell?_of_block (hg89.block br hbrl (by simp))).trans y5
            have hlk : (Instr.lookup 65 (.map (some gm)) (.agg #[.int .u32 0, .int .u32 (R i : Nat)]) true).run Tryd.prog w9.drew = .ok (.tuple #[.int .u32 0, .bool false]) w9.drew := look_empty w9.drew gm ((hg89.block gm (map_lt HM3.out) (by simp)).trans HM3.out) 0 (R i : Nat)
            have HF9 := Lib.hid (HF.out w9.drew (only_drew hg89))
            clear hg9 hg89 y0 y1 y5 n1 n6
            go_wp2
            go_region
            go_wp2
            go_ret
            exact ⟨ret_strM (HE.out.symm.trans (by rw [HRR.out]; exact HNM.out)), HF9.out⟩
          · have HE : Hid (NM = ⟨#[]⟩) := Lib.hid (by rw [HNM.out]; exact if_neg (by rintro (e | e); exact absurd (show (27 : Int) = 0 from e) (by decide); exact hx e))
            have t6 : (xs != 0) = true := by rw [bne_iff_ne]; exact hx
            obtain ⟨k, hk⟩ : ∃ k : Nat, 4294967295 - xs = k := ⟨(4294967295 - xs).toNat, by omega⟩
            have hkc : k < c0 := by
              rcases hrg with h | h | h
              · exact absurd h (by decide)
              · exact absurd h hx
              · rw [hk] at h
                have h' : (k : Int) < c0 := h
                omega
            have HKK := Lib.hid hk
            obtain ⟨gs, rfl, _, hgsb⟩ := HFLD.out.r0
            have y9 : w8.cell? ⟨gs, k * 3, none⟩ = some (.string ⟨#[]⟩) := by rw [hgsb.cell]; exact mkSl_name _ _ hkc
            have hgsl := hgsb.lt
            have HX0 := Lib.hid hns
            have hcc := hcs
            clear hx hgsb hk
            go_wp2_with (go_at_call 25; refine (isv_any xs true t6 _).mono ?_)
            rintro e w9 ⟨rfl, hg9⟩
            have hg89 : w8.grownBy w9 none := grown_tr (only_alloc (World.grownBy.refl _ _) _) hg9
            have hbx : w9.cell? ⟨w8.heap.size, 0, none⟩ = some (.int .u32 xs) := ((Blk.new w8 _ _).grown hg9 (by simp)).cell 0
            have hl9 := hg89.size
            have a5 : w9.cell? ⟨br, 1, none⟩ = some (.slice (some ⟨gs, 0, none⟩) c0 c0) := (World.cell?_of_block (hg89.block br hbrl (by simp))).trans y1s
            have a9 : w9.cell? ⟨gs, k * 3, none⟩ = some (.string ⟨#[]⟩) := (World.cell?_of_block (hg89.block gs hgsl (by simp))).trans y9
            have hbr9 := Nat.lt_of_lt_of_le hbrl hl9
            have hgs9 := Nat.lt_of_lt_of_le hgsl hl9
            have HF9 := Lib.hid (fun W (h : w9.grownBy W none) => HF.out W (grown_tr hg89 h))
            have HW9 : Hid (∀ W w10 : World, (W = w9 ∨ W = w9.drew ∨ W = w9.drew.drew) → W.grownBy w10 none → w9.grownBy w10 none) := Lib.hid (fun W w10 hW hg => by
              rcases hW with rfl | rfl | rfl <;> exact ⟨hg.os, hg.tape, hg.output, hg.size, hg.block⟩)
            have HA5 := Lib.hid a5; have HA9 := Lib.hid a9
            clear hg9 hg89 y0 y1 y5 n1 n6 y9 y1s
            go_wp2
            go_region_with (go_at_call 26; refine (getIdx xs HX0.out.1 HX0.out.2 _).mono ?_; rw [HKK.out]; rintro e w10 ⟨rfl, hg10⟩; have hg10' := HW9.out _ w10 (by first | exact Or.inl rfl | exact Or.inr (Or.inl rfl) | exact Or.inr (Or.inr rfl)) hg10; have b5 : w10.cell? ⟨br, 1, none⟩ = some (.slice (some ⟨gs, 0, none⟩) c0 c0) := (World.cell?_of_block (hg10'.block br hbr9 (by simp))).trans HA5.out; have b9 : w10.cell? ⟨gs, k * 3, none⟩ = some (.string ⟨#[]⟩) := (World.cell?_of_block (hg10'.block gs hgs9 (by simp))).trans HA9.out; have HF10 := Lib.hid (HF9.out w10 hg10'); clear hg10 hg10')
            all_goals
              go_wp2
              go_ret
              exact ⟨ret_strM (HE.out.symm.trans (by rw [HRR.out]; exact HNM.out)), HF10.out⟩
        · go_wp2_with (go_at_call 24; refine (slotns g (R i) 18 (by unfold Kd; decide) _ m7 m8).mono ?_; rw [show nsU 18 = 1 from rfl])
          rintro e w8 ⟨rfl, hg8⟩
          have n1 : w8.cell? ⟨g, R i * 10 + 1, none⟩ = some (.string xn) := (World.cell?_of_block (hg8.block g hgl (by simp))).trans M1.out
          have n6 : w8.cell? ⟨g, R i * 10 + 6, none⟩ = some (.int .u32 xs) := (World.cell?_of_block (hg8.block g hgl (by simp))).trans M6.out
          have HF := Lib.hid (fun W (h : w8.grownBy W none) => HFIN.out W (grown_tr hg8 h))
          have hb8 := HB3.out.grown hg8 (by simp)
          have y0 : w8.cell? ⟨w.heap.size, 0, none⟩ = some (.int .u32 0) := hb8.cell 0
          have y1 : w8.cell? ⟨w.heap.size, 1, none⟩ = some (.int .u32 (R i : Nat)) := hb8.cell 1
          have hbl := hb8.lt
          obtain ⟨s0, s1, s2, s3, mp, hblk, hf, ⟨gm, rfl, _, hm3⟩⟩ := HR2.out.grow0 hg8
          have y5 : w8.cell? ⟨br, 5, none⟩ = some (.map (some gm)) := hblk.cell 5
          have y2s : w8.cell? ⟨br, 2, none⟩ = some s1 := hblk.cell 2
          have hbrl := hblk.lt
          have hgl8 := Nat.lt_of_lt_of_le hgl hg8.size
          have HM3 := Lib.hid hm3; have HFLD := Lib.hid hf
          clear hg8 hb8 hblk hf hm3 m1 m6 m7 m8
          by_cases hx : xs = 0
          · have HE : Hid (NM = xn) := Lib.hid (by rw [HNM.out]; exact if_pos (.inr hx))
            have t6 : (xs != 0) = false := by rw [hx]; rfl
            clear hx
            go_wp2_with (go_at_call 25; refine (isv_any xs false t6 _).mono ?_)
            rintro e w9 ⟨rfl, hg9⟩
            have hg89 : w8.grownBy w9 none := grown_tr (only_alloc (World.grownBy.refl _ _) _) hg9
            have z1 : w9.cell? ⟨g, R i * 10 + 1, none⟩ = some (.string xn) := (World.cell?_of_block (hg89.block g hgl8 (by simp))).trans n1
            have a0 : w9.cell? ⟨w.heap.size, 0, none⟩ = some (.int .u32 0) := (World.cell?_of_block (hg89.block w.heap.size hbl (by simp))).trans y0
            have a1 : w9.cell? ⟨w.heap.size, 1, none⟩ = some (.int .u32 (R i : Nat)) := (World.cell?_of_block (hg89.block w.heap.size hbl (by simp))).trans y1
            have a5 : w9.cell? ⟨br, 5, none⟩ = some (.map (some gm)) := (World.cell?_of_block (hg89.block br hbrl (by simp))).trans y5
            have hlk : (Instr.lookup 65 (.map (some gm)) (.agg #[.int .u32 0, .int .u32 (R i : Nat)]) true).run Tryd.prog w9.drew = .ok (.tuple #[.int .u32 0, .bool false]) w9.drew := look_empty w9.drew gm ((hg89.block gm (map_lt HM3.out) (by simp)).trans HM3.out) 0 (R i : Nat)
            have HF9 := Lib.hid (HF.out w9.drew (only_drew hg89))
            clear hg9 hg89 y0 y1 y5 n1 n6
            go_wp2
            go_region
            go_wp2
            go_ret
            exact ⟨ret_strM (HE.out.symm.trans (by rw [HRR.out]; exact HNM.out)), HF9.out⟩
          · have HE : Hid (NM = ⟨#[]⟩) := Lib.hid (by rw [HNM.out]; exact if_neg (by rintro (e | e); exact absurd (show (18 : Int) = 0 from e) (by decide); exact hx e))
            have t6 : (xs != 0) = true := by rw [bne_iff_ne]; exact hx
            obtain ⟨k, hk⟩ : ∃ k : Nat, 4294967295 - xs = k := ⟨(4294967295 - xs).toNat, by omega⟩
            have hkc : k < c1 := by
              rcases hrg with h | h | h
              · exact absurd h (by decide)
              · exact absurd h hx
              · rw [hk] at h
                have h' : (k : Int) < c1 := h
                omega
            have HKK := Lib.hid hk
            obtain ⟨gs, rfl, _, hgsb⟩ := HFLD.out.r1
            have y9 : w8.cell? ⟨gs, k * 3, none⟩ = some (.string ⟨#[]⟩) := by rw [hgsb.cell]; exact mkSl_name _ _ hkc
            have hgsl := hgsb.lt
            have HX0 := Lib.hid hns
            have hcc := hcs
            clear hx hgsb hk
            go_wp2_with (go_at_call 25; refine (isv_any xs true t6 _).mono ?_)
            rintro e w9 ⟨rfl, hg9⟩
            have hg89 : w8.grownBy w9 none := grown_tr (only_alloc (World.grownBy.refl _ _) _) hg9
            have hbx : w9.cell? ⟨w8.heap.size, 0, none⟩ = some (.int .u32 xs) := ((Blk.new w8 _ _).grown hg9 (by simp)).cell 0
            have hl9 := hg89.size
            have a5 : w9.cell? ⟨br, 2, none⟩ = some (.slice (some ⟨gs, 0, none⟩) c1 c1) := (World.cell?_of_block (hg89.block br hbrl (by simp))).trans y2s
            have a9 : w9.cell? ⟨gs, k * 3, none⟩ = some (.string ⟨#[]⟩) := (World.cell?_of_block (hg89.block gs hgsl (by simp))).trans y9
            have hbr9 := Nat.lt_of_lt_of_le hbrl hl9
            have hgs9 := Nat.lt_of_lt_of_le hgsl hl9
            have HF9 := Lib.hid (fun W (h : w9.grownBy W none) => HF.out W (grown_tr hg89 h))
            have HW9 : Hid (∀ W w10 : World, (W = w9 ∨ W = w9.drew ∨ W = w9.drew.drew) → W.grownBy w10 none → w9.grownBy w10 none) := Lib.hid (fun W w10 hW hg => by
              rcases hW with rfl | rfl | rfl <;> exact ⟨hg.os, hg.tape, hg.output, hg.size, hg.block⟩)
            have HA5 := Lib.hid a5; have HA9 := Lib.hid a9
            clear hg9 hg89 y0 y1 y5 n1 n6 y9 y2s
            go_wp2
            go_region_with (go_at_call 26; refine (getIdx xs HX0.out.1 HX0.out.2 _).mono ?_; rw [HKK.out]; rintro e w10 ⟨rfl, hg10⟩; have hg10' := HW9.out _ w10 (by first | exact Or.inl rfl | exact Or.inr (Or.inl rfl) | exact Or.inr (Or.inr rfl)) hg10; have b5 : w10.cell? ⟨br, 2, none⟩ = some (.slice (some ⟨gs, 0, none⟩) c1 c1) := (World.cell?_of_block (hg10'.block br hbr9 (by simp))).trans HA5.out; have b9 : w10.cell? ⟨gs, k * 3, none⟩ = some (.string ⟨#[]⟩) := (World.cell?_of_block (hg10'.block gs hgs9 (by simp))).trans HA9.out; have HF10 := Lib.hid (HF9.out w10 hg10'); clear hg10 hg10')
            all_goals
              go_wp2
              go_ret
              exact ⟨ret_strM (HE.out.symm.trans (by rw [HRR.out]; exact HNM.out)), HF10.out⟩
end Go.Proofs.YtgjmjdacdjobjaaDoor
