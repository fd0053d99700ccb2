/- MinifyRenamer.AccumulateSymbolCount. -/
import Derived.Test.YtdmllmipcfkaaaaDoorAcc
import Derived.Test.YtdmllmipcfkaaaaDoorMsn
import Derived.Laws.LoneSync
namespace Go.Proofs.YtdmllmipcfkaaaaDoor
open Go.RowKit
set_option linter.unusedVariables false
set_option linter.unusedSimpArgs false
theorem Lk.blk {w : World} {g n : Nat} {S0 : Nat → SymR} {R M : Nat → Nat} (h : Lk w g n S0 R M) : ∃ cs, Blk w g 66 cs := by obtain ⟨S, ⟨cs, h1, _⟩, _⟩ := h; exact ⟨cs, h1⟩
/-- The renamer lies still while a block of another type turns. -/
theorem RS.other {o : Nat} {mo : Option Nat} {br gm : Nat} {gs cn : Nat → Nat} {cf pf : Nat → Nat → Int} {w w' : World} {g : Nat} {t : TypeId} {cs : Array Value} (h : RS o mo br gm gs cn cf pf w) (hb : Blk w g t cs) (h1 : t ≠ 55) (h2 : t ≠ 81) (hg : w.grownBy w' (some g)) : RS o mo br gm gs cn cf pf w' :=
  h.turned (S := fun x => x = g) (Turned.of_grown hg (fun _ e => (Option.some.inj e).symm)) (fun e => by subst e; exact Blk.ne_ hb h.blk h1 rfl) (fun j hj e => by obtain ⟨cs', hc⟩ := (h.slt j hj).blk; rw [e] at hc; exact Blk.ne_ hb hc h2 rfl)
structure ASt (w W : World) (o : Nat) (mo : Option Nat) (br gm : Nat) (gs cn : Nat → Nat) (cf pf : Nat → Nat → Int) (g n : Nat) (S0 : Nat → SymR) (R M : Nat → Nat) (i : Nat) : Prop where
  b3 : Blk W w.heap.size 44 #[.int .u32 0, .int .u32 i]
  rs : RS o mo br gm gs cn cf pf W
  tab : Lk W g n S0 R M
  inv : Inv W
  out : Out1 W o g n
  gr : w.grownBy W (some g)
theorem ASt.next {w W W' : World} {o : Nat} {mo : Option Nat} {br gm : Nat} {gs cn : Nat → Nat} {cf pf : Nat → Nat → Int} {g n : Nat} {S0 : Nat → SymR} {R M : Nat → Nat} {i : Nat} (h : ASt w W o mo br gm gs cn cf pf g n S0 R M i) (hg : W.grownBy W' (some g)) (ht : Lk W' g n S0 R M) (hgw : g < w.heap.size) (ho : o ≠ g) (h0 : g ≠ 0) : ASt w W' o mo br gm gs cn cf pf g n S0 R M i := by
  obtain ⟨cs, hb⟩ := h.tab.blk
  exact ⟨h.b3.grown hg (by simp; omega), h.rs.other hb (by decide) (by decide) hg, ht, h.inv.grown hg (by simp; omega), h.out.grown hg (by simpa using ho), grown_tr h.gr hg⟩
def PinPost (w : World) (g n : Nat) (S0 : Nat → SymR) (R M : Nat → Nat) (e : Ending) (w' : World) : Prop := e = .returned (.tuple #[]) ∧ Lk w' g n S0 R M ∧ w.grownBy w' (some g)
set_option maxHeartbeats 8000000 in
set_option maxRecDepth 100000 in
theorem acc_pin (br o : Nat) (mo : Option Nat) (gm : Nat) (gs cn : Nat → Nat) (cf pf : Nat → Nat → Int) (g n : Nat) (S0 : Nat → SymR) (R M : Nat → Nat) (i : Nat) (w : World) (hn : n ≤ 16777216) (ho : o ≠ g) (h0 : g ≠ 0) (hR : Roots n R M) (hi : i < n) (hinv : Inv w) (hout : Out1 w o g n) (htab : Lk w g n S0 R M) (hrs : RS o mo br gm gs cn cf pf w) (pv av : Value) (count f1 : Int) (hpin : (S0 (R i)).kd = 0 ∨ (((S0 (R i)).kd = 27 ∨ (S0 (R i)).kd = 18) ∧ f1 ≠ 0)) (hbit : bits .and .u16 (S0 (R i)).fl 1 = f1) :
    Calls Tryd.prog 10 #[.pointer (some ⟨br, 0, none⟩), pv, .agg #[.int .u32 0, .int .u32 i], .int .u32 count, av] w (PinPost w g n S0 R M) := by
  have HBIT := Lib.hid hbit; have HPIN := Lib.hid hpin
  clear hbit hpin
  have hgw := htab.lt
  have how := hout.lt
  have h0w := hinv.pos
  have hRn : R i < n := (hR i hi).1
  obtain ⟨w3, hw3⟩ : ∃ w3, w3 = w.alloc (.cells #[.int .u32 0, .int .u32 i] 44) := ⟨_, rfl⟩
  have hgn : w.grownBy w3 none := by rw [hw3]; exact only_alloc (World.grownBy.refl _ _) _
  have S3 : ASt w w3 o mo br gm gs cn cf pf g n S0 R M i :=
    ⟨by rw [hw3]; exact Blk.new _ _ _, hrs.turned (Turned.of_grown (S := fun _ => False) hgn (fun _ e => by cases e)) (fun e => e) (fun _ _ e => e), htab.grown hgn (by simp), hinv.grown hgn (by simp), hout.grown hgn (by simp), grown_any hgn⟩
  have HS3 := Lib.hid S3; have HR := Lib.hid hR; have HW3 := Lib.hid hw3
  clear S3 hgn hrs htab hinv hout hR
  have j0 : w3.cell? ⟨br, 6, none⟩ = some (.slice (some ⟨o, 0, none⟩) 1 1) := HS3.out.rs.blk.cell 6
  have j1 : w3.cell? ⟨w.heap.size, 0, none⟩ = some (.int .u32 0) := HS3.out.b3.cell 0
  have j2 : w3.cell? ⟨w.heap.size, 1, none⟩ = some (.int .u32 i) := HS3.out.b3.cell 1
  have HSA : Hid (∀ W : World, (W = w3 ∨ W = w3.drew ∨ W = w3.drew.drew) → ASt w W o mo br gm gs cn cf pf g n S0 R M i) := Lib.hid (fun W hW => by
    have h1 : w3.grownBy W none := by
      rcases hW with rfl | rfl | rfl
      · exact World.grownBy.refl _ _
      · exact only_drew (World.grownBy.refl _ _)
      · exact only_drew (only_drew (World.grownBy.refl _ _))
    exact HS3.out.next (grown_any h1) (HS3.out.tab.grown h1 (by simp)) hgw ho h0)
  have HMEET : Hid (∀ w5 : World, ASt w w5 o mo br gm gs cn cf pf g n S0 R M i → ASt w ((w5.setCell ⟨w.heap.size, 0, none⟩ (.int .u32 0)).setCell ⟨w.heap.size, 1, none⟩ (.int .u32 (R i : Nat))) o mo br gm gs cn cf pf g n S0 R M (R i)) := Lib.hid (fun w5 h => by
    have h1 : w5.grownBy ((w5.setCell ⟨w.heap.size, 0, none⟩ (.int .u32 0)).setCell ⟨w.heap.size, 1, none⟩ (.int .u32 (R i : Nat))) (some w.heap.size) :=
      only_setCell (p := ⟨w.heap.size, 1, none⟩) (only_setCell (p := ⟨w.heap.size, 0, none⟩) (World.grownBy.refl _ _) (Or.inl rfl) _) (Or.inl rfl) _
    exact ⟨(h.b3.set_ 0 _).set_ 1 _, h.rs.other h.b3 (by decide) (by decide) h1, h.tab.grown h1 (fun e => by have := Option.some.inj e; omega), h.inv.grown h1 (fun e => by have := Option.some.inj e; omega), h.out.grown h1 (fun e => by have := Option.some.inj e; omega),
      only_setCell (p := ⟨w.heap.size, 1, none⟩) (only_setCell (p := ⟨w.heap.size, 0, none⟩) h.gr (Or.inr (Nat.le_refl _)) _) (Or.inr (Nat.le_refl _)) _⟩)
  go_enter Tryd.func10, Tryd.ntmps10
  go_upto_region 1 with fail
  rw [← HW3.out]
  clear hw3 HW3
  go_cut [] (fun wx => ASt w wx o mo br gm gs cn cf pf g n S0 R M (R i))
  case first =>
    go_region_with (go_at_call 18; refine (follow o g n S0 R M hn ho h0 HR.out (M i) i rfl hi _ (HSA.out _ (by first | exact Or.inl rfl | exact Or.inr (Or.inl rfl) | exact Or.inr (Or.inr rfl))).inv (HSA.out _ (by first | exact Or.inl rfl | exact Or.inr (Or.inl rfl) | exact Or.inr (Or.inr rfl))).out (HSA.out _ (by first | exact Or.inl rfl | exact Or.inr (Or.inl rfl) | exact Or.inr (Or.inr rfl))).tab).mono ?_; rintro e w5 ⟨rfl, ht5, hg5⟩; have hst := (HSA.out _ (by first | exact Or.inl rfl | exact Or.inr (Or.inl rfl) | exact Or.inr (Or.inr rfl))).next hg5 ht5 hgw ho h0; have kb0 : w5.cell? ⟨w.heap.size, 0, none⟩ = some (.int .u32 0) := hst.b3.cell 0; have kb1 : w5.cell? ⟨w.heap.size, 1, none⟩ = some (.int .u32 i) := hst.b3.cell 1; have kf0 : w5.frozen? ⟨w.heap.size, 0, none⟩ = false := hst.b3.frozen 0; have kf1 : w5.frozen? ⟨w.heap.size, 1, none⟩ = false := hst.b3.frozen 1; have HST := Lib.hid hst; clear hst hg5 ht5)
    all_goals
      go_wp2_with fail
      go_meet
      exact HMEET.out w5 HST.out
  case rest =>
    obtain ⟨wa, rfl⟩ : ∃ wa : World, wa = wc := ⟨_, rfl⟩
    have HST := Lib.hid hcut
    clear hcut HSA HS3 HMEET j0 j1 j2
    have hsc := HST.out.gr.size
    have j0 : wa.cell? ⟨br, 6, none⟩ = some (.slice (some ⟨o, 0, none⟩) 1 1) := HST.out.rs.blk.cell 6
    have j1 : wa.cell? ⟨w.heap.size, 0, none⟩ = some (.int .u32 0) := HST.out.b3.cell 0
    have j2 : wa.cell? ⟨w.heap.size, 1, none⟩ = some (.int .u32 (R i : Nat)) := HST.out.b3.cell 1
    have HSB : Hid (∀ W : World, (W = wa ∨ W = wa.drew ∨ W = wa.drew.drew) → Out1 W o g n) := Lib.hid (fun W hW => by
      rcases hW with rfl | rfl | rfl <;> exact HST.out.out)
    have HSC : Hid (∀ W w7 : World, (W = wa ∨ W = wa.drew ∨ W = wa.drew.drew) → W.grownBy w7 none → wa.grownBy w7 none) := Lib.hid (fun W w7 hW hg => by
      rcases hW with rfl | rfl | rfl <;> exact ⟨hg.os, hg.tape, hg.output, hg.size, hg.block⟩)
    go_wp2
    go_cut [10] (fun p wx => p = .pointer (some ⟨g, R i * 10, none⟩) ∧ wa.grownBy wx none)
    case first =>
      go_region_with (go_at_call 19; refine (getS o g n (R i) _ (HSB.out _ (by first | exact Or.inl rfl | exact Or.inr (Or.inl rfl) | exact Or.inr (Or.inr rfl))) hRn hn).mono ?_; rintro e w7 ⟨rfl, hg7⟩; have HG7 := Lib.hid (HSC.out _ w7 (by first | exact Or.inl rfl | exact Or.inr (Or.inl rfl) | exact Or.inr (Or.inr rfl)) hg7); clear hg7)
      all_goals
        go_wp2_with fail
        go_meet
        exact ⟨rfl, HG7.out⟩
    case rest =>
      obtain ⟨rfl, hgd⟩ := hcut
      obtain ⟨wb, rfl⟩ : ∃ wb : World, wb = wc := ⟨_, rfl⟩
      have hst : ASt w wb o mo br gm gs cn cf pf g n S0 R M (R i) := HST.out.next (grown_any hgd) (HST.out.tab.grown hgd (by simp)) hgw ho h0
      have HST2 := Lib.hid hst
      have m0 : wb.cell? ⟨g, R i * 10, none⟩ = some (.pointer none) := hst.tab.alias_ hRn
      have m6 : wb.cell? ⟨g, R i * 10 + 6, none⟩ = some (.int .u32 (S0 (R i)).ns) := hst.tab.nest hRn
      have m7 : wb.cell? ⟨g, R i * 10 + 7, none⟩ = some (.int .u16 (S0 (R i)).fl) := hst.tab.flags hRn
      have m8 : wb.cell? ⟨g, R i * 10 + 8, none⟩ = some (.int .u8 (S0 (R i)).kd) := hst.tab.kind hRn
      have hgl := hst.tab.lt
      have hb3l := hst.b3.lt
      clear hst hgd HST HSB HSC j0 j1 j2
      go_wp2
      go_loop [10] (fun p => p = .pointer (some ⟨g, R i * 10, none⟩)) (fun _ => 0)
      case atStart => rfl
      case round =>
        subst hrel
        go_wp2_with (go_at_call 20; refine (slotns_pin g (R i) _ _ _ HPIN.out HBIT.out _ m7 m8).mono ?_)
        rintro e w8 ⟨rfl, hg8⟩
        have HF : Hid (Lk w8 g n S0 R M ∧ w.grownBy w8 (some g)) := Lib.hid ⟨HST2.out.tab.grown hg8 (by simp), grown_tr HST2.out.gr (grown_any hg8)⟩
        clear hg8
        go_wp2
        (try refine bodyPost_ret (results_none rfl _ _ _) rfl ?_)
        (try go_end0)
        exact ⟨rfl, HF.out⟩
def upd2 (f : Nat → Nat → Int) (j i : Nat) (v : Int) : Nat → Nat → Int := fun a => if a = j then updI (f a) i v else f a
theorem upd2_at (f : Nat → Nat → Int) (j i : Nat) (v : Int) : upd2 f j i v j = updI (f j) i v := if_pos rfl
theorem upd2_ne {f : Nat → Nat → Int} {j a : Nat} (i : Nat) (v : Int) (h : a ≠ j) : upd2 f j i v a = f a := if_neg h
theorem SlT.far {w : World} {g c : Nat} {cf pf : Nat → Int} (h : SlT w g c cf pf) {p : Addr} (hp : g ≠ p.block) (u : Value) : SlT (w.setCell p u) g c cf pf := by
  obtain ⟨cs, h1, h2⟩ := h
  exact ⟨cs, h1.far hp u, h2⟩
theorem results_none {fn : Func} (h : fn.results = #[]) (tmps : Array Value) (P : Program) (w : World) : (results fn tmps).run P w = .ok (.tuple #[]) w := by simp [results, h]
section
variable {o : Nat} {mo : Option Nat} {br gm : Nat} {gs cn : Nat → Nat} {cf pf : Nat → Nat → Int} {w : World}
theorem RS.br_ne (h : RS o mo br gm gs cn cf pf w) {j : Nat} (hj : j < 4) : br ≠ gs j := by
  obtain ⟨cs, hc⟩ := (h.slt j hj).blk
  exact Blk.ne_ h.blk hc (by decide)
theorem RS.setCnt (h : RS o mo br gm gs cn cf pf w) {j k : Nat} (hj : j < 4) (hk : k < cn j) (v : Int) : RS o mo br gm gs cn (upd2 cf j k v) pf (w.setCell ⟨gs j, k * 3 + 1, none⟩ (.int .u32 v)) := by
  refine ⟨h.blk.far (p := ⟨gs j, k * 3 + 1, none⟩) (h.br_ne hj) _, fun a ha => ?_, h.inj⟩
  by_cases e : a = j
  · subst e; rw [upd2_at]; exact (h.slt a ha).setCnt hk v
  · rw [upd2_ne _ _ e]; exact (h.slt a ha).far (p := ⟨gs j, k * 3 + 1, none⟩) (fun e' => e (h.inj a j ha hj e')) _
theorem RS.setCap (h : RS o mo br gm gs cn cf pf w) {j k : Nat} (hj : j < 4) (hk : k < cn j) (v : Int) : RS o mo br gm gs cn cf (upd2 pf j k v) (w.setCell ⟨gs j, k * 3 + 2, none⟩ (.int .u32 v)) := by
  refine ⟨h.blk.far (p := ⟨gs j, k * 3 + 2, none⟩) (h.br_ne hj) _, fun a ha => ?_, h.inj⟩
  by_cases e : a = j
  · subst e; rw [upd2_at]; exact (h.slt a ha).setCap hk v
  · rw [upd2_ne _ _ e]; exact (h.slt a ha).far (p := ⟨gs j, k * 3 + 2, none⟩) (fun e' => e (h.inj a j ha hj e')) _
end
def NestPost2 (w : World) (o : Nat) (mo : Option Nat) (br gm : Nat) (gs cn : Nat → Nat) (cf pf : Nat → Nat → Int) (g n : Nat) (S0 : Nat → SymR) (R M : Nat → Nat) (j : Nat) (e : Ending) (w' : World) : Prop :=
  e = .returned (.tuple #[]) ∧ Lk w' g n S0 R M ∧ RS o mo br gm gs cn cf pf w' ∧ Turned (fun b => b = g ∨ b = gs j) w w'
set_option maxHeartbeats 16000000 in
set_option maxRecDepth 100000 in
theorem acc_nest0 (br o : Nat) (mo : Option Nat) (gm : Nat) (gs cn : Nat → Nat) (cf pf : Nat → Nat → Int) (g n : Nat) (S0 : Nat → SymR) (R M : Nat → Nat) (i : Nat) (w : World) (hn : n ≤ 16777216) (ho : o ≠ g) (h0 : g ≠ 0) (hR : Roots n R M) (hi : i < n) (hinv : Inv w) (hout : Out1 w o g n) (htab : Lk w g n S0 R M) (hrs : RS o mo br gm gs cn cf pf w) (pv av : Value) (count fj : Int) (k : Nat) (hkd : (S0 (R i)).kd = 27) (hbit : bits .and .u16 (S0 (R i)).fl 1 = 0) (hbj : bits .and .u16 (S0 (R i)).fl 2 = fj)
    (hns : 0 ≤ (S0 (R i)).ns ∧ (S0 (R i)).ns ≤ 4294967295) (hn0 : (S0 (R i)).ns ≠ 0) (hk : 4294967295 - (S0 (R i)).ns = k) (hkc : k < cn 0) (hcc : cn 0 ≤ 65536) :
    Calls Tryd.prog 10 #[.pointer (some ⟨br, 0, none⟩), pv, .agg #[.int .u32 0, .int .u32 i], .int .u32 count, av] w (NestPost2 w o mo br gm gs cn (upd2 cf 0 k (IntKind.u32.wrap (cf 0 k + count))) (if fj = 0 then pf else upd2 pf 0 k 1) g n S0 R M 0) := by
  obtain ⟨NC, hNC⟩ : ∃ x, x = IntKind.u32.wrap (cf 0 k + count) := ⟨_, rfl⟩
  rw [← hNC]
  have HNC := Lib.hid hNC
  obtain ⟨pfN, hPF⟩ : ∃ x, x = (if fj = 0 then pf else upd2 pf 0 k 1) := ⟨_, rfl⟩
  rw [← hPF]
  have HPF := Lib.hid hPF
  generalize hr : S0 (R i) = r at hkd hbit hbj hns hn0 hk
  obtain ⟨xn, xa, xb, xs, xf, xk⟩ := r
  simp only at hkd hbit hbj hns hn0 hk
  subst hkd
  have HRR := Lib.hid hr
  have t6 : (xs != 0) = true := by rw [bne_iff_ne]; exact hn0
  have HBIT := Lib.hid hbit; have HBJ := Lib.hid hbj; have HKK := Lib.hid hk; have HXS := Lib.hid hns
  clear hbit hbj hk hns hn0 hr hPF hNC
  have hgw := htab.lt
  have how := hout.lt
  have h0w := hinv.pos
  have hRn : R i < n := (hR i hi).1
  obtain ⟨w3, hw3⟩ : ∃ w3, w3 = w.alloc (.cells #[.int .u32 0, .int .u32 i] 44) := ⟨_, rfl⟩
  have hgn : w.grownBy w3 none := by rw [hw3]; exact only_alloc (World.grownBy.refl _ _) _
  have S3 : ASt w w3 o mo br gm gs cn cf pf g n S0 R M i :=
    ⟨by rw [hw3]; exact Blk.new _ _ _, hrs.turned (Turned.of_grown (S := fun _ => False) hgn (fun _ e => by cases e)) (fun e => e) (fun _ _ e => e), htab.grown hgn (by simp), hinv.grown hgn (by simp), hout.grown hgn (by simp), grown_any hgn⟩
  have HS3 := Lib.hid S3; have HR := Lib.hid hR; have HW3 := Lib.hid hw3
  clear S3 hgn hrs htab hinv hout hR
  have j0 : w3.cell? ⟨br, 6, none⟩ = some (.slice (some ⟨o, 0, none⟩) 1 1) := HS3.out.rs.blk.cell 6
  have j1 : w3.cell? ⟨w.heap.size, 0, none⟩ = some (.int .u32 0) := HS3.out.b3.cell 0
  have j2 : w3.cell? ⟨w.heap.size, 1, none⟩ = some (.int .u32 i) := HS3.out.b3.cell 1
  have HSA : Hid (∀ W : World, (W = w3 ∨ W = w3.drew ∨ W = w3.drew.drew) → ASt w W o mo br gm gs cn cf pf g n S0 R M i) := Lib.hid (fun W hW => by
    have h1 : w3.grownBy W none := by
      rcases hW with rfl | rfl | rfl
      · exact World.grownBy.refl _ _
      · exact only_drew (World.grownBy.refl _ _)
      · exact only_drew (only_drew (World.grownBy.refl _ _))
    exact HS3.out.next (grown_any h1) (HS3.out.tab.grown h1 (by simp)) hgw ho h0)
  have HMEET : Hid (∀ w5 : World, ASt w w5 o mo br gm gs cn cf pf g n S0 R M i → ASt w ((w5.setCell ⟨w.heap.size, 0, none⟩ (.int .u32 0)).setCell ⟨w.heap.size, 1, none⟩ (.int .u32 (R i : Nat))) o mo br gm gs cn cf pf g n S0 R M (R i)) := Lib.hid (fun w5 h => by
    have h1 : w5.grownBy ((w5.setCell ⟨w.heap.size, 0, none⟩ (.int .u32 0)).setCell ⟨w.heap.size, 1, none⟩ (.int .u32 (R i : Nat))) (some w.heap.size) :=
      only_setCell (p := ⟨w.heap.size, 1, none⟩) (only_setCell (p := ⟨w.heap.size, 0, none⟩) (World.grownBy.refl _ _) (Or.inl rfl) _) (Or.inl rfl) _
    exact ⟨(h.b3.set_ 0 _).set_ 1 _, h.rs.other h.b3 (by decide) (by decide) h1, h.tab.grown h1 (fun e => by have := Option.some.inj e; omega), h.inv.grown h1 (fun e => by have := Option.some.inj e; omega), h.out.grown h1 (fun e => by have := Option.some.inj e; omega),
      only_setCell (p := ⟨w.heap.size, 1, none⟩) (only_setCell (p := ⟨w.heap.size, 0, none⟩) h.gr (Or.inr (Nat.le_refl _)) _) (Or.inr (Nat.le_refl _)) _⟩)
  go_enter Tryd.func10, Tryd.ntmps10
  go_upto_region 1 with fail
  rw [← HW3.out]
  clear hw3 HW3
  go_cut [] (fun wx => ASt w wx o mo br gm gs cn cf pf g n S0 R M (R i))
  case first =>
    go_region_with (go_at_call 18; refine (follow o g n S0 R M hn ho h0 HR.out (M i) i rfl hi _ (HSA.out _ (by first | exact Or.inl rfl | exact Or.inr (Or.inl rfl) | exact Or.inr (Or.inr rfl))).inv (HSA.out _ (by first | exact Or.inl rfl | exact Or.inr (Or.inl rfl) | exact Or.inr (Or.inr rfl))).out (HSA.out _ (by first | exact Or.inl rfl | exact Or.inr (Or.inl rfl) | exact Or.inr (Or.inr rfl))).tab).mono ?_; rintro e w5 ⟨rfl, ht5, hg5⟩; have hst := (HSA.out _ (by first | exact Or.inl rfl | exact Or.inr (Or.inl rfl) | exact Or.inr (Or.inr rfl))).next hg5 ht5 hgw ho h0; have kb0 : w5.cell? ⟨w.heap.size, 0, none⟩ = some (.int .u32 0) := hst.b3.cell 0; have kb1 : w5.cell? ⟨w.heap.size, 1, none⟩ = some (.int .u32 i) := hst.b3.cell 1; have kf0 : w5.frozen? ⟨w.heap.size, 0, none⟩ = false := hst.b3.frozen 0; have kf1 : w5.frozen? ⟨w.heap.size, 1, none⟩ = false := hst.b3.frozen 1; have HST := Lib.hid hst; clear hst hg5 ht5)
    all_goals
      go_wp2_with fail
      go_meet
      exact HMEET.out w5 HST.out
  case rest =>
    obtain ⟨wa, rfl⟩ : ∃ wa : World, wa = wc := ⟨_, rfl⟩
    have HST := Lib.hid hcut
    clear hcut HSA HS3 HMEET j0 j1 j2
    have hsc := HST.out.gr.size
    have j0 : wa.cell? ⟨br, 6, none⟩ = some (.slice (some ⟨o, 0, none⟩) 1 1) := HST.out.rs.blk.cell 6
    have j1 : wa.cell? ⟨w.heap.size, 0, none⟩ = some (.int .u32 0) := HST.out.b3.cell 0
    have j2 : wa.cell? ⟨w.heap.size, 1, none⟩ = some (.int .u32 (R i : Nat)) := HST.out.b3.cell 1
    have HSB : Hid (∀ W : World, (W = wa ∨ W = wa.drew ∨ W = wa.drew.drew) → Out1 W o g n) := Lib.hid (fun W hW => by
      rcases hW with rfl | rfl | rfl <;> exact HST.out.out)
    have HSC : Hid (∀ W w7 : World, (W = wa ∨ W = wa.drew ∨ W = wa.drew.drew) → W.grownBy w7 none → wa.grownBy w7 none) := Lib.hid (fun W w7 hW hg => by
      rcases hW with rfl | rfl | rfl <;> exact ⟨hg.os, hg.tape, hg.output, hg.size, hg.block⟩)
    go_wp2
    go_cut [10] (fun p wx => p = .pointer (some ⟨g, R i * 10, none⟩) ∧ wa.grownBy wx none)
    case first =>
      go_region_with (go_at_call 19; refine (getS o g n (R i) _ (HSB.out _ (by first | exact Or.inl rfl | exact Or.inr (Or.inl rfl) | exact Or.inr (Or.inr rfl))) hRn hn).mono ?_; rintro e w7 ⟨rfl, hg7⟩; have HG7 := Lib.hid (HSC.out _ w7 (by first | exact Or.inl rfl | exact Or.inr (Or.inl rfl) | exact Or.inr (Or.inr rfl)) hg7); clear hg7)
      all_goals
        go_wp2_with fail
        go_meet
        exact ⟨rfl, HG7.out⟩
    case rest =>
      obtain ⟨rfl, hgd⟩ := hcut
      obtain ⟨wb, rfl⟩ : ∃ wb : World, wb = wc := ⟨_, rfl⟩
      have hst : ASt w wb o mo br gm gs cn cf pf g n S0 R M (R i) := HST.out.next (grown_any hgd) (HST.out.tab.grown hgd (by simp)) hgw ho h0
      have HST2 := Lib.hid hst
      have m0 : wb.cell? ⟨g, R i * 10, none⟩ = some (.pointer none) := hst.tab.alias_ hRn
      have m6 : wb.cell? ⟨g, R i * 10 + 6, none⟩ = some (.int .u32 (S0 (R i)).ns) := hst.tab.nest hRn
      have m7 : wb.cell? ⟨g, R i * 10 + 7, none⟩ = some (.int .u16 (S0 (R i)).fl) := hst.tab.flags hRn
      have m8 : wb.cell? ⟨g, R i * 10 + 8, none⟩ = some (.int .u8 (S0 (R i)).kd) := hst.tab.kind hRn
      have hgl := hst.tab.lt
      have hb3l := hst.b3.lt
      rw [HRR.out] at m6 m7 m8
      simp only at m6 m7 m8
      clear hst hgd HST HSB HSC j0 j1 j2
      go_wp2
      go_loop [10] (fun p => p = .pointer (some ⟨g, R i * 10, none⟩)) (fun _ => 0)
      case atStart => rfl
      case round =>
        subst hrel
        go_wp2_with fail
        refine (slotns_not g (R i) 27 _ (by decide) HBIT.out _ m7 m8).mono ?_
        rw [show nsU 27 = 0 from rfl]
        rintro e w8 ⟨rfl, hg8⟩
        have n6 : w8.cell? ⟨g, R i * 10 + 6, none⟩ = some (.int .u32 xs) := (World.cell?_of_block (hg8.block g hgl (by simp))).trans m6
        have n7 : w8.cell? ⟨g, R i * 10 + 7, none⟩ = some (.int .u16 xf) := (World.cell?_of_block (hg8.block g hgl (by simp))).trans m7
        have HST8 := Lib.hid (HST2.out.next (grown_any hg8) (HST2.out.tab.grown hg8 (by simp)) hgw ho h0)
        have hl8 := hg8.size
        have hgl8 := HST8.out.tab.lt
        clear hg8 m0 m6 m7 m8 HST2
        go_wp2_with (go_at_call 21; refine (isv_any xs true t6 _).mono ?_)
        rintro e w9 ⟨rfl, hg9⟩
        have hg89 : w8.grownBy w9 none := grown_tr (only_alloc (World.grownBy.refl _ _) _) hg9
        have hbx : w9.cell? ⟨w8.heap.size, 0, none⟩ = some (.int .u32 xs) := ((Blk.new w8 _ _).grown hg9 (by simp)).cell 0
        have HST9 := Lib.hid (HST8.out.next (grown_any hg89) (HST8.out.tab.grown hg89 (by simp)) hgw ho h0)
        have a7 : w9.cell? ⟨g, R i * 10 + 7, none⟩ = some (.int .u16 xf) := (World.cell?_of_block (hg89.block g hgl8 (by simp))).trans n7
        have a5 : w9.cell? ⟨br, 1, none⟩ = some (.slice (some ⟨gs 0, 0, none⟩) (cn 0) (cn 0)) := HST9.out.rs.blk.cell 1
        have hl9 := hg89.size
        have HW9 : Hid (∀ W w10 : World, (W = w9 ∨ W = w9.drew ∨ W = w9.drew.drew) → W.grownBy w10 none → w9.grownBy w10 none) := Lib.hid (fun W w10 hW hg => by
          rcases hW with rfl | rfl | rfl <;> exact ⟨hg.os, hg.tape, hg.output, hg.size, hg.block⟩)
        have HK9 : Hid (∀ w10 : World, w9.grownBy w10 none → ASt w w10 o mo br gm gs cn cf pf g n S0 R M (R i)) := Lib.hid (fun w10 h => HST9.out.next (grown_any h) (HST9.out.tab.grown h (by simp)) hgw ho h0)
        clear hg9 hg89 n6 n7
        go_wp2
        go_cut [13] (fun p wx => p = .pointer (some ⟨gs 0, k * 3, none⟩) ∧ w9.grownBy wx none)
        case first =>
          go_region_with (go_at_call 22; refine (getIdx xs HXS.out.1 HXS.out.2 _).mono ?_; rw [HKK.out]; rintro e w10 ⟨rfl, hg10⟩; have hg10' := HW9.out _ w10 (by first | exact Or.inl rfl | exact Or.inr (Or.inl rfl) | exact Or.inr (Or.inr rfl)) hg10; have b5 : w10.cell? ⟨br, 1, none⟩ = some (.slice (some ⟨gs 0, 0, none⟩) (cn 0) (cn 0)) := (HK9.out w10 hg10').rs.blk.cell 1; have HG10 := Lib.hid hg10'; clear hg10 hg10')
          all_goals
            go_wp2_with fail
            go_meet
            exact ⟨rfl, HG10.out⟩
        case rest =>
          obtain ⟨rfl, hgx⟩ := hcut
          obtain ⟨wx, rfl⟩ : ∃ wx : World, wx = wc := ⟨_, rfl⟩
          have hx := HK9.out wx hgx
          have HX := Lib.hid hx
          have u7 : wx.cell? ⟨g, R i * 10 + 7, none⟩ = some (.int .u16 xf) := (World.cell?_of_block (hgx.block g (Nat.lt_of_lt_of_le hgl8 hl9) (by simp))).trans a7
          have hs := hx.rs.slt 0 (by omega)
          obtain ⟨scs, hsb⟩ := hs.blk
          obtain ⟨tcs, htb⟩ := hx.tab.blk
          have hgg : g ≠ gs 0 := Blk.ne_ htb hsb (by decide)
          have hgg' : ¬ gs 0 = g := fun e => hgg e.symm
          have v1 := hs.cnt hkc
          have f1' := hs.frozen (k * 3 + 1)
          have v2 := hs.cap_ hkc
          have f2' := hs.frozen (k * 3 + 2)
          have hadd := run_call_add (P := Tryd.prog) Tryd.func23 (by kernel_rfl) (by kernel_rfl) (by kernel_rfl) .u32 (by kernel_rfl) (y := count) (s := NC) v1 f1' (by rw [HNC.out]; rfl)
          have HRS1 := Lib.hid (hx.rs.setCnt (j := 0) (by omega) hkc (NC))
          have HT1 : Hid (Turned (fun b => b = g ∨ b = gs 0) w (wx.setCell ⟨gs 0, k * 3 + 1, none⟩ (.int .u32 (NC)))) := Lib.hid ((Turned.of_grown (S := fun b => b = g ∨ b = gs 0) hx.gr (fun _ e => Or.inl (Option.some.inj e).symm)).setCell (p := ⟨gs 0, k * 3 + 1, none⟩) (Or.inl (Or.inr rfl)) _)
          have HL1 : Hid (Lk (wx.setCell ⟨gs 0, k * 3 + 1, none⟩ (.int .u32 (NC))) g n S0 R M) := Lib.hid (hx.tab.far (p := ⟨gs 0, k * 3 + 1, none⟩) hgg _)
          clear hx hgx hs hsb htb HK9 HW9 a5 a7 hbx
          by_cases hj : fj = 0
          · have tj : (fj != 0) = false := by rw [hj]; rfl
            have hpf : pfN = pf := by rw [HPF.out, if_pos hj]
            subst hpf
            clear hj
            have hbj := HBJ.out
            go_wp2
            refine bodyPost_ret (results_none rfl _ _ _) rfl ?_
            exact ⟨rfl, HL1.out, HRS1.out, HT1.out⟩
          · have tj : (fj != 0) = true := by rw [bne_iff_ne]; exact hj
            have hpf : pfN = upd2 pf 0 k 1 := by rw [HPF.out, if_neg hj]
            have HPN := Lib.hid hpf
            clear hj hpf
            have v2' : (wx.setCell ⟨gs 0, k * 3 + 1, none⟩ (.int .u32 (NC))).cell? ⟨gs 0, k * 3 + 2, none⟩ = some (.int .u32 (pf 0 k)) := (HRS1.out.slt 0 (by omega)).cap_ hkc
            have f2'' : (wx.setCell ⟨gs 0, k * 3 + 1, none⟩ (.int .u32 (NC))).frozen? ⟨gs 0, k * 3 + 2, none⟩ = false := (HRS1.out.slt 0 (by omega)).frozen _
            have hsto := run_call_store (P := Tryd.prog) Tryd.func25 (by kernel_rfl) (by kernel_rfl) (by kernel_rfl) (by kernel_rfl) (k := .u32) (y := 1) v2' f2''
            have HRS2 := Lib.hid (HRS1.out.setCap (j := 0) (by omega) hkc 1)
            have HT2 := Lib.hid (HT1.out.setCell (p := ⟨gs 0, k * 3 + 2, none⟩) (Or.inl (Or.inr rfl)) (.int .u32 1))
            have HL2 := Lib.hid (HL1.out.far (p := ⟨gs 0, k * 3 + 2, none⟩) hgg (.int .u32 1))
            have hbj := HBJ.out
            go_wp2
            refine bodyPost_ret (results_none rfl _ _ _) rfl ?_
            exact ⟨rfl, HL2.out, by rw [HPN.out]; exact HRS2.out, HT2.out⟩
set_option maxHeartbeats 16000000 in
set_option maxRecDepth 100000 in
theorem acc_nest1 (br o : Nat) (mo : Option Nat) (gm : Nat) (gs cn : Nat → Nat) (cf pf : Nat → Nat → Int) (g n : Nat) (S0 : Nat → SymR) (R M : Nat → Nat) (i : Nat) (w : World) (hn : n ≤ 16777216) (ho : o ≠ g) (h0 : g ≠ 0) (hR : Roots n R M) (hi : i < n) (hinv : Inv w) (hout : Out1 w o g n) (htab : Lk w g n S0 R M) (hrs : RS o mo br gm gs cn cf pf w) (pv av : Value) (count fj : Int) (k : Nat) (hkd : (S0 (R i)).kd = 18) (hbit : bits .and .u16 (S0 (R i)).fl 1 = 0) (hbj : bits .and .u16 (S0 (R i)).fl 2 = fj)
    (hns : 0 ≤ (S0 (R i)).ns ∧ (S0 (R i)).ns ≤ 4294967295) (hn0 : (S0 (R i)).ns ≠ 0) (hk : 4294967295 - (S0 (R i)).ns = k) (hkc : k < cn 1) (hcc : cn 1 ≤ 65536) :
    Calls Tryd.prog 10 #[.pointer (some ⟨br, 0, none⟩), pv, .agg #[.int .u32 0, .int .u32 i], .int .u32 count, av] w (NestPost2 w o mo br gm gs cn (upd2 cf 1 k (IntKind.u32.wrap (cf 1 k + count))) (if fj = 0 then pf else upd2 pf 1 k 1) g n S0 R M 1) := by
  obtain ⟨NC, hNC⟩ : ∃ x, x = IntKind.u32.wrap (cf 1 k + count) := ⟨_, rfl⟩
  rw [← hNC]
  have HNC := Lib.hid hNC
  obtain ⟨pfN, hPF⟩ : ∃ x, x = (if fj = 0 then pf else upd2 pf 1 k 1) := ⟨_, rfl⟩
  rw [← hPF]
  have HPF := Lib.hid hPF
  generalize hr : S0 (R i) = r at hkd hbit hbj hns hn0 hk
  obtain ⟨xn, xa, xb, xs, xf, xk⟩ := r
  simp only at hkd hbit hbj hns hn0 hk
  subst hkd
  have HRR := Lib.hid hr
  have t6 : (xs != 0) = true := by rw [bne_iff_ne]; exact hn0
  have HBIT := Lib.hid hbit; have HBJ := Lib.hid hbj; have HKK := Lib.hid hk; have HXS := Lib.hid hns
  clear hbit hbj hk hns hn0 hr hPF hNC
  have hgw := htab.lt
  have how := hout.lt
  have h0w := hinv.pos
  have hRn : R i < n := (hR i hi).1
  obtain ⟨w3, hw3⟩ : ∃ w3, w3 = w.alloc (.cells #[.int .u32 0, .int .u32 i] 44) := ⟨_, rfl⟩
  have hgn : w.grownBy w3 none := by rw [hw3]; exact only_alloc (World.grownBy.refl _ _) _
  have S3 : ASt w w3 o mo br gm gs cn cf pf g n S0 R M i :=
    ⟨by rw [hw3]; exact Blk.new _ _ _, hrs.turned (Turned.of_grown (S := fun _ => False) hgn (fun _ e => by cases e)) (fun e => e) (fun _ _ e => e), htab.grown hgn (by simp), hinv.grown hgn (by simp), hout.grown hgn (by simp), grown_any hgn⟩
  have HS3 := Lib.hid S3; have HR := Lib.hid hR; have HW3 := Lib.hid hw3
  clear S3 hgn hrs htab hinv hout hR
  have j0 : w3.cell? ⟨br, 6, none⟩ = some (.slice (some ⟨o, 0, none⟩) 1 1) := HS3.out.rs.blk.cell 6
  have j1 : w3.cell? ⟨w.heap.size, 0, none⟩ = some (.int .u32 0) := HS3.out.b3.cell 0
  have j2 : w3.cell? ⟨w.heap.size, 1, none⟩ = some (.int .u32 i) := HS3.out.b3.cell 1
  have HSA : Hid (∀ W : World, (W = w3 ∨ W = w3.drew ∨ W = w3.drew.drew) → ASt w W o mo br gm gs cn cf pf g n S0 R M i) := Lib.hid (fun W hW => by
    have h1 : w3.grownBy W none := by
      rcases hW with rfl | rfl | rfl
      · exact World.grownBy.refl _ _
      · exact only_drew (World.grownBy.refl _ _)
      · exact only_drew (only_drew (World.grownBy.refl _ _))
    exact HS3.out.next (grown_any h1) (HS3.out.tab.grown h1 (by simp)) hgw ho h0)
  have HMEET : Hid (∀ w5 : World, ASt w w5 o mo br gm gs cn cf pf g n S0 R M i → ASt w ((w5.setCell ⟨w.heap.size, 0, none⟩ (.int .u32 0)).setCell ⟨w.heap.size, 1, none⟩ (.int .u32 (R i : Nat))) o mo br gm gs cn cf pf g n S0 R M (R i)) := Lib.hid (fun w5 h => by
    have h1 : w5.grownBy ((w5.setCell ⟨w.heap.size, 0, none⟩ (.int .u32 0)).setCell ⟨w.heap.size, 1, none⟩ (.int .u32 (R i : Nat))) (some w.heap.size) :=
      only_setCell (p := ⟨w.heap.size, 1, none⟩) (only_setCell (p := ⟨w.heap.size, 0, none⟩) (World.grownBy.refl _ _) (Or.inl rfl) _) (Or.inl rfl) _
    exact ⟨(h.b3.set_ 0 _).set_ 1 _, h.rs.other h.b3 (by decide) (by decide) h1, h.tab.grown h1 (fun e => by have := Option.some.inj e; omega), h.inv.grown h1 (fun e => by have := Option.some.inj e; omega), h.out.grown h1 (fun e => by have := Option.some.inj e; omega),
      only_setCell (p := ⟨w.heap.size, 1, none⟩) (only_setCell (p := ⟨w.heap.size, 0, none⟩) h.gr (Or.inr (Nat.le_refl _)) _) (Or.inr (Nat.le_refl _)) _⟩)
  go_enter Tryd.func10, Tryd.ntmps10
  go_upto_region 1 with fail
  rw [← HW3.out]
  clear hw3 HW3
  go_cut [] (fun wx => ASt w wx o mo br gm gs cn cf pf g n S0 R M (R i))
  case first =>
    go_region_with (go_at_call 18; refine (follow o g n S0 R M hn ho h0 HR.out (M i) i rfl hi _ (HSA.out _ (by first | exact Or.inl rfl | exact Or.inr (Or.inl rfl) | exact Or.inr (Or.inr rfl))).inv (HSA.out _ (by first | exact Or.inl rfl | exact Or.inr (Or.inl rfl) | exact Or.inr (Or.inr rfl))).out (HSA.out _ (by first | exact Or.inl rfl | exact Or.inr (Or.inl rfl) | exact Or.inr (Or.inr rfl))).tab).mono ?_; rintro e w5 ⟨rfl, ht5, hg5⟩; have hst := (HSA.out _ (by first | exact Or.inl rfl | exact Or.inr (Or.inl rfl) | exact Or.inr (Or.inr rfl))).next hg5 ht5 hgw ho h0; have kb0 : w5.cell? ⟨w.heap.size, 0, none⟩ = some (.int .u32 0) := hst.b3.cell 0; have kb1 : w5.cell? ⟨w.heap.size, 1, none⟩ = some (.int .u32 i) := hst.b3.cell 1; have kf0 : w5.frozen? ⟨w.heap.size, 0, none⟩ = false := hst.b3.frozen 0; have kf1 : w5.frozen? ⟨w.heap.size, 1, none⟩ = false := hst.b3.frozen 1; have HST := Lib.hid hst; clear hst hg5 ht5)
    all_goals
      go_wp2_with fail
      go_meet
      exact HMEET.out w5 HST.out
  case rest =>
    obtain ⟨wa, rfl⟩ : ∃ wa : World, wa = wc := ⟨_, rfl⟩
    have HST := Lib.hid hcut
    clear hcut HSA HS3 HMEET j0 j1 j2
    have hsc := HST.out.gr.size
    have j0 : wa.cell? ⟨br, 6, none⟩ = some (.slice (some ⟨o, 0, none⟩) 1 1) := HST.out.rs.blk.cell 6
    have j1 : wa.cell? ⟨w.heap.size, 0, none⟩ = some (.int .u32 0) := HST.out.b3.cell 0
    have j2 : wa.cell? ⟨w.heap.size, 1, none⟩ = some (.int .u32 (R i : Nat)) := HST.out.b3.cell 1
    have HSB : Hid (∀ W : World, (W = wa ∨ W = wa.drew ∨ W = wa.drew.drew) → Out1 W o g n) := Lib.hid (fun W hW => by
      rcases hW with rfl | rfl | rfl <;> exact HST.out.out)
    have HSC : Hid (∀ W w7 : World, (W = wa ∨ W = wa.drew ∨ W = wa.drew.drew) → W.grownBy w7 none → wa.grownBy w7 none) := Lib.hid (fun W w7 hW hg => by
      rcases hW with rfl | rfl | rfl <;> exact ⟨hg.os, hg.tape, hg.output, hg.size, hg.block⟩)
    go_wp2
    go_cut [10] (fun p wx => p = .pointer (some ⟨g, R i * 10, none⟩) ∧ wa.grownBy wx none)
    case first =>
      go_region_with (go_at_call 19; refine (getS o g n (R i) _ (HSB.out _ (by first | exact Or.inl rfl | exact Or.inr (Or.inl rfl) | exact Or.inr (Or.inr rfl))) hRn hn).mono ?_; rintro e w7 ⟨rfl, hg7⟩; have HG7 := Lib.hid (HSC.out _ w7 (by first | exact Or.inl rfl | exact Or.inr (Or.inl rfl) | exact Or.inr (Or.inr rfl)) hg7); clear hg7)
      all_goals
        go_wp2_with fail
        go_meet
        exact ⟨rfl, HG7.out⟩
    case rest =>
      obtain ⟨rfl, hgd⟩ := hcut
      obtain ⟨wb, rfl⟩ : ∃ wb : World, wb = wc := ⟨_, rfl⟩
      have hst : ASt w wb o mo br gm gs cn cf pf g n S0 R M (R i) := HST.out.next (grown_any hgd) (HST.out.tab.grown hgd (by simp)) hgw ho h0
      have HST2 := Lib.hid hst
      have m0 : wb.cell? ⟨g, R i * 10, none⟩ = some (.pointer none) := hst.tab.alias_ hRn
      have m6 : wb.cell? ⟨g, R i * 10 + 6, none⟩ = some (.int .u32 (S0 (R i)).ns) := hst.tab.nest hRn
      have m7 : wb.cell? ⟨g, R i * 10 + 7, none⟩ = some (.int .u16 (S0 (R i)).fl) := hst.tab.flags hRn
      have m8 : wb.cell? ⟨g, R i * 10 + 8, none⟩ = some (.int .u8 (S0 (R i)).kd) := hst.tab.kind hRn
      have hgl := hst.tab.lt
      have hb3l := hst.b3.lt
      rw [HRR.out] at m6 m7 m8
      simp only at m6 m7 m8
      clear hst hgd HST HSB HSC j0 j1 j2
      go_wp2
      go_loop [10] (fun p => p = .pointer (some ⟨g, R i * 10, none⟩)) (fun _ => 0)
      case atStart => rfl
      case round =>
        subst hrel
        go_wp2_with fail
        refine (slotns_not g (R i) 18 _ (by decide) HBIT.out _ m7 m8).mono ?_
        rw [show nsU 18 = 1 from rfl]
        rintro e w8 ⟨rfl, hg8⟩
        have n6 : w8.cell? ⟨g, R i * 10 + 6, none⟩ = some (.int .u32 xs) := (World.cell?_of_block (hg8.block g hgl (by simp))).trans m6
        have n7 : w8.cell? ⟨g, R i * 10 + 7, none⟩ = some (.int .u16 xf) := (World.cell?_of_block (hg8.block g hgl (by simp))).trans m7
        have HST8 := Lib.hid (HST2.out.next (grown_any hg8) (HST2.out.tab.grown hg8 (by simp)) hgw ho h0)
        have hl8 := hg8.size
        have hgl8 := HST8.out.tab.lt
        clear hg8 m0 m6 m7 m8 HST2
        go_wp2_with (go_at_call 21; refine (isv_any xs true t6 _).mono ?_)
        rintro e w9 ⟨rfl, hg9⟩
        have hg89 : w8.grownBy w9 none := grown_tr (only_alloc (World.grownBy.refl _ _) _) hg9
        have hbx : w9.cell? ⟨w8.heap.size, 0, none⟩ = some (.int .u32 xs) := ((Blk.new w8 _ _).grown hg9 (by simp)).cell 0
        have HST9 := Lib.hid (HST8.out.next (grown_any hg89) (HST8.out.tab.grown hg89 (by simp)) hgw ho h0)
        have a7 : w9.cell? ⟨g, R i * 10 + 7, none⟩ = some (.int .u16 xf) := (World.cell?_of_block (hg89.block g hgl8 (by simp))).trans n7
        have a5 : w9.cell? ⟨br, 2, none⟩ = some (.slice (some ⟨gs 1, 0, none⟩) (cn 1) (cn 1)) := HST9.out.rs.blk.cell 2
        have hl9 := hg89.size
        have HW9 : Hid (∀ W w10 : World, (W = w9 ∨ W = w9.drew ∨ W = w9.drew.drew) → W.grownBy w10 none → w9.grownBy w10 none) := Lib.hid (fun W w10 hW hg => by
          rcases hW with rfl | rfl | rfl <;> exact ⟨hg.os, hg.tape, hg.output, hg.size, hg.block⟩)
        have HK9 : Hid (∀ w10 : World, w9.grownBy w10 none → ASt w w10 o mo br gm gs cn cf pf g n S0 R M (R i)) := Lib.hid (fun w10 h => HST9.out.next (grown_any h) (HST9.out.tab.grown h (by simp)) hgw ho h0)
        clear hg9 hg89 n6 n7
        go_wp2
        go_cut [13] (fun p wx => p = .pointer (some ⟨gs 1, k * 3, none⟩) ∧ w9.grownBy wx none)
        case first =>
          go_region_with (go_at_call 22; refine (getIdx xs HXS.out.1 HXS.out.2 _).mono ?_; rw [HKK.out]; rintro e w10 ⟨rfl, hg10⟩; have hg10' := HW9.out _ w10 (by first | exact Or.inl rfl | exact Or.inr (Or.inl rfl) | exact Or.inr (Or.inr rfl)) hg10; have b5 : w10.cell? ⟨br, 2, none⟩ = some (.slice (some ⟨gs 1, 0, none⟩) (cn 1) (cn 1)) := (HK9.out w10 hg10').rs.blk.cell 2; have HG10 := Lib.hid hg10'; clear hg10 hg10')
          all_goals
            go_wp2_with fail
            go_meet
            exact ⟨rfl, HG10.out⟩
        case rest =>
          obtain ⟨rfl, hgx⟩ := hcut
          obtain ⟨wx, rfl⟩ : ∃ wx : World, wx = wc := ⟨_, rfl⟩
          have hx := HK9.out wx hgx
          have HX := Lib.hid hx
          have u7 : wx.cell? ⟨g, R i * 10 + 7, none⟩ = some (.int .u16 xf) := (World.cell?_of_block (hgx.block g (Nat.lt_of_lt_of_le hgl8 hl9) (by simp))).trans a7
          have hs := hx.rs.slt 1 (by omega)
          obtain ⟨scs, hsb⟩ := hs.blk
          obtain ⟨tcs, htb⟩ := hx.tab.blk
          have hgg : g ≠ gs 1 := Blk.ne_ htb hsb (by decide)
          have hgg' : ¬ gs 1 = g := fun e => hgg e.symm
          have v1 := hs.cnt hkc
          have f1' := hs.frozen (k * 3 + 1)
          have v2 := hs.cap_ hkc
          have f2' := hs.frozen (k * 3 + 2)
          have hadd := run_call_add (P := Tryd.prog) Tryd.func23 (by kernel_rfl) (by kernel_rfl) (by kernel_rfl) .u32 (by kernel_rfl) (y := count) (s := NC) v1 f1' (by rw [HNC.out]; rfl)
          have HRS1 := Lib.hid (hx.rs.setCnt (j := 1) (by omega) hkc (NC))
          have HT1 : Hid (Turned (fun b => b = g ∨ b = gs 1) w (wx.setCell ⟨gs 1, k * 3 + 1, none⟩ (.int .u32 (NC)))) := Lib.hid ((Turned.of_grown (S := fun b => b = g ∨ b = gs 1) hx.gr (fun _ e => Or.inl (Option.some.inj e).symm)).setCell (p := ⟨gs 1, k * 3 + 1, none⟩) (Or.inl (Or.inr rfl)) _)
          have HL1 : Hid (Lk (wx.setCell ⟨gs 1, k * 3 + 1, none⟩ (.int .u32 (NC))) g n S0 R M) := Lib.hid (hx.tab.far (p := ⟨gs 1, k * 3 + 1, none⟩) hgg _)
          clear hx hgx hs hsb htb HK9 HW9 a5 a7 hbx
          by_cases hj : fj = 0
          · have tj : (fj != 0) = false := by rw [hj]; rfl
            have hpf : pfN = pf := by rw [HPF.out, if_pos hj]
            subst hpf
            clear hj
            have hbj := HBJ.out
            go_wp2
            refine bodyPost_ret (results_none rfl _ _ _) rfl ?_
            exact ⟨rfl, HL1.out, HRS1.out, HT1.out⟩
          · have tj : (fj != 0) = true := by rw [bne_iff_ne]; exact hj
            have hpf : pfN = upd2 pf 1 k 1 := by rw [HPF.out, if_neg hj]
            have HPN := Lib.hid hpf
            clear hj hpf
            have v2' : (wx.setCell ⟨gs 1, k * 3 + 1, none⟩ (.int .u32 (NC))).cell? ⟨gs 1, k * 3 + 2, none⟩ = some (.int .u32 (pf 1 k)) := (HRS1.out.slt 1 (by omega)).cap_ hkc
            have f2'' : (wx.setCell ⟨gs 1, k * 3 + 1, none⟩ (.int .u32 (NC))).frozen? ⟨gs 1, k * 3 + 2, none⟩ = false := (HRS1.out.slt 1 (by omega)).frozen _
            have hsto := run_call_store (P := Tryd.prog) Tryd.func25 (by kernel_rfl) (by kernel_rfl) (by kernel_rfl) (by kernel_rfl) (k := .u32) (y := 1) v2' f2''
            have HRS2 := Lib.hid (HRS1.out.setCap (j := 1) (by omega) hkc 1)
            have HT2 := Lib.hid (HT1.out.setCell (p := ⟨gs 1, k * 3 + 2, none⟩) (Or.inl (Or.inr rfl)) (.int .u32 1))
            have HL2 := Lib.hid (HL1.out.far (p := ⟨gs 1, k * 3 + 2, none⟩) hgg (.int .u32 1))
            have hbj := HBJ.out
            go_wp2
            refine bodyPost_ret (results_none rfl _ _ _) rfl ?_
            exact ⟨rfl, HL2.out, by rw [HPN.out]; exact HRS2.out, HT2.out⟩
end Go.Proofs.YtdmllmipcfkaaaaDoor
