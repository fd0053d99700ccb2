/- AccumulateSymbolCount of a symbol at top level. -/
import Derived.Test.YtdmllmipcfkaaaaDoorAcu
import Derived.Test.YtdmllmipcfkaaaaDoorApp
import Derived.Deep.RegionLaw
import Derived.Deep.WholeRow
import Derived.Laws.Tables
namespace Go.Proofs.YtdmllmipcfkaaaaDoor
open Go.RowKit
set_option linter.unusedVariables false
set_option linter.unusedSimpArgs false
section
variable {P : Program} (w : World)
/-- The append as one step of a region that draws its order. -/
theorem step_append_own_src {ops : Array Oper} {o : Oper} {a : Act} {K : Act → World → Prop} {Q : Exit → Act → World → Prop} {E : Prop} (hgd : o.guard = none) (s x : Operand) (t tx : TypeId)
    (ho : o.op = .call { callee := .builtin .append, args := #[s, x], argTypes := #[t, tx] })
    (base : Nat) (e : TypeId) (i : TypeInfo) (z : Value) (size bytes : Nat) (ht : P.underlying t = some (.slice e)) (hi : P.info? e = some i) (hz : i.zero = some z)
    (hsize : i.size = size) (hby : i.bytes = bytes) (hzs : z.cells.size = size)
    (v : Value) (n : Nat) (xs : List Value) (hs : a.eval s = v) (hown : w.ownsRow base e size v n xs)
    (y : Value) (m : Nat) (news : List Value) (hx : a.eval x = y) (hsrc : Src P size tx y m news w)
    (h63 : n + m ≤ maxLen) (hbytes : (n + m) * bytes ≤ 140737488355328) (hbase : base ≤ w.heap.size)
    (h : ∀ v' w', w'.ownsRow base e size v' (n + m) (xs ++ news) → w.grownBy w' v.ownBlock → (v'.ownBlock = v.ownBlock ∨ v'.ownBlock = some w.heap.size) → K (a.put o.dst v') w') :
    if Region.wanted o (yielded ops a.tmps) = true then Oper.wp P o a w K Q else E := by
  have hw : Region.wanted o (yielded ops a.tmps) = true := by simp [Region.wanted, hgd]
  rw [if_pos hw]
  exact wp_append_own_src w s x t tx ho base e i z size bytes ht hi hz hsize hby hzs v n xs hs hown y m news hx hsrc h63 hbytes hbase h
end
theorem own_kept {w w' : World} {B sz : Nat} {e : TypeId} {v : Value} {m : Nat} {xs : List Value} (h : w.ownsRow B e sz v m xs) (hk : ∀ g, v.ownBlock = some g → g < w.heap.size → w'.heap[g]? = w.heap[g]?) : w'.ownsRow B e sz v m xs := by
  refine ⟨h.1, ?_⟩
  rcases h.2 with h2 | ⟨g, cap2, cur, a, b2, c2, d⟩
  · exact .inl h2
  · refine .inr ⟨g, cap2, cur, a, b2, ?_, d⟩
    have hlt : g < w.heap.size := by
      rcases Nat.lt_or_ge g w.heap.size with hlt | hge
      · exact hlt
      · rw [Array.getElem?_eq_none hge] at c2; cases c2
    rw [hk g (by rw [a]; rfl) hlt]
    exact c2
theorem srcOne4 (W W' : World) {p : Nat} (hp : p = W.heap.size) (x0 x1 x2 x3 : Int) (hW : W'.heap = (W.alloc (.cells #[.int .u32 x0, .int .u32 x1, .int .u32 x2, .int .u32 x3] 47)).heap) : Src Tryd.prog 4 39 (.slice (some ⟨p, 0, none⟩) 1 1) 1 [.int .u32 x0, .int .u32 x1, .int .u32 x2, .int .u32 x3] W' :=
  Src.ofSlice _ Tryd.underlying39 _ 1 1 _ rfl (fun j u hu => by
    subst hp
    have hB : Blk W' W.heap.size 47 #[.int .u32 x0, .int .u32 x1, .int .u32 x2, .int .u32 x3] := by
      have := Blk.new W 47 #[.int .u32 x0, .int .u32 x1, .int .u32 x2, .int .u32 x3]
      unfold Blk at this ⊢
      rw [hW]; exact this
    rw [← hu]
    have hc := hB.cell j
    rcases (by have := (List.getElem?_eq_some_iff.1 hu).1; simp at this; omega : j = 0 ∨ j = 1 ∨ j = 2 ∨ j = 3) with rfl | rfl | rfl | rfl <;> exact hc) (fun u hu => by
    simp only [List.mem_cons, List.not_mem_nil, or_false] at hu
    rcases hu with rfl | rfl | rfl | rfl <;> rfl)
theorem sscI : (Tryd.prog.info? 47).map (fun i => (i.zero, i.size, i.bytes)) = some (some (.agg #[.int .u32 0, .int .u32 0, .int .u32 0, .int .u32 0]), 4, 16) := by kernel_rfl
/-- What an append to the list at block pt leaves. -/
theorem top_app {B pt L : Nat} {v v' : Value} {xs news : List Value} {W w2 : World} (hp : Blk W pt 39 #[v]) (hown : W.ownsRow B 47 4 v L xs) (hown' : w2.ownsRow B 47 4 v' (L + 1) (xs ++ news)) (hgrow : W.grownBy w2 v.ownBlock) :
    ∃ q cap2, v' = .slice (some ⟨q, 0, none⟩) (L + 1) cap2 ∧ w2.cell? ⟨pt, 0, none⟩ = some v ∧ w2.frozen? ⟨pt, 0, none⟩ = false ∧
      Blk (w2.setCell ⟨pt, 0, none⟩ (.slice (some ⟨q, 0, none⟩) (L + 1) cap2)) pt 39 #[.slice (some ⟨q, 0, none⟩) (L + 1) cap2] ∧
      (w2.setCell ⟨pt, 0, none⟩ (.slice (some ⟨q, 0, none⟩) (L + 1) cap2)).ownsRow B 47 4 (.slice (some ⟨q, 0, none⟩) (L + 1) cap2) (L + 1) (xs ++ news) ∧
      Turned (fun b => b = pt ∨ v.ownBlock = some b) W (w2.setCell ⟨pt, 0, none⟩ (.slice (some ⟨q, 0, none⟩) (L + 1) cap2)) := by
  obtain ⟨q, cap2, rfl⟩ : ∃ q cap2, v' = .slice (some ⟨q, 0, none⟩) (L + 1) cap2 := by
    rcases hown'.2 with ⟨_, h0⟩ | ⟨g, cap2, cur, hv, _⟩
    · omega
    · exact ⟨g, cap2, hv⟩
  have hp2 := hp.grown hgrow (fun e => own_blk_ne hown hp (by decide) e.symm)
  refine ⟨q, cap2, rfl, hp2.cell 0, hp2.frozen 0, hp2.set_ 0 _, own_kept hown' (fun k hk _ => Below.heap_setCell _ _ _ _ (by
    rintro rfl
    exact own_blk_ne hown' hp2 (by decide) hk)), ?_⟩
  exact (Turned.of_grown (S := fun b => b = pt ∨ v.ownBlock = some b) hgrow (fun _ e => Or.inr e)).setCell (p := ⟨pt, 0, none⟩) (Or.inl (Or.inl rfl)) _
def TopPost (w : World) (o : Nat) (mo : Option Nat) (br gm : Nat) (gs cn : Nat → Nat) (cf pf : Nat → Nat → Int) (g n : Nat) (S0 : Nat → SymR) (R M : Nat → Nat) (B pt L : Nat) (v : Value) (xs news : List Value) (e : Ending) (w' : World) : Prop :=
  e = .returned (.tuple #[]) ∧ ∃ q cap2, Blk w' pt 39 #[.slice (some ⟨q, 0, none⟩) (L + 1) cap2] ∧ w'.ownsRow B 47 4 (.slice (some ⟨q, 0, none⟩) (L + 1) cap2) (L + 1) (xs ++ news) ∧
    Lk w' g n S0 R M ∧ RS o mo br gm gs cn cf pf w' ∧ Turned (fun b => b = g ∨ b = pt ∨ v.ownBlock = some b) w w' ∧ (v.ownBlock = some q ∨ w.heap.size ≤ q)
set_option maxHeartbeats 16000000 in
set_option maxRecDepth 100000 in
theorem acc_top0 (br o : Nat) (mo : Option Nat) (gm : Nat) (gs cn : Nat → Nat) (cf pf : Nat → Nat → Int) (g n : Nat) (S0 : Nat → SymR) (R M : Nat → Nat) (i : Nat) (w : World) (hn : n ≤ 16777216) (ho : o ≠ g) (h0 : g ≠ 0) (hR : Roots n R M) (hi : i < n) (hinv : Inv w) (hout : Out1 w o g n) (htab : Lk w g n S0 R M) (hrs : RS o mo br gm gs cn cf pf w) (pt sb : Nat) (count stable : Int) (B L cap : Nat) (SA : Option Addr) (xs : List Value) (hkd : (S0 (R i)).kd = 27) (hns : (S0 (R i)).ns = 0) (hbit : bits .and .u16 (S0 (R i)).fl 1 = 0)
    (hpt : Blk w pt 39 #[.slice SA L cap]) (hsb0 : Blk w sb 24 #[.int .u32 stable]) (hown : w.ownsRow B 47 4 (.slice SA L cap) L xs) (hL : L ≤ 16777216) (hB : B ≤ w.heap.size) :
    Calls Tryd.prog 10 #[.pointer (some ⟨br, 0, none⟩), .pointer (some ⟨pt, 0, none⟩), .agg #[.int .u32 0, .int .u32 i], .int .u32 count, .slice (some ⟨sb, 0, none⟩) 1 1] w (TopPost w o mo br gm gs cn cf pf g n S0 R M B pt L (.slice SA L cap) xs [.int .u32 stable, .int .u32 0, .int .u32 (R i : Nat), .int .u32 count]) := by
  have HNG : Hid (pt ≠ g ∧ sb ≠ g ∧ Value.ownBlock (.slice SA L cap) ≠ some g) := Lib.hid (by
    obtain ⟨tcs, htb⟩ := htab.blk
    exact ⟨Blk.ne_ hpt htb (by decide), Blk.ne_ hsb0 htb (by decide), own_blk_ne hown htb (by decide)⟩)
  have HPT := Lib.hid hpt; have HSB0 := Lib.hid hsb0; have HOWN := Lib.hid hown
  clear hpt hsb0 hown
  generalize hr : S0 (R i) = r at hkd hbit hns
  obtain ⟨xn, xa, xb, xs', xf, xk⟩ := r
  simp only at hkd hbit hns
  subst hkd
  subst hns
  have HRR := Lib.hid hr
  have HBIT := Lib.hid hbit
  clear hbit hr
  have hgw := htab.lt
  have how := hout.lt
  have h0w := hinv.pos
  have hRn : R i < n := (hR i hi).1
  obtain ⟨w3, hw3⟩ : ∃ w3, w3 = w.alloc (.cells #[.int .u32 0, .int .u32 i] 44) := ⟨_, rfl⟩
  have hgn : w.grownBy w3 none := by rw [hw3]; exact only_alloc (World.grownBy.refl _ _) _
  have S3 : ASt w w3 o mo br gm gs cn cf pf g n S0 R M i :=
    ⟨by rw [hw3]; exact Blk.new _ _ _, hrs.turned (Turned.of_grown (S := fun _ => False) hgn (fun _ e => by cases e)) (fun e => e) (fun _ _ e => e), htab.grown hgn (by simp), hinv.grown hgn (by simp), hout.grown hgn (by simp), grown_any hgn⟩
  have HS3 := Lib.hid S3; have HR := Lib.hid hR; have HW3 := Lib.hid hw3
  clear S3 hgn hrs htab hinv hout hR
  have j0 : w3.cell? ⟨br, 6, none⟩ = some (.slice (some ⟨o, 0, none⟩) 1 1) := HS3.out.rs.blk.cell 6
  have j1 : w3.cell? ⟨w.heap.size, 0, none⟩ = some (.int .u32 0) := HS3.out.b3.cell 0
  have j2 : w3.cell? ⟨w.heap.size, 1, none⟩ = some (.int .u32 i) := HS3.out.b3.cell 1
  have HSA : Hid (∀ W : World, (W = w3 ∨ W = w3.drew ∨ W = w3.drew.drew) → ASt w W o mo br gm gs cn cf pf g n S0 R M i) := Lib.hid (fun W hW => by
    have h1 : w3.grownBy W none := by
      rcases hW with rfl | rfl | rfl
      · exact World.grownBy.refl _ _
      · exact only_drew (World.grownBy.refl _ _)
      · exact only_drew (only_drew (World.grownBy.refl _ _))
    exact HS3.out.next (grown_any h1) (HS3.out.tab.grown h1 (by simp)) hgw ho h0)
  have HMEET : Hid (∀ w5 : World, ASt w w5 o mo br gm gs cn cf pf g n S0 R M i → ASt w ((w5.setCell ⟨w.heap.size, 0, none⟩ (.int .u32 0)).setCell ⟨w.heap.size, 1, none⟩ (.int .u32 (R i : Nat))) o mo br gm gs cn cf pf g n S0 R M (R i)) := Lib.hid (fun w5 h => by
    have h1 : w5.grownBy ((w5.setCell ⟨w.heap.size, 0, none⟩ (.int .u32 0)).setCell ⟨w.heap.size, 1, none⟩ (.int .u32 (R i : Nat))) (some w.heap.size) :=
      only_setCell (p := ⟨w.heap.size, 1, none⟩) (only_setCell (p := ⟨w.heap.size, 0, none⟩) (World.grownBy.refl _ _) (Or.inl rfl) _) (Or.inl rfl) _
    exact ⟨(h.b3.set_ 0 _).set_ 1 _, h.rs.other h.b3 (by decide) (by decide) h1, h.tab.grown h1 (fun e => by have := Option.some.inj e; omega), h.inv.grown h1 (fun e => by have := Option.some.inj e; omega), h.out.grown h1 (fun e => by have := Option.some.inj e; omega),
      only_setCell (p := ⟨w.heap.size, 1, none⟩) (only_setCell (p := ⟨w.heap.size, 0, none⟩) h.gr (Or.inr (Nat.le_refl _)) _) (Or.inr (Nat.le_refl _)) _⟩)
  go_enter Tryd.func10, Tryd.ntmps10
  go_upto_region 1 with fail
  rw [← HW3.out]
  clear hw3 HW3
  go_cut [] (fun wx => ASt w wx o mo br gm gs cn cf pf g n S0 R M (R i))
  case first =>
    go_region_with (go_at_call 18; refine (follow o g n S0 R M hn ho h0 HR.out (M i) i rfl hi _ (HSA.out _ (by first | exact Or.inl rfl | exact Or.inr (Or.inl rfl) | exact Or.inr (Or.inr rfl))).inv (HSA.out _ (by first | exact Or.inl rfl | exact Or.inr (Or.inl rfl) | exact Or.inr (Or.inr rfl))).out (HSA.out _ (by first | exact Or.inl rfl | exact Or.inr (Or.inl rfl) | exact Or.inr (Or.inr rfl))).tab).mono ?_; rintro e w5 ⟨rfl, ht5, hg5⟩; have hst := (HSA.out _ (by first | exact Or.inl rfl | exact Or.inr (Or.inl rfl) | exact Or.inr (Or.inr rfl))).next hg5 ht5 hgw ho h0; have kb0 : w5.cell? ⟨w.heap.size, 0, none⟩ = some (.int .u32 0) := hst.b3.cell 0; have kb1 : w5.cell? ⟨w.heap.size, 1, none⟩ = some (.int .u32 i) := hst.b3.cell 1; have kf0 : w5.frozen? ⟨w.heap.size, 0, none⟩ = false := hst.b3.frozen 0; have kf1 : w5.frozen? ⟨w.heap.size, 1, none⟩ = false := hst.b3.frozen 1; have HST := Lib.hid hst; clear hst hg5 ht5)
    all_goals
      go_wp2_with fail
      go_meet
      exact HMEET.out w5 HST.out
  case rest =>
    obtain ⟨wa, rfl⟩ : ∃ wa : World, wa = wc := ⟨_, rfl⟩
    have HST := Lib.hid hcut
    clear hcut HSA HS3 HMEET j0 j1 j2
    have hsc := HST.out.gr.size
    have j0 : wa.cell? ⟨br, 6, none⟩ = some (.slice (some ⟨o, 0, none⟩) 1 1) := HST.out.rs.blk.cell 6
    have j1 : wa.cell? ⟨w.heap.size, 0, none⟩ = some (.int .u32 0) := HST.out.b3.cell 0
    have j2 : wa.cell? ⟨w.heap.size, 1, none⟩ = some (.int .u32 (R i : Nat)) := HST.out.b3.cell 1
    have HSB : Hid (∀ W : World, (W = wa ∨ W = wa.drew ∨ W = wa.drew.drew) → Out1 W o g n) := Lib.hid (fun W hW => by
      rcases hW with rfl | rfl | rfl <;> exact HST.out.out)
    have HSC : Hid (∀ W w7 : World, (W = wa ∨ W = wa.drew ∨ W = wa.drew.drew) → W.grownBy w7 none → wa.grownBy w7 none) := Lib.hid (fun W w7 hW hg => by
      rcases hW with rfl | rfl | rfl <;> exact ⟨hg.os, hg.tape, hg.output, hg.size, hg.block⟩)
    go_wp2
    go_cut [10] (fun p wx => p = .pointer (some ⟨g, R i * 10, none⟩) ∧ wa.grownBy wx none)
    case first =>
      go_region_with (go_at_call 19; refine (getS o g n (R i) _ (HSB.out _ (by first | exact Or.inl rfl | exact Or.inr (Or.inl rfl) | exact Or.inr (Or.inr rfl))) hRn hn).mono ?_; rintro e w7 ⟨rfl, hg7⟩; have HG7 := Lib.hid (HSC.out _ w7 (by first | exact Or.inl rfl | exact Or.inr (Or.inl rfl) | exact Or.inr (Or.inr rfl)) hg7); clear hg7)
      all_goals
        go_wp2_with fail
        go_meet
        exact ⟨rfl, HG7.out⟩
    case rest =>
      obtain ⟨rfl, hgd⟩ := hcut
      obtain ⟨wb, rfl⟩ : ∃ wb : World, wb = wc := ⟨_, rfl⟩
      have hst : ASt w wb o mo br gm gs cn cf pf g n S0 R M (R i) := HST.out.next (grown_any hgd) (HST.out.tab.grown hgd (by simp)) hgw ho h0
      have HST2 := Lib.hid hst
      have m0 : wb.cell? ⟨g, R i * 10, none⟩ = some (.pointer none) := hst.tab.alias_ hRn
      have m6 : wb.cell? ⟨g, R i * 10 + 6, none⟩ = some (.int .u32 (S0 (R i)).ns) := hst.tab.nest hRn
      have m7 : wb.cell? ⟨g, R i * 10 + 7, none⟩ = some (.int .u16 (S0 (R i)).fl) := hst.tab.flags hRn
      have m8 : wb.cell? ⟨g, R i * 10 + 8, none⟩ = some (.int .u8 (S0 (R i)).kd) := hst.tab.kind hRn
      have hgl := hst.tab.lt
      have hb3l := hst.b3.lt
      rw [HRR.out] at m6 m7 m8
      simp only at m6 m7 m8
      clear hst hgd HST HSB HSC j0 j1 j2
      go_wp2
      go_loop [10] (fun p => p = .pointer (some ⟨g, R i * 10, none⟩)) (fun _ => 0)
      case atStart => rfl
      case round =>
        subst hrel
        go_wp2_with fail
        refine (slotns_not g (R i) 27 _ (by decide) HBIT.out _ m7 m8).mono ?_
        rw [show nsU 27 = 0 from rfl]
        rintro e w8 ⟨rfl, hg8⟩
        have n6 : w8.cell? ⟨g, R i * 10 + 6, none⟩ = some (.int .u32 0) := (World.cell?_of_block (hg8.block g hgl (by simp))).trans m6
        have HST8 := Lib.hid (HST2.out.next (grown_any hg8) (HST2.out.tab.grown hg8 (by simp)) hgw ho h0)
        have hl8 := hg8.size
        clear hg8 m0 m6 m7 m8 HST2
        go_wp2_with (go_at_call 21; refine (isv_any 0 false rfl _).mono ?_)
        rintro e w9 ⟨rfl, hg9⟩
        have hg89 : w8.grownBy w9 none := grown_tr (only_alloc (World.grownBy.refl _ _) _) hg9
        have HST9 := Lib.hid (HST8.out.next (grown_any hg89) (HST8.out.tab.grown hg89 (by simp)) hgw ho h0)
        clear hg9 hg89 n6
        have hgr := HST9.out.gr
        have hl9 := hgr.size
        obtain ⟨tcs, htb⟩ := HST9.out.tab.blk
        have hpt9 : Blk w9 pt 39 #[.slice SA L cap] := HPT.out.grown hgr (fun e => HNG.out.1 (Option.some.inj e))
        have hsb9 : Blk w9 sb 24 #[.int .u32 stable] := HSB0.out.grown hgr (fun e => HNG.out.2.1 (Option.some.inj e))
        have hown9 : w9.ownsRow B 47 4 (.slice SA L cap) L xs := own_kept HOWN.out (fun k hk hlt => hgr.block k hlt (fun e => HNG.out.2.2 (by rw [hk]; exact e)))
        have p0 : w9.cell? ⟨pt, 0, none⟩ = some (.slice SA L cap) := hpt9.cell 0
        have p1 : w9.cell? ⟨sb, 0, none⟩ = some (.int .u32 stable) := hsb9.cell 0
        have r0 : w9.cell? ⟨w.heap.size, 0, none⟩ = some (.int .u32 0) := HST9.out.b3.cell 0
        have r1 : w9.cell? ⟨w.heap.size, 1, none⟩ = some (.int .u32 (R i : Nat)) := HST9.out.b3.cell 1
        have HBB : Hid (B ≤ w9.heap.size) := Lib.hid (Nat.le_trans hB hl9)
        obtain ⟨NEW, hNEW⟩ : ∃ x, x = Obj.cells #[.int .u32 stable, .int .u32 0, .int .u32 (R i : Nat), .int .u32 count] 47 := ⟨_, rfl⟩
        have HWY : Hid (∀ W : World, (W = (w9.alloc NEW).drew ∨ W = w9.drew.alloc NEW ∨ W = w9.alloc NEW) → Blk W pt 39 #[.slice SA L cap] ∧ W.ownsRow B 47 4 (.slice SA L cap) L xs ∧ B ≤ W.heap.size ∧ w9.grownBy W none ∧ Src Tryd.prog 4 39 (.slice (some ⟨w9.heap.size, 0, none⟩) 1 1) 1 [.int .u32 stable, .int .u32 0, .int .u32 (R i : Nat), .int .u32 count] W) := Lib.hid (fun W hW => by
          subst hNEW
          rcases hW with rfl | rfl | rfl
          · exact ⟨(hpt9.alloc _).drew, (hown9.alloc _).drew, by have := HBB.out; simp; omega, only_drew (only_alloc (World.grownBy.refl _ _) _), srcOne4 w9 _ rfl _ _ _ _ rfl⟩
          · exact ⟨hpt9.drew.alloc _, hown9.drew.alloc _, by have := HBB.out; simp; omega, only_alloc (only_drew (World.grownBy.refl _ _)) _, srcOne4 w9 _ rfl _ _ _ _ rfl⟩
          · exact ⟨hpt9.alloc _, hown9.alloc _, by have := HBB.out; simp; omega, only_alloc (World.grownBy.refl _ _) _, srcOne4 w9 _ rfl _ _ _ _ rfl⟩)
        subst hNEW
        have HFIN : Hid (∀ (W wf : World) (q cap2 : Nat), w9.grownBy W none → Blk wf pt 39 #[.slice (some ⟨q, 0, none⟩) (L + 1) cap2] → wf.ownsRow B 47 4 (.slice (some ⟨q, 0, none⟩) (L + 1) cap2) (L + 1) (xs ++ [.int .u32 stable, .int .u32 0, .int .u32 (R i : Nat), .int .u32 count]) → Turned (fun b => b = pt ∨ Value.ownBlock (.slice SA L cap) = some b) W wf → (Value.ownBlock (.slice SA L cap) = some q ∨ w.heap.size ≤ q) → TopPost w o mo br gm gs cn cf pf g n S0 R M B pt L (.slice SA L cap) xs [.int .u32 stable, .int .u32 0, .int .u32 (R i : Nat), .int .u32 count] (.returned (.tuple #[])) wf) := Lib.hid (fun W wf q cap2 h1 h2 h3 h4 h5 => by
          have ht : Turned (fun b => b = pt ∨ Value.ownBlock (.slice SA L cap) = some b) w9 wf := (Turned.of_grown h1 (fun _ e => by cases e)).trans h4
          refine ⟨rfl, q, cap2, h2, h3, ht.lk HST9.out.tab ?_, HST9.out.rs.turned ht ?_ ?_, ?_, h5⟩
          · rintro (e | e)
            · exact HNG.out.1 e.symm
            · exact HNG.out.2.2 e
          · rintro (e | e)
            · exact Blk.ne_ HST9.out.rs.blk hpt9 (by decide) e
            · exact own_blk_ne hown9 HST9.out.rs.blk (by decide) e
          · intro j hj
            obtain ⟨scs, hsb⟩ := (HST9.out.rs.slt j hj).blk
            rintro (e | e)
            · exact Blk.ne_ hsb hpt9 (by decide) e
            · exact own_blk_ne hown9 hsb (by decide) e
          · exact (Turned.of_grown (S := fun b => b = g ∨ b = pt ∨ Value.ownBlock (.slice SA L cap) = some b) hgr (fun _ e => Or.inl (Option.some.inj e).symm)).trans (ht.more (fun i _ e => Or.inr e)))
        have HQW : Hid (∀ (W : World) (v' : Value) (q : Nat) (l c : Nat), w9.grownBy W none → v' = .slice (some ⟨q, 0, none⟩) l c → (v'.ownBlock = Value.ownBlock (.slice SA L cap) ∨ v'.ownBlock = some W.heap.size) → Value.ownBlock (.slice SA L cap) = some q ∨ w.heap.size ≤ q) := Lib.hid (fun W v' q l c h1 h2 h3 => by
          rw [h2] at h3
          rcases h3 with h | h
          · exact Or.inl h.symm
          · have e := Option.some.inj (show some q = some W.heap.size from h)
            have := h1.size
            right; omega)
        obtain ⟨i0, hi0, hz0, hz1, hz2⟩ := info_parts sscI
        have hlp := hpt9.lt; have hls := hsb9.lt; have hlb := HST9.out.b3.lt
        clear hpt9 hsb9 hown9 hgr htb HST8
        go_wp2
        go_region_law (refine step_append_own_src _ rfl (.tmp 85) (.tmp 94) 39 39 rfl B 47 i0 (.agg #[.int .u32 0, .int .u32 0, .int .u32 0, .int .u32 0]) 4 16 Tryd.underlying39 hi0 hz0 hz1 hz2 rfl (.slice SA L cap) L xs (by simp [Act.eval, Act.put]) (HWY.out _ (by first | exact Or.inl rfl | exact Or.inr (Or.inl rfl) | exact Or.inr (Or.inr rfl))).2.1 (.slice (some ⟨w9.heap.size, 0, none⟩) 1 1) 1 [.int .u32 stable, .int .u32 0, .int .u32 (R i : Nat), .int .u32 count] (by simp [Act.eval, Act.put]) (HWY.out _ (by first | exact Or.inl rfl | exact Or.inr (Or.inl rfl) | exact Or.inr (Or.inr rfl))).2.2.2.2 (by unfold maxLen; omega) (by omega) (HWY.out _ (by first | exact Or.inl rfl | exact Or.inr (Or.inl rfl) | exact Or.inr (Or.inr rfl))).2.2.1 ?_; intro v' w2 hown' hgrow hat; obtain ⟨q, cap2, hv, d0, z0, hbf, hof, htf⟩ := top_app (HWY.out _ (by first | exact Or.inl rfl | exact Or.inr (Or.inl rfl) | exact Or.inr (Or.inr rfl))).1 (HWY.out _ (by first | exact Or.inl rfl | exact Or.inr (Or.inl rfl) | exact Or.inr (Or.inr rfl))).2.1 hown' hgrow; have hq : Value.ownBlock (.slice SA L cap) = some q ∨ w.heap.size ≤ q := HQW.out _ _ q _ _ (HWY.out _ (by first | exact Or.inl rfl | exact Or.inr (Or.inl rfl) | exact Or.inr (Or.inr rfl))).2.2.2.1 hv hat; have HEND := Lib.hid (HFIN.out _ _ q cap2 (HWY.out _ (by first | exact Or.inl rfl | exact Or.inr (Or.inl rfl) | exact Or.inr (Or.inr rfl))).2.2.2.1 hbf hof htf hq); subst hv; clear hbf hof htf hown' hgrow hat hq)
        all_goals
          go_wp2
          refine bodyPost_ret (results_none rfl _ _ _) rfl ?_
          exact HEND.out
set_option maxHeartbeats 16000000 in
set_option maxRecDepth 100000 in
theorem acc_top1 (br o : Nat) (mo : Option Nat) (gm : Nat) (gs cn : Nat → Nat) (cf pf : Nat → Nat → Int) (g n : Nat) (S0 : Nat → SymR) (R M : Nat → Nat) (i : Nat) (w : World) (hn : n ≤ 16777216) (ho : o ≠ g) (h0 : g ≠ 0) (hR : Roots n R M) (hi : i < n) (hinv : Inv w) (hout : Out1 w o g n) (htab : Lk w g n S0 R M) (hrs : RS o mo br gm gs cn cf pf w) (pt sb : Nat) (count stable : Int) (B L cap : Nat) (SA : Option Addr) (xs : List Value) (hkd : (S0 (R i)).kd = 18) (hns : (S0 (R i)).ns = 0) (hbit : bits .and .u16 (S0 (R i)).fl 1 = 0)
    (hpt : Blk w pt 39 #[.slice SA L cap]) (hsb0 : Blk w sb 24 #[.int .u32 stable]) (hown : w.ownsRow B 47 4 (.slice SA L cap) L xs) (hL : L ≤ 16777216) (hB : B ≤ w.heap.size) :
    Calls Tryd.prog 10 #[.pointer (some ⟨br, 0, none⟩), .pointer (some ⟨pt, 0, none⟩), .agg #[.int .u32 0, .int .u32 i], .int .u32 count, .slice (some ⟨sb, 0, none⟩) 1 1] w (TopPost w o mo br gm gs cn cf pf g n S0 R M B pt L (.slice SA L cap) xs [.int .u32 stable, .int .u32 0, .int .u32 (R i : Nat), .int .u32 count]) := by
  have HNG : Hid (pt ≠ g ∧ sb ≠ g ∧ Value.ownBlock (.slice SA L cap) ≠ some g) := Lib.hid (by
    obtain ⟨tcs, htb⟩ := htab.blk
    exact ⟨Blk.ne_ hpt htb (by decide), Blk.ne_ hsb0 htb (by decide), own_blk_ne hown htb (by decide)⟩)
  have HPT := Lib.hid hpt; have HSB0 := Lib.hid hsb0; have HOWN := Lib.hid hown
  clear hpt hsb0 hown
  generalize hr : S0 (R i) = r at hkd hbit hns
  obtain ⟨xn, xa, xb, xs', xf, xk⟩ := r
  simp only at hkd hbit hns
  subst hkd
  subst hns
  have HRR := Lib.hid hr
  have HBIT := Lib.hid hbit
  clear hbit hr
  have hgw := htab.lt
  have how := hout.lt
  have h0w := hinv.pos
  have hRn : R i < n := (hR i hi).1
  obtain ⟨w3, hw3⟩ : ∃ w3, w3 = w.alloc (.cells #[.int .u32 0, .int .u32 i] 44) := ⟨_, rfl⟩
  have hgn : w.grownBy w3 none := by rw [hw3]; exact only_alloc (World.grownBy.refl _ _) _
  have S3 : ASt w w3 o mo br gm gs cn cf pf g n S0 R M i :=
    ⟨by rw [hw3]; exact Blk.new _ _ _, hrs.turned (Turned.of_grown (S := fun _ => False) hgn (fun _ e => by cases e)) (fun e => e) (fun _ _ e => e), htab.grown hgn (by simp), hinv.grown hgn (by simp), hout.grown hgn (by simp), grown_any hgn⟩
  have HS3 := Lib.hid S3; have HR := Lib.hid hR; have HW3 := Lib.hid hw3
  clear S3 hgn hrs htab hinv hout hR
  have j0 : w3.cell? ⟨br, 6, none⟩ = some (.slice (some ⟨o, 0, none⟩) 1 1) := HS3.out.rs.blk.cell 6
  have j1 : w3.cell? ⟨w.heap.size, 0, none⟩ = some (.int .u32 0) := HS3.out.b3.cell 0
  have j2 : w3.cell? ⟨w.heap.size, 1, none⟩ = some (.int .u32 i) := HS3.out.b3.cell 1
  have HSA : Hid (∀ W : World, (W = w3 ∨ W = w3.drew ∨ W = w3.drew.drew) → ASt w W o mo br gm gs cn cf pf g n S0 R M i) := Lib.hid (fun W hW => by
    have h1 : w3.grownBy W none := by
      rcases hW with rfl | rfl | rfl
      · exact World.grownBy.refl _ _
      · exact only_drew (World.grownBy.refl _ _)
      · exact only_drew (only_drew (World.grownBy.refl _ _))
    exact HS3.out.next (grown_any h1) (HS3.out.tab.grown h1 (by simp)) hgw ho h0)
  have HMEET : Hid (∀ w5 : World, ASt w w5 o mo br gm gs cn cf pf g n S0 R M i → ASt w ((w5.setCell ⟨w.heap.size, 0, none⟩ (.int .u32 0)).setCell ⟨w.heap.size, 1, none⟩ (.int .u32 (R i : Nat))) o mo br gm gs cn cf pf g n S0 R M (R i)) := Lib.hid (fun w5 h => by
    have h1 : w5.grownBy ((w5.setCell ⟨w.heap.size, 0, none⟩ (.int .u32 0)).setCell ⟨w.heap.size, 1, none⟩ (.int .u32 (R i : Nat))) (some w.heap.size) :=
      only_setCell (p := ⟨w.heap.size, 1, none⟩) (only_setCell (p := ⟨w.heap.size, 0, none⟩) (World.grownBy.refl _ _) (Or.inl rfl) _) (Or.inl rfl) _
    exact ⟨(h.b3.set_ 0 _).set_ 1 _, h.rs.other h.b3 (by decide) (by decide) h1, h.tab.grown h1 (fun e => by have := Option.some.inj e; omega), h.inv.grown h1 (fun e => by have := Option.some.inj e; omega), h.out.grown h1 (fun e => by have := Option.some.inj e; omega),
      only_setCell (p := ⟨w.heap.size, 1, none⟩) (only_setCell (p := ⟨w.heap.size, 0, none⟩) h.gr (Or.inr (Nat.le_refl _)) _) (Or.inr (Nat.le_refl _)) _⟩)
  go_enter Tryd.func10, Tryd.ntmps10
  go_upto_region 1 with fail
  rw [← HW3.out]
  clear hw3 HW3
  go_cut [] (fun wx => ASt w wx o mo br gm gs cn cf pf g n S0 R M (R i))
  case first =>
    go_region_with (go_at_call 18; refine (follow o g n S0 R M hn ho h0 HR.out (M i) i rfl hi _ (HSA.out _ (by first | exact Or.inl rfl | exact Or.inr (Or.inl rfl) | exact Or.inr (Or.inr rfl))).inv (HSA.out _ (by first | exact Or.inl rfl | exact Or.inr (Or.inl rfl) | exact Or.inr (Or.inr rfl))).out (HSA.out _ (by first | exact Or.inl rfl | exact Or.inr (Or.inl rfl) | exact Or.inr (Or.inr rfl))).tab).mono ?_; rintro e w5 ⟨rfl, ht5, hg5⟩; have hst := (HSA.out _ (by first | exact Or.inl rfl | exact Or.inr (Or.inl rfl) | exact Or.inr (Or.inr rfl))).next hg5 ht5 hgw ho h0; have kb0 : w5.cell? ⟨w.heap.size, 0, none⟩ = some (.int .u32 0) := hst.b3.cell 0; have kb1 : w5.cell? ⟨w.heap.size, 1, none⟩ = some (.int .u32 i) := hst.b3.cell 1; have kf0 : w5.frozen? ⟨w.heap.size, 0, none⟩ = false := hst.b3.frozen 0; have kf1 : w5.frozen? ⟨w.heap.size, 1, none⟩ = false := hst.b3.frozen 1; have HST := Lib.hid hst; clear hst hg5 ht5)
    all_goals
      go_wp2_with fail
      go_meet
      exact HMEET.out w5 HST.out
  case rest =>
    obtain ⟨wa, rfl⟩ : ∃ wa : World, wa = wc := ⟨_, rfl⟩
    have HST := Lib.hid hcut
    clear hcut HSA HS3 HMEET j0 j1 j2
    have hsc := HST.out.gr.size
    have j0 : wa.cell? ⟨br, 6, none⟩ = some (.slice (some ⟨o, 0, none⟩) 1 1) := HST.out.rs.blk.cell 6
    have j1 : wa.cell? ⟨w.heap.size, 0, none⟩ = some (.int .u32 0) := HST.out.b3.cell 0
    have j2 : wa.cell? ⟨w.heap.size, 1, none⟩ = some (.int .u32 (R i : Nat)) := HST.out.b3.cell 1
    have HSB : Hid (∀ W : World, (W = wa ∨ W = wa.drew ∨ W = wa.drew.drew) → Out1 W o g n) := Lib.hid (fun W hW => by
      rcases hW with rfl | rfl | rfl <;> exact HST.out.out)
    have HSC : Hid (∀ W w7 : World, (W = wa ∨ W = wa.drew ∨ W = wa.drew.drew) → W.grownBy w7 none → wa.grownBy w7 none) := Lib.hid (fun W w7 hW hg => by
      rcases hW with rfl | rfl | rfl <;> exact ⟨hg.os, hg.tape, hg.output, hg.size, hg.block⟩)
    go_wp2
    go_cut [10] (fun p wx => p = .pointer (some ⟨g, R i * 10, none⟩) ∧ wa.grownBy wx none)
    case first =>
      go_region_with (go_at_call 19; refine (getS o g n (R i) _ (HSB.out _ (by first | exact Or.inl rfl | exact Or.inr (Or.inl rfl) | exact Or.inr (Or.inr rfl))) hRn hn).mono ?_; rintro e w7 ⟨rfl, hg7⟩; have HG7 := Lib.hid (HSC.out _ w7 (by first | exact Or.inl rfl | exact Or.inr (Or.inl rfl) | exact Or.inr (Or.inr rfl)) hg7); clear hg7)
      all_goals
        go_wp2_with fail
        go_meet
        exact ⟨rfl, HG7.out⟩
    case rest =>
      obtain ⟨rfl, hgd⟩ := hcut
      obtain ⟨wb, rfl⟩ : ∃ wb : World, wb = wc := ⟨_, rfl⟩
      have hst : ASt w wb o mo br gm gs cn cf pf g n S0 R M (R i) := HST.out.next (grown_any hgd) (HST.out.tab.grown hgd (by simp)) hgw ho h0
      have HST2 := Lib.hid hst
      have m0 : wb.cell? ⟨g, R i * 10, none⟩ = some (.pointer none) := hst.tab.alias_ hRn
      have m6 : wb.cell? ⟨g, R i * 10 + 6, none⟩ = some (.int .u32 (S0 (R i)).ns) := hst.tab.nest hRn
      have m7 : wb.cell? ⟨g, R i * 10 + 7, none⟩ = some (.int .u16 (S0 (R i)).fl) := hst.tab.flags hRn
      have m8 : wb.cell? ⟨g, R i * 10 + 8, none⟩ = some (.int .u8 (S0 (R i)).kd) := hst.tab.kind hRn
      have hgl := hst.tab.lt
      have hb3l := hst.b3.lt
      rw [HRR.out] at m6 m7 m8
      simp only at m6 m7 m8
      clear hst hgd HST HSB HSC j0 j1 j2
      go_wp2
      go_loop [10] (fun p => p = .pointer (some ⟨g, R i * 10, none⟩)) (fun _ => 0)
      case atStart => rfl
      case round =>
        subst hrel
        go_wp2_with fail
        refine (slotns_not g (R i) 18 _ (by decide) HBIT.out _ m7 m8).mono ?_
        rw [show nsU 18 = 1 from rfl]
        rintro e w8 ⟨rfl, hg8⟩
        have n6 : w8.cell? ⟨g, R i * 10 + 6, none⟩ = some (.int .u32 0) := (World.cell?_of_block (hg8.block g hgl (by simp))).trans m6
        have HST8 := Lib.hid (HST2.out.next (grown_any hg8) (HST2.out.tab.grown hg8 (by simp)) hgw ho h0)
        have hl8 := hg8.size
        clear hg8 m0 m6 m7 m8 HST2
        go_wp2_with (go_at_call 21; refine (isv_any 0 false rfl _).mono ?_)
        rintro e w9 ⟨rfl, hg9⟩
        have hg89 : w8.grownBy w9 none := grown_tr (only_alloc (World.grownBy.refl _ _) _) hg9
        have HST9 := Lib.hid (HST8.out.next (grown_any hg89) (HST8.out.tab.grown hg89 (by simp)) hgw ho h0)
        clear hg9 hg89 n6
        have hgr := HST9.out.gr
        have hl9 := hgr.size
        obtain ⟨tcs, htb⟩ := HST9.out.tab.blk
        have hpt9 : Blk w9 pt 39 #[.slice SA L cap] := HPT.out.grown hgr (fun e => HNG.out.1 (Option.some.inj e))
        have hsb9 : Blk w9 sb 24 #[.int .u32 stable] := HSB0.out.grown hgr (fun e => HNG.out.2.1 (Option.some.inj e))
        have hown9 : w9.ownsRow B 47 4 (.slice SA L cap) L xs := own_kept HOWN.out (fun k hk hlt => hgr.block k hlt (fun e => HNG.out.2.2 (by rw [hk]; exact e)))
        have p0 : w9.cell? ⟨pt, 0, none⟩ = some (.slice SA L cap) := hpt9.cell 0
        have p1 : w9.cell? ⟨sb, 0, none⟩ = some (.int .u32 stable) := hsb9.cell 0
        have r0 : w9.cell? ⟨w.heap.size, 0, none⟩ = some (.int .u32 0) := HST9.out.b3.cell 0
        have r1 : w9.cell? ⟨w.heap.size, 1, none⟩ = some (.int .u32 (R i : Nat)) := HST9.out.b3.cell 1
        have HBB : Hid (B ≤ w9.heap.size) := Lib.hid (Nat.le_trans hB hl9)
        obtain ⟨NEW, hNEW⟩ : ∃ x, x = Obj.cells #[.int .u32 stable, .int .u32 0, .int .u32 (R i : Nat), .int .u32 count] 47 := ⟨_, rfl⟩
        have HWY : Hid (∀ W : World, (W = (w9.alloc NEW).drew ∨ W = w9.drew.alloc NEW ∨ W = w9.alloc NEW) → Blk W pt 39 #[.slice SA L cap] ∧ W.ownsRow B 47 4 (.slice SA L cap) L xs ∧ B ≤ W.heap.size ∧ w9.grownBy W none ∧ Src Tryd.prog 4 39 (.slice (some ⟨w9.heap.size, 0, none⟩) 1 1) 1 [.int .u32 stable, .int .u32 0, .int .u32 (R i : Nat), .int .u32 count] W) := Lib.hid (fun W hW => by
          subst hNEW
          rcases hW with rfl | rfl | rfl
          · exact ⟨(hpt9.alloc _).drew, (hown9.alloc _).drew, by have := HBB.out; simp; omega, only_drew (only_alloc (World.grownBy.refl _ _) _), srcOne4 w9 _ rfl _ _ _ _ rfl⟩
          · exact ⟨hpt9.drew.alloc _, hown9.drew.alloc _, by have := HBB.out; simp; omega, only_alloc (only_drew (World.grownBy.refl _ _)) _, srcOne4 w9 _ rfl _ _ _ _ rfl⟩
          · exact ⟨hpt9.alloc _, hown9.alloc _, by have := HBB.out; simp; omega, only_alloc (World.grownBy.refl _ _) _, srcOne4 w9 _ rfl _ _ _ _ rfl⟩)
        subst hNEW
        have HFIN : Hid (∀ (W wf : World) (q cap2 : Nat), w9.grownBy W none → Blk wf pt 39 #[.slice (some ⟨q, 0, none⟩) (L + 1) cap2] → wf.ownsRow B 47 4 (.slice (some ⟨q, 0, none⟩) (L + 1) cap2) (L + 1) (xs ++ [.int .u32 stable, .int .u32 0, .int .u32 (R i : Nat), .int .u32 count]) → Turned (fun b => b = pt ∨ Value.ownBlock (.slice SA L cap) = some b) W wf → (Value.ownBlock (.slice SA L cap) = some q ∨ w.heap.size ≤ q) → TopPost w o mo br gm gs cn cf pf g n S0 R M B pt L (.slice SA L cap) xs [.int .u32 stable, .int .u32 0, .int .u32 (R i : Nat), .int .u32 count] (.returned (.tuple #[])) wf) := Lib.hid (fun W wf q cap2 h1 h2 h3 h4 h5 => by
          have ht : Turned (fun b => b = pt ∨ Value.ownBlock (.slice SA L cap) = some b) w9 wf := (Turned.of_grown h1 (fun _ e => by cases e)).trans h4
          refine ⟨rfl, q, cap2, h2, h3, ht.lk HST9.out.tab ?_, HST9.out.rs.turned ht ?_ ?_, ?_, h5⟩
          · rintro (e | e)
            · exact HNG.out.1 e.symm
            · exact HNG.out.2.2 e
          · rintro (e | e)
            · exact Blk.ne_ HST9.out.rs.blk hpt9 (by decide) e
            · exact own_blk_ne hown9 HST9.out.rs.blk (by decide) e
          · intro j hj
            obtain ⟨scs, hsb⟩ := (HST9.out.rs.slt j hj).blk
            rintro (e | e)
            · exact Blk.ne_ hsb hpt9 (by decide) e
            · exact own_blk_ne hown9 hsb (by decide) e
          · exact (Turned.of_grown (S := fun b => b = g ∨ b = pt ∨ Value.ownBlock (.slice SA L cap) = some b) hgr (fun _ e => Or.inl (Option.some.inj e).symm)).trans (ht.more (fun i _ e => Or.inr e)))
        have HQW : Hid (∀ (W : World) (v' : Value) (q : Nat) (l c : Nat), w9.grownBy W none → v' = .slice (some ⟨q, 0, none⟩) l c → (v'.ownBlock = Value.ownBlock (.slice SA L cap) ∨ v'.ownBlock = some W.heap.size) → Value.ownBlock (.slice SA L cap) = some q ∨ w.heap.size ≤ q) := Lib.hid (fun W v' q l c h1 h2 h3 => by
          rw [h2] at h3
          rcases h3 with h | h
          · exact Or.inl h.symm
          · have e := Option.some.inj (show some q = some W.heap.size from h)
            have := h1.size
            right; omega)
        obtain ⟨i0, hi0, hz0, hz1, hz2⟩ := info_parts sscI
        have hlp := hpt9.lt; have hls := hsb9.lt; have hlb := HST9.out.b3.lt
        clear hpt9 hsb9 hown9 hgr htb HST8
        go_wp2
        go_region_law (refine step_append_own_src _ rfl (.tmp 85) (.tmp 94) 39 39 rfl B 47 i0 (.agg #[.int .u32 0, .int .u32 0, .int .u32 0, .int .u32 0]) 4 16 Tryd.underlying39 hi0 hz0 hz1 hz2 rfl (.slice SA L cap) L xs (by simp [Act.eval, Act.put]) (HWY.out _ (by first | exact Or.inl rfl | exact Or.inr (Or.inl rfl) | exact Or.inr (Or.inr rfl))).2.1 (.slice (some ⟨w9.heap.size, 0, none⟩) 1 1) 1 [.int .u32 stable, .int .u32 0, .int .u32 (R i : Nat), .int .u32 count] (by simp [Act.eval, Act.put]) (HWY.out _ (by first | exact Or.inl rfl | exact Or.inr (Or.inl rfl) | exact Or.inr (Or.inr rfl))).2.2.2.2 (by unfold maxLen; omega) (by omega) (HWY.out _ (by first | exact Or.inl rfl | exact Or.inr (Or.inl rfl) | exact Or.inr (Or.inr rfl))).2.2.1 ?_; intro v' w2 hown' hgrow hat; obtain ⟨q, cap2, hv, d0, z0, hbf, hof, htf⟩ := top_app (HWY.out _ (by first | exact Or.inl rfl | exact Or.inr (Or.inl rfl) | exact Or.inr (Or.inr rfl))).1 (HWY.out _ (by first | exact Or.inl rfl | exact Or.inr (Or.inl rfl) | exact Or.inr (Or.inr rfl))).2.1 hown' hgrow; have hq : Value.ownBlock (.slice SA L cap) = some q ∨ w.heap.size ≤ q := HQW.out _ _ q _ _ (HWY.out _ (by first | exact Or.inl rfl | exact Or.inr (Or.inl rfl) | exact Or.inr (Or.inr rfl))).2.2.2.1 hv hat; have HEND := Lib.hid (HFIN.out _ _ q cap2 (HWY.out _ (by first | exact Or.inl rfl | exact Or.inr (Or.inl rfl) | exact Or.inr (Or.inr rfl))).2.2.2.1 hbf hof htf hq); subst hv; clear hbf hof htf hown' hgrow hat hq)
        all_goals
          go_wp2
          refine bodyPost_ret (results_none rfl _ _ _) rfl ?_
          exact HEND.out
end Go.Proofs.YtdmllmipcfkaaaaDoor
