/- n011_125: printSymbol prints the chosen name. -/
import Derived.Test.YtmkkocjhbclibaaFmtPsn
import Derived.Deep.RegionWith
import Derived.Deep.DeepCutAuto
import Derived.Maps.StringElems
namespace Go.Proofs.YtmkkocjhbclibaaFmt
open Go.RowKit Go.Maps Go.WideMaps
set_option linter.unusedVariables false
set_option linter.unusedSimpArgs false
/-- Only the blocks of S, and what is new, may have turned. -/
structure Turned (S : Nat → Prop) (w w' : World) : Prop where
  os : w'.os = w.os
  tape : w'.tape = w.tape
  output : w'.output = w.output
  size : w.heap.size ≤ w'.heap.size
  block : ∀ k, k < w.heap.size → ¬ S k → w'.heap[k]? = w.heap[k]?
theorem Turned.below {S : Nat → Prop} {w w' : World} (h : Turned S w w') {B : Nat} (hB : ∀ i, i < w.heap.size → S i → B ≤ i) (hs : B ≤ w.heap.size) : Below B w w' :=
  ⟨h.os, h.tape, h.output, h.size, fun i hi => h.block i (by omega) (fun e => by have := hB i (by omega) e; omega)⟩
theorem Turned.blk {S : Nat → Prop} {w w' : World} (h : Turned S w w') {g : Nat} {t : TypeId} {cs : Array Value} (hb : Blk w g t cs) (hn : ¬ S g) : Blk w' g t cs := (h.block g hb.lt hn).trans hb
theorem Turned.grown {S : Nat → Prop} {w w1 w2 : World} {row : Option Nat} (h : Turned S w w1) (hg : w1.grownBy w2 row) (hr : ∀ k, row = some k → k < w.heap.size → S k) : Turned S w w2 :=
  ⟨hg.os.trans h.os, hg.tape.trans h.tape, hg.output.trans h.output, Nat.le_trans h.size hg.size, fun k hk hn => (hg.block k (Nat.lt_of_lt_of_le hk h.size) (fun e => hn (hr k e.symm hk))).trans (h.block k hk hn)⟩
theorem Turned.setCell {S : Nat → Prop} {w w1 : World} (h : Turned S w w1) {p : Addr} (hp : S p.block ∨ w.heap.size ≤ p.block) (u : Value) : Turned S w (w1.setCell p u) :=
  ⟨h.os, h.tape, h.output, by rw [size_setCell]; exact h.size, fun k hk hn => (Below.heap_setCell w1 p u k (by rintro rfl; rcases hp with hp | hp; exact hn hp; omega)).trans (h.block k hk hn)⟩
theorem Turned.drew {S : Nat → Prop} {w w1 : World} (h : Turned S w w1) : Turned S w w1.drew := ⟨h.os, h.tape, h.output, h.size, h.block⟩
theorem isP_turned {S : Nat → Prop} {w w' : World} {B b : Nat} {K : Array Value} {A : Option Addr} {cap : Nat} {bs : List Value} (h : IsP B b K A cap bs w) (ht : Turned S w w') (hb : ¬ S b) (ho : ∀ g, rb A = some g → ¬ S g) : IsP B b K A cap bs w' :=
  ⟨h.base, h.size, ht.blk h.blk hb, own_kept h.own fun g hg hl => ht.block g hl (ho g hg)⟩
theorem rmap_turned {S : Nat → Prop} {w w' : World} {b n : Nat} {D : DataW Unit} (h : RMap w b n D) (ht : Turned S w w') (hn : ¬ S b) : RMap w' b n D := by
  obtain ⟨es, cl, k1, k2⟩ := h
  exact ⟨es, cl, (ht.block b (Array.getElem?_eq_some_iff.1 k1).1 hn).trans k1, k2⟩
theorem rmap_not_cells {w : World} {b n : Nat} {D : DataW Unit} (h : RMap w b n D) {g : Nat} {t : TypeId} {cs : Array Value} (hg : Blk w g t cs) : b ≠ g := by
  rintro rfl
  obtain ⟨es, cl, h1, _⟩ := h
  unfold Blk at hg
  rw [hg] at h1
  cases h1
def meas (ls : List Int) (m : Nat) : Nat := if ls.getD m 0 = 0 then 0 else 1
theorem root_roots {n1 n3 : Nat} {q : Int} {ls : List Int} (h : WfOk n1 n1 n3 n3 q ls) : Roots n1 (rootN ls) (meas ls) := by
  intro m hm
  rcases h.lk m hm with h0 | ⟨j, hj, h1, h2⟩
  · have e : rootN ls m = m := by unfold rootN; rw [if_pos h0]
    rw [e]; exact ⟨hm, e, Nat.le_refl _⟩
  · have e : rootN ls m = j := by unfold rootN; rw [if_neg (by omega), h1]; omega
    have e2 : rootN ls j = j := by unfold rootN; rw [if_pos h2]
    rw [e, e2]
    exact ⟨hj, rfl, by unfold meas; rw [if_pos h2]; omega⟩
theorem root_lk {w : World} {g n1 n3 : Nat} {q : Int} {names : List ByteArray} {ls : List Int} (h : WfOk n1 n1 n3 n3 q ls) (ht : Tbl w g n1 (symP names ls)) : Lk w g n1 (symP names ls) (rootN ls) (meas ls) := by
  refine ⟨_, ht, fun m hm => SymR.like_refl _, fun m hm => ?_⟩
  rcases h.lk m hm with h0 | ⟨j, hj, h1, h2⟩
  · exact .inl ⟨if_pos h0, if_pos h0, by unfold rootN; rw [if_pos h0]⟩
  · refine .inr ⟨j, if_neg (by omega), ?_, hj, ?_, ?_⟩
    · show (if ls.getD m 0 = 0 then _ else _) = _
      rw [if_neg (by omega), h1]; omega
    · unfold meas; rw [if_pos h2, if_neg (by omega)]; omega
    · unfold rootN; rw [if_pos h2, if_neg (by omega), h1]; omega
/-- The state while printSymbol runs. -/
structure SSt (w W : World) (g n : Nat) (S0 : Nat → SymR) (R M : Nat → Nat) (x r : Nat) : Prop where
  t : Turned (fun i => i = g) w W
  lk : Lk W g n S0 R M
  box : Blk W x 44 #[.int .u32 0, .int .u32 r]
theorem SSt.grown {w W W' : World} {g n : Nat} {S0 : Nat → SymR} {R M : Nat → Nat} {x r : Nat} (h : SSt w W g n S0 R M x r) (hg : W.grownBy W' none) : SSt w W' g n S0 R M x r :=
  ⟨h.t.grown hg (fun k e => by cases e), h.lk.grown hg (by simp), h.box.grown hg (by simp)⟩
theorem SSt.drew {w W : World} {g n : Nat} {S0 : Nat → SymR} {R M : Nat → Nat} {x r : Nat} (h : SSt w W g n S0 R M x r) : SSt w W.drew g n S0 R M x r :=
  ⟨h.t.drew, h.lk.grown (row := none) ⟨rfl, rfl, rfl, Nat.le_refl _, fun _ _ _ => rfl⟩ (by simp), h.box.drew⟩
def SymPost (B b : Nat) (bs : List Value) (K : Value → Array Value) (w : World) (e : Ending) (w' : World) : Prop := e = .returned (.tuple #[]) ∧ (∃ A cap v, IsP B b (K v) A cap bs w') ∧ Below B w w'
theorem ref_size0 : (Tryf.prog.info? 44).map (·.size) = some 2 := by kernel_rfl
set_option maxHeartbeats 8000000 in
set_option maxRecDepth 100000 in
theorem psym (B b : Nat) (asc : Bool) (m o g n1 : Nat) (names : List ByteArray) (ls : List Int) (ks : List Int) (vs : List ByteArray) (n3 : Nat) (A : Option Addr) (cap : Nat) (bs : List Value) (q : Nat) (ws : Int) (w : World)
    (hP : SymP B b asc m o g n1 (symP names ls) ks vs n3 A cap bs w) (hwf : WfOk n1 n1 n3 n3 q ls) (hn : n1 ≤ 65536) (hI : Inv w) (hB : 0 < B ∧ B ≤ w.heap.size) (hl : bs.length ≤ 4194304)
    (hch : (chosenF names ls ks vs n3 q).size = 0 ∨ PlainId (chosenF names ls ks vs n3 q)) (hcs : (chosenF names ls ks vs n3 q).size ≤ 1048576) :
    Calls Tryf.prog 18 #[.pointer (some ⟨b, 0, none⟩), .agg #[.int .i32 0], .agg #[.int .u32 0, .int .u32 q], .int .u8 0, .int .u8 ws] w (SymPost B b (bs ++ byteCells (chosenF names ls ks vs n3 q)) (symK asc m o) w) := by
  obtain ⟨⟨v, hp⟩, hout, htab, ⟨km, D, hmap, hren⟩, ho, hg, hm, hog⟩ := hP
  have hqn : q < n1 := by have := hwf.hq; omega
  have hbl := hp.lt
  have hgl := htab.lt
  obtain ⟨tcs, htb, _⟩ := htab
  have hgb : b ≠ g := Blk.ne_ hp.blk htb (by decide)
  have hgm : m ≠ g := rmap_not_cells hmap htb
  have hown : ∀ g', rb A = some g' → ¬ g' = g := by
    intro g' hg' e
    subst e
    exact own_blk_ne hp.own htb (by decide) (by rw [ownBlock_slice]; exact hg')
  obtain ⟨W0, hW0⟩ : ∃ W0, W0 = (w.alloc (.cells #[.int .i32 0] 72)).alloc (.cells #[.int .u32 0, .int .u32 q] 44) := ⟨_, rfl⟩
  have hg1 : w.grownBy W0 none := by rw [hW0]; exact only_alloc (only_alloc (World.grownBy.refl _ _) _) _
  have hbox1 : Blk W0 (w.heap.size + 1) 44 #[.int .u32 0, .int .u32 q] := by
    rw [hW0]
    have := Blk.new (w.alloc (.cells #[.int .i32 0] 72)) 44 #[.int .u32 0, .int .u32 q]
    simpa using this
  obtain ⟨x, hx⟩ : ∃ x, x = w.heap.size + 1 := ⟨_, rfl⟩
  rw [← hx] at hbox1
  have hxw : w.heap.size ≤ x := by omega
  have hlk0 : Lk w g n1 (symP names ls) (rootN ls) (meas ls) := root_lk hwf ⟨tcs, htb, ‹_›⟩
  have S0 : SSt w W0 g n1 (symP names ls) (rootN ls) (meas ls) x q := ⟨⟨hg1.os, hg1.tape, hg1.output, hg1.size, fun k hk _ => hg1.block k hk (by simp)⟩, hlk0.grown hg1 (by simp), hbox1⟩
  have HS0 := Lib.hid S0
  have HP := Lib.hid hp; have HOUT := Lib.hid hout; have HI := Lib.hid hI; have HWF := Lib.hid hwf; have HMAP := Lib.hid hmap; have HREN := Lib.hid hren; have HOWN := Lib.hid hown; have HCH := Lib.hid hch; have HR := Lib.hid (root_roots hwf); have HW0 := Lib.hid hW0; have HX := Lib.hid hx
  have AT : Hid (∀ W y r, SSt w W g n1 (symP names ls) (rootN ls) (meas ls) y r → IsP B b (symK asc m o v) A cap bs W ∧ Out1 W o g n1 ∧ Inv W ∧ RMap W m km D) := Lib.hid (fun W y r h => ⟨isP_turned HP.out h.t hgb HOWN.out, h.t.blk HOUT.out (fun e => hog e), by
    obtain ⟨cs, t, i1, i2⟩ := HI.out
    exact ⟨cs, t, (h.t.block 0 HI.out.pos (fun e => by omega)).trans i1, i2⟩, rmap_turned HMAP.out h.t hgm⟩)
  obtain ⟨Rq, hRq⟩ : ∃ Rq, Rq = rootN ls q := ⟨_, rfl⟩
  have hRn : Rq < n1 := by rw [hRq]; exact (HR.out q hqn).1
  have HRQ := Lib.hid hRq
  have k13 : W0.cell? ⟨b, 13, none⟩ = some (.slice (some ⟨o, 0, none⟩) 1 1) := (AT.out W0 x q S0).1.cell (by decide)
  have r0 : W0.cell? ⟨x, 0, none⟩ = some (.int .u32 0) := hbox1.cell 0
  have r1 : W0.cell? ⟨x, 1, none⟩ = some (.int .u32 q) := hbox1.cell 1
  have HSA : Hid (∀ W : World, (W = W0 ∨ W = W0.drew ∨ W = W0.drew.drew) → SSt w W g n1 (symP names ls) (rootN ls) (meas ls) x q) := Lib.hid (fun W hW => by
    rcases hW with rfl | rfl | rfl
    · exact HS0.out
    · exact HS0.out.drew
    · exact HS0.out.drew.drew)
  have HNEXT : Hid (∀ W w5 : World, SSt w W g n1 (symP names ls) (rootN ls) (meas ls) x q → Lk w5 g n1 (symP names ls) (rootN ls) (meas ls) → W.grownBy w5 (some g) → SSt w w5 g n1 (symP names ls) (rootN ls) (meas ls) x q) := Lib.hid (fun W w5 h hl5 hg5 =>
    ⟨h.t.grown hg5 (fun k e _ => (Option.some.inj e).symm), hl5, h.box.grown hg5 (fun e => by have := Option.some.inj e; omega)⟩)
  have HMEET : Hid (∀ w5 : World, SSt w w5 g n1 (symP names ls) (rootN ls) (meas ls) x q → SSt w ((w5.setCell ⟨x, 0, none⟩ (.int .u32 0)).setCell ⟨x, 1, none⟩ (.int .u32 (rootN ls q : Nat))) g n1 (symP names ls) (rootN ls) (meas ls) x (rootN ls q)) := Lib.hid (fun w5 h =>
    ⟨(h.t.setCell (p := ⟨x, 0, none⟩) (.inr hxw) _).setCell (p := ⟨x, 1, none⟩) (.inr hxw) _, (h.lk.far (p := ⟨x, 0, none⟩) (by show g ≠ x; omega) _).far (p := ⟨x, 1, none⟩) (by show g ≠ x; omega) _, (h.box.set_ 0 _).set_ 1 _⟩)
  clear hp hlk0 hbox1 hwf hmap hren hout hown htb hW0 hg1 hI hch S0 hRq hx
  go_enter Tryf.func18, Tryf.ntmps18
  go_upto_region 1 with fail
  rw [← HW0.out, ← HX.out]
  clear HW0
  go_cut [] (fun wx => SSt w wx g n1 (symP names ls) (rootN ls) (meas ls) x (rootN ls q))
  case first =>
    go_region_with (go_at_call 20; refine (follow o g n1 (symP names ls) (rootN ls) (meas ls) (by omega) hog (by omega) HR.out (meas ls q) q rfl hqn _ (AT.out _ _ _ (HSA.out _ (by first | exact Or.inl rfl | exact Or.inr (Or.inl rfl) | exact Or.inr (Or.inr rfl)))).2.2.1 (AT.out _ _ _ (HSA.out _ (by first | exact Or.inl rfl | exact Or.inr (Or.inl rfl) | exact Or.inr (Or.inr rfl)))).2.1 (HSA.out _ (by first | exact Or.inl rfl | exact Or.inr (Or.inl rfl) | exact Or.inr (Or.inr rfl))).lk).mono ?_; rintro e w5 ⟨rfl, ht5, hg5⟩; have hst := HNEXT.out _ w5 (HSA.out _ (by first | exact Or.inl rfl | exact Or.inr (Or.inl rfl) | exact Or.inr (Or.inr rfl))) ht5 hg5; have kb0 : w5.cell? ⟨x, 0, none⟩ = some (.int .u32 0) := hst.box.cell 0; have kb1 : w5.cell? ⟨x, 1, none⟩ = some (.int .u32 q) := hst.box.cell 1; have kf0 : w5.frozen? ⟨x, 0, none⟩ = false := hst.box.frozen 0; have kf1 : w5.frozen? ⟨x, 1, none⟩ = false := hst.box.frozen 1; have HST := Lib.hid hst; clear hst hg5 ht5)
    all_goals
      go_wp2_with fail
      go_meet
      exact HMEET.out w5 HST.out
  case rest =>
    obtain ⟨wa, rfl⟩ : ∃ wa : World, wa = wc := ⟨_, rfl⟩
    have hcut' : SSt w wa g n1 (symP names ls) (rootN ls) (meas ls) x Rq := by rw [HRQ.out]; exact hcut
    have HST := Lib.hid hcut'
    clear hcut hcut' HSA HNEXT HMEET k13 r0 r1 HS0
    have k13 : wa.cell? ⟨b, 13, none⟩ = some (.slice (some ⟨o, 0, none⟩) 1 1) := (AT.out wa _ _ HST.out).1.cell (by decide)
    have r0 : wa.cell? ⟨x, 0, none⟩ = some (.int .u32 0) := HST.out.box.cell 0
    have r1 : wa.cell? ⟨x, 1, none⟩ = some (.int .u32 Rq) := HST.out.box.cell 1
    have HSB : Hid (∀ W : World, (W = wa ∨ W = wa.drew ∨ W = wa.drew.drew) → SSt w W g n1 (symP names ls) (rootN ls) (meas ls) x Rq) := Lib.hid (fun W hW => by
      rcases hW with rfl | rfl | rfl
      · exact HST.out
      · exact HST.out.drew
      · exact HST.out.drew.drew)
    go_upto_region 2 with fail
    go_cut [10] (fun p wx => p = .string (names.getD Rq ⟨#[]⟩) ∧ SSt w wx g n1 (symP names ls) (rootN ls) (meas ls) x Rq)
    case first =>
      go_region_with (go_at_call 21; refine (getS o g n1 Rq _ (AT.out _ _ _ (HSB.out _ (by first | exact Or.inl rfl | exact Or.inr (Or.inl rfl) | exact Or.inr (Or.inr rfl)))).2.1 hRn (by omega)).mono ?_; rintro e w7 ⟨rfl, hg7⟩; have hst := (HSB.out _ (by first | exact Or.inl rfl | exact Or.inr (Or.inl rfl) | exact Or.inr (Or.inr rfl))).grown hg7; have kn : w7.cell? ⟨g, Rq * 10 + 1, none⟩ = some (.string (names.getD Rq ⟨#[]⟩)) := hst.lk.name hRn; have HST7 := Lib.hid hst; clear hst hg7)
      all_goals
        go_wp2_with fail
        go_meet
        exact ⟨rfl, HST7.out⟩
    case rest =>
      obtain ⟨rfl, hcut⟩ := hcut
      obtain ⟨wb, rfl⟩ : ∃ wb : World, wb = wc := ⟨_, rfl⟩
      have HST8 := Lib.hid hcut
      clear hcut HSB k13 r0 r1
      have k2 : wb.cell? ⟨b, 2, none⟩ = some (.map (some m)) := (AT.out wb _ _ HST8.out).1.cell (by decide)
      have k9 : wb.cell? ⟨b, 9, none⟩ = some (.bool false) := (AT.out wb _ _ HST8.out).1.cell (by decide)
      have r0 : wb.cell? ⟨x, 0, none⟩ = some (.int .u32 0) := HST8.out.box.cell 0
      have r1 : wb.cell? ⟨x, 1, none⟩ = some (.int .u32 Rq) := HST8.out.box.cell 1
      obtain ⟨hh, hat⟩ := HREN.out Rq (by omega)
      have hz : (zeroValue 9).run Tryf.prog wb.drew = .ok (.string ⟨#[]⟩) wb.drew := by kernel_rfl
      obtain ⟨lv, ps, hrun, hlv⟩ := World.ownsMap.look_ok (w := wb.drew) (AT.out wb _ _ HST8.out).2.2.2 lawR Tryf.underlying53 hz (plainElem_string (H := Unit) Tryf.underlying9 (by decide)) (refK_key Rq (by omega))
      obtain ⟨sv, rfl, hsv, _⟩ := plainElem_string_inv Tryf.underlying9 hlv
      rw [hh] at hrun
      have HCHE : Hid (chosenF names ls ks vs n3 q = (pickR ks vs Rq n3).getD (names.getD Rq ⟨#[]⟩)) := Lib.hid (by rw [HRQ.out]; rfl)
      have hpk : (pickR ks vs Rq n3 = none ∧ chosenF names ls ks vs n3 q = names.getD Rq ⟨#[]⟩) ∨ ((pickR ks vs Rq n3).isSome = true ∧ chosenF names ls ks vs n3 q = sv) := by
        cases hp : pickR ks vs Rq n3 with
        | none => exact .inl ⟨rfl, by rw [HCHE.out, hp]; rfl⟩
        | some v' =>
          refine .inr ⟨rfl, ?_⟩
          rw [HCHE.out, hp]
          have e := hat v' hp
          have e2 : (DataW.lit (.string v'.data.toList) : DataW Unit) = .lit (.string sv.data.toList) := e.symm.trans (congrArg Prod.fst hsv)
          have e3 : (Lit.string v'.data.toList) = .string sv.data.toList := by injection e2
          have e4 : v'.data.toList = sv.data.toList := by injection e3
          obtain ⟨⟨l1⟩⟩ := v'; obtain ⟨⟨l2⟩⟩ := sv
          show (⟨⟨l1⟩⟩ : ByteArray) = ⟨⟨l2⟩⟩
          rw [show l1 = l2 from e4]
      clear hlv hsv hat hh hz
      obtain ⟨CN, hCN⟩ : ∃ CN, CN = chosenF names ls ks vs n3 q := ⟨_, rfl⟩
      have HFIN : Hid (∀ W y r, SSt w W g n1 (symP names ls) (rootN ls) (meas ls) y r → Calls Tryf.prog 23 #[.pointer (some ⟨b, 0, none⟩), .string CN, .int .u8 0, .int .u8 ws] W (SymPost B b (bs ++ byteCells (chosenF names ls ks vs n3 q)) (symK asc m o) w)) := Lib.hid (fun W y r h => by
        have hip := (AT.out W y r h).1
        have hbe : Below B w W := h.t.below (fun i _ e => by omega) hB.2
        have hBW : B ≤ W.heap.size := Nat.le_trans hB.2 hbe.size
        rw [hCN]
        rcases HCH.out with h0 | h0
        · refine (ident_empty _ h0 ws W hip hBW).mono ?_
          rintro e w' ⟨rfl, ⟨A', cap', hp', _⟩, hb', _⟩
          have : byteCells (chosenF names ls ks vs n3 q) = [] := List.eq_nil_of_length_eq_zero (by rw [byteCells_length]; exact h0)
          exact ⟨rfl, ⟨A', cap', v, by rw [this, List.append_nil]; exact hp'⟩, hbe.trans hb'⟩
        · refine (ident_plain _ h0 (by omega) ws W hip hBW _ rfl (by omega)).mono ?_
          rintro e w' ⟨rfl, ⟨A', cap', hp', _⟩, hb', _⟩
          exact ⟨rfl, ⟨A', cap', v, hp'⟩, hbe.trans hb'⟩)
      have HST9 : Hid (SSt w wb.drew g n1 (symP names ls) (rootN ls) (meas ls) x Rq) := Lib.hid HST8.out.drew
      rcases hpk with ⟨hp, hc⟩ | ⟨hp, hc⟩
      · rw [← hCN] at hc
        rw [hp] at hrun
        have HC := Lib.hid hc
        clear hp hc hCN
        go_wp2_with fail
        go_region
        all_goals
          rw [← HC.out]
          go_wp2_with (go_at_call 23; refine (HFIN.out _ _ _ HST9.out).mono ?_)
          rintro e w' ⟨rfl, h1, h2⟩
          have H1 := Lib.hid h1; have H2 := Lib.hid h2
          clear h1 h2
          go_wp2_with fail
          go_end0
          exact ⟨rfl, H1.out, H2.out⟩
      · rw [← hCN] at hc
        rw [hp] at hrun
        have HC := Lib.hid hc
        clear hp hc hCN
        go_wp2_with fail
        go_region
        all_goals
          rw [← HC.out]
          go_wp2_with (go_at_call 23; refine (HFIN.out _ _ _ HST9.out).mono ?_)
          rintro e w' ⟨rfl, h1, h2⟩
          have H1 := Lib.hid h1; have H2 := Lib.hid h2
          clear h1 h2
          go_wp2_with fail
          go_end0
          exact ⟨rfl, H1.out, H2.out⟩
end Go.Proofs.YtmkkocjhbclibaaFmt
