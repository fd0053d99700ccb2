/- recursivelyValidateTLA: a present file that is not yet stamped; the recursion whole. -/
import Derived.Test.YtecncdcfmmceeaaGreatTlr
import Derived.Deep.WholeRow
import Derived.Deep.RegionHeld3
namespace Go.Proofs.YtecncdcfmmceeaaGreat
open Go.RowKit
set_option linter.unusedVariables false
set_option linter.unusedSimpArgs false
/-- The state inside the call: file i is stamped and under way. -/
structure Mid (G : TG) (rb db sb : Nat) (jb : Nat → Nat) (σ : TS) (dc : Bool) (i p : Nat) (W0 : World) (σk : TS) (dck : Bool) (w : World) : Prop where
  tw : TW G rb db sb jb σk dck w
  snd : Sound G σk
  rel : Rel G p (some i) σ σk
  flag : Flag σ σk dc dck
  pas : σk.pas i = p
  aw : G.aw i = true → σk.dep i ≤ 1
  fr : Fr rb db W0 w
section
variable {G : TG} {rb db sb : Nat} {jb : Nat → Nat} {σ : TS} {dc : Bool} {i p : Nat} {W0 : World} {σk : TS} {dck : Bool} {w : World}
theorem Mid.alloc (h : Mid G rb db sb jb σ dc i p W0 σk dck w) (o : Obj) : Mid G rb db sb jb σ dc i p W0 σk dck (w.alloc o) := ⟨h.tw.alloc o, h.snd, h.rel, h.flag, h.pas, h.aw, h.fr.alloc o⟩
theorem Mid.grown (h : Mid G rb db sb jb σ dc i p W0 σk dck w) {w' : World} (hg : w.grownBy w' none) : Mid G rb db sb jb σ dc i p W0 σk dck w' := ⟨h.tw.grown hg, h.snd, h.rel, h.flag, h.pas, h.aw, h.fr.grown hg⟩
theorem Mid.drewN (h : Mid G rb db sb jb σ dc i p W0 σk dck w) (q : Nat) : Mid G rb db sb jb σ dc i p W0 σk dck (w.drewN q) := ⟨h.tw.keep fun _ _ => rfl, h.snd, h.rel, h.flag, h.pas, h.aw, h.fr.drewN q⟩
theorem Mid.call (h : Mid G rb db sb jb σ dc i p W0 σk dck w) {w' : World} {σ' : TS} {dc' : Bool} (h1 : TW G rb db sb jb σ' dc' w') (h2 : Sound G σ') (h3 : Rel G p none σk σ') (h4 : Flag σk σ' dck dc') (h5 : Fr rb db w w') : Mid G rb db sb jb σ dc i p W0 σ' dc' w' :=
  ⟨h1, h2, h.rel.trans h3, h.flag.trans h4 h.rel.mono h3.mono, h3.pas1 i h.pas, fun ha => Nat.le_trans (h3.mono i) (h.aw ha), h.fr.trans h5⟩
/-- The file takes a nearer parent. -/
theorem Mid.nearer (h : Mid G rb db sb jb σ dc i p W0 σk dck w) (hi : i < G.n) (ho : G.ok i = true) {r t : Nat} (hr : (G.recs i)[r]? = some (0, t)) (ht : t < G.n) (hlt : σk.dep t < σk.dep i - 1) {wb : World} (hg : (w.setCell ⟨rb, i * 27 + 22, none⟩ (.int .u32 ((INV - t : Nat) : Int))).grownBy wb none) :
    Mid G rb db sb jb σ dc i p W0 (setPar σk i r t) true (((wb.setCell ⟨rb, i * 27 + 23, none⟩ (.int .u32 ((INV - (σk.dep t + 1) : Nat) : Int))).setCell ⟨rb, i * 27 + 25, none⟩ (.int .u32 (r : Int))).setCell ⟨db, 0, none⟩ (.bool true)) ∧
      TW G rb db sb jb { σk with par := updF σk.par i t } dck wb ∧ TW G rb db sb jb { σk with par := updF σk.par i t, dep := updF σk.dep i (σk.dep t + 1) } dck (wb.setCell ⟨rb, i * 27 + 23, none⟩ (.int .u32 ((INV - (σk.dep t + 1) : Nat) : Int))) ∧ TW G rb db sb jb (setPar σk i r t) dck ((wb.setCell ⟨rb, i * 27 + 23, none⟩ (.int .u32 ((INV - (σk.dep t + 1) : Nat) : Int))).setCell ⟨rb, i * 27 + 25, none⟩ (.int .u32 (r : Int))) := by
  have t1 := (h.tw.setRes (σ' := { σk with par := updF σk.par i t }) (fun cs hc => hc.par_ hi t)).grown hg
  have t2 := t1.setRes (σ' := { σk with par := updF σk.par i t, dep := updF σk.dep i (σk.dep t + 1) }) (fun cs hc => hc.dep_ hi (σk.dep t + 1))
  have t3 := t2.setRes (σ' := setPar σk i r t) (fun cs hc => hc.ri_ hi r)
  have hr2 := setPar_rel G p i r t σk hlt
  refine ⟨⟨t3.setFlag true, setPar_sound h.snd hi ho h.aw hr ht hlt, h.rel.trans' hr2, h.flag.trans (setPar_flag σk i r t dck hlt) h.rel.mono hr2.mono, h.pas, fun ha => ?_, ?_⟩, t1, t2, t3⟩
  · have := h.aw ha; omega
  · exact ((((h.fr.setCell (p := ⟨rb, _, none⟩) (.inl rfl) _).grown hg).setCell (p := ⟨rb, _, none⟩) (.inl rfl) _).setCell (p := ⟨rb, _, none⟩) (.inl rfl) _).setCell (p := ⟨db, _, none⟩) (.inr (.inl rfl)) _
end
/-- The start: the file is stamped. -/
theorem Mid.start {G : TG} {rb db sb : Nat} {jb : Nat → Nat} {σ : TS} {dc : Bool} {i p : Nat} {W0 : World} (ht : TW G rb db sb jb σ dc W0) (hs : Sound G σ) (hi : i < G.n) :
    TW G rb db sb jb (stamp σ i p) dc (W0.setCell ⟨rb, i * 27 + 24, none⟩ (.int .u32 (p : Int))) ∧ Sound G (stamp σ i p) ∧ Rel G p (some i) σ (stamp σ i p) ∧ Flag σ (stamp σ i p) dc dc ∧ (stamp σ i p).pas i = p ∧ Fr rb db W0 (W0.setCell ⟨rb, i * 27 + 24, none⟩ (.int .u32 (p : Int))) :=
  ⟨ht.setRes (σ' := stamp σ i p) (fun cs hc => hc.pas_ hi p), hs.same (stamp_same σ i p), stamp_rel G p i σ, .inl ⟨rfl, stamp_same σ i p⟩, updF_self _ _ _, (Fr.refl _ _ _).setCell (p := ⟨rb, _, none⟩) (.inl rfl) _⟩
theorem grown_acc {a b c : World} (h : a.grownBy b none) (k : b.grownBy c none) : a.grownBy c none := ⟨k.os.trans h.os, k.tape.trans h.tape, k.output.trans h.output, Nat.le_trans h.size k.size, fun i hi hn => (k.block i (Nat.lt_of_lt_of_le hi h.size) hn).trans (h.block i hi hn)⟩
def recA (vk vt : Nat) : Array Value := #[.pointer none, .pointer none, .string ⟨#[]⟩, .string ⟨#[]⟩, .string ⟨#[]⟩, .string ⟨#[]⟩, .int .u8 0, .int .i32 0, .int .i32 0, .int .i32 0, .int .u32 (vt : Int), .int .u32 0, .int .u16 0, .int .u8 0, .int .u8 (vk : Int)]
theorem recI2 : (Tryz.prog.info? 62).map (·.size) = some 15 := by kernel_rfl
theorem wpList_store_new {P : Program} (w : World) {ops : Array Oper} {rest : List Oper} {o : Oper} {a : Act} {Q : Exit → Act → World → Prop} (hgd : o.guard = none) (ty : TypeId) (x y : Operand) (ho : o.op = .store ty x y)
    (cells old : Array Value) (hx : a.eval x = .pointer (some ⟨w.heap.size, 0, none⟩)) (hy : a.eval y = .agg cells) (hi : (P.info? ty).map (·.size) = some cells.size)
    (hold : old.size = cells.size) (h1 : cells.all (·.oneCell') = true)
    (hdst : o.dst = none) (h : wpList P ops Q rest a (w.alloc (.cells cells ty))) : wpList P ops Q (o :: rest) a (w.alloc (.cells old ty)) :=
  wpList_plain hgd fun _ hK => by
    have hput : a.put o.dst undef = a := by rw [hdst]; rfl
    unfold Oper.wp execOp
    simp only [ho, hx, hy, Instr.storeAt, Instr.sureAddr, Sem.run_bind, Sem.run_pure, Result.andThen_ok, run_storeVar_new (P := P) w ty old cells hi hold h1]
    have := hK _ _ h
    rw [← hput] at this
    exact this
theorem assert_js (v : Value) (W : World) : (Instr.typeAssert (.iface 157 v) 68 157 true).run Tryz.prog W = .ok (.tuple #[v, .bool true]) W := by
  simp [Instr.typeAssert, run_underlying Tryz.underlying157, go_sem, Result.andThen]
set_option maxHeartbeats 8000000 in
set_option maxRecDepth 100000 in
theorem rec_go (G : TG) (rb db sb : Nat) (jb : Nat → Nat) (σ : TS) (dc : Bool) (i p : Nat) (w : World) (hG : GOk G) (hi : i < G.n) (hp32 : p ≤ 4294967295) (ht : TW G rb db sb jb σ dc w) (hs : Sound G σ) (hp : σ.pas i ≠ p) (ho : G.ok i = true)
    (hIH : ∀ (σ' : TS) (dc' : Bool) (t : Nat) (w' : World), t < G.n → todo G p σ' < todo G p σ → TW G rb db sb jb σ' dc' w' → Sound G σ' → Calls Tryz.prog 24 #[.pointer (some ⟨sb, 0, none⟩), .int .u32 (t : Int), .int .u32 (p : Int), .pointer (some ⟨db, 0, none⟩)] w' (RecPost G rb db sb jb σ' dc' t p w')) :
    Calls Tryz.prog 24 #[.pointer (some ⟨sb, 0, none⟩), .int .u32 (i : Int), .int .u32 (p : Int), .pointer (some ⟨db, 0, none⟩)] w (RecPost G rb db sb jb σ dc i p w) := by
  have hta := fun W => assert_js (.pointer (some ⟨jb i, 0, none⟩)) W
  obtain ⟨css, cap, hsb, h11, hcap⟩ := ht.scan
  have hn16 := hG.n
  obtain ⟨W0, hW⟩ : ∃ W, W = w.alloc (.cells zChk 85) := ⟨_, rfl⟩
  have hB0 := Blk.new w 85 zChk
  have hT0 := ht.alloc (.cells zChk 85)
  rw [← hW] at hB0 hT0
  have HB := Lib.hid hB0
  have HF0 : Hid (Fr rb db w W0) := Lib.hid (by rw [hW]; exact (Fr.refl _ _ _).alloc _)
  have c11 : W0.cell? ⟨sb, 11, none⟩ = some (.slice (some ⟨rb, 0, none⟩) G.n cap) := by rw [hW]; exact ((hsb.alloc _).cell 11).trans h11
  obtain ⟨_, _, _, q24, _, q26⟩ := hT0.cells hi
  rw [ho] at q26
  have z24 : W0.frozen? ⟨rb, i * 27 + 24, none⟩ = false := hT0.z _
  have hii : (i : Int) < (G.n : Int) := by omega
  obtain ⟨v24, e24⟩ : ∃ v : Nat, v = σ.pas i := ⟨_, rfl⟩
  rw [← e24] at q24
  have t24 : ((v24 : Int) != (p : Int)) = true := by simp; omega
  have t24' : (v24 != p) = true := by simp; omega
  obtain ⟨m1, m2, m3, m4, m5, m6⟩ := Mid.start (rb := rb) (db := db) (sb := sb) (jb := jb) (dc := dc) (p := p) hT0 hs hi
  obtain ⟨W1, hW1⟩ : ∃ W, W = W0.setCell ⟨rb, i * 27 + 24, none⟩ (.int .u32 (p : Int)) := ⟨_, rfl⟩
  rw [← hW1] at m1 m6
  obtain ⟨σ1, hσ1⟩ : ∃ s, s = stamp σ i p := ⟨_, rfl⟩
  have hpar1 : σ1.par = σ.par := by rw [hσ1]; rfl
  rw [← hσ1] at m1 m2 m3 m4 m5
  have HM1 := Lib.hid m1; have HM2 := Lib.hid m2; have HM3 := Lib.hid m3; have HM4 := Lib.hid m4; have HM5 := Lib.hid m5; have HM6 := Lib.hid m6
  have HIH := Lib.hid hIH; have HP := Lib.hid hp; have HO := Lib.hid ho; have HG := Lib.hid hG
  obtain ⟨csj, hjb, h47, A, rcap, h35, hrow⟩ := hT0.js i hi ho
  obtain ⟨csr, hbr, _⟩ := hT0.res
  have hbd := hT0.flag
  have HNE : Hid (w.heap.size ≠ rb ∧ w.heap.size ≠ db) := Lib.hid ⟨hB0.ne_ hbr (by decide), hB0.ne_ hbd (by decide)⟩
  have HJS : Hid (∀ wx, Fr rb db W0 wx → Blk wx (jb i) 191 csj) := Lib.hid (fun wx hf => hf.blk hjb (hjb.ne_ hbr (by decide)) (hjb.ne_ hbd (by decide)))
  have HROW : Hid (0 < (G.recs i).length → ∃ g cur, A = some ⟨g, 0, none⟩ ∧ (∀ wx, Fr rb db W0 wx → Blk wx g 62 cur) ∧ ∀ (r : Nat) (q : Nat × Nat), (G.recs i)[r]? = some q → ∀ j, j < 15 → cur[r * 15 + j]? = (recC q.1 q.2)[j]?) := Lib.hid (fun hn => by
    obtain ⟨g, cur, h1, h2, h3⟩ := hrow hn
    exact ⟨g, cur, h1, fun wx hf => hf.blk h2 (h2.ne_ hbr (by decide)) (h2.ne_ hbd (by decide)), h3⟩)
  have H35 := Lib.hid h35
  have hj1 := HJS.out W1 m6
  obtain ⟨k4, k22, k23, _, _, _⟩ := m1.cells hi
  have k4' := k4 ho
  have zz22 : W1.frozen? ⟨rb, i * 27 + 22, none⟩ = false := m1.z _
  have zz23 : W1.frozen? ⟨rb, i * 27 + 23, none⟩ = false := m1.z _
  have j47 : W1.cell? ⟨jb i, 47, none⟩ = some (.int .i32 (if G.aw i then 5 else 0)) := (hj1.cell 47).trans h47
  have hpos := m2.pos i
  have hpi : σ1.par i ≤ INV := by
    rcases m2 i with h | h
    · rw [h.2]; exact Nat.le_refl _
    · have := h.lt
      rcases h.how with ⟨_, _, h2⟩ | ⟨_, _, _, h2, _⟩
      · rw [h2]; unfold INV; omega
      · unfold INV; omega
  clear m1 m2 m3 m4 m5 m6 hIH hp ho hs ht hsb h11 hB0 hT0 hjb h47 h35 hrow hbr hbd hj1 k4 hσ1 hG e24 hpar1
  go_enter Tryz.func24, Tryz.ntmps24
  go_upto_region 1 with fail
  have hW2 : w.alloc (.cells #[.int .u32 0, .int .u32 0, .int .u32 0, .int .u32 0] 85) = W0 := hW.symm
  rw [hW2]
  clear hW hW2
  go_upto_region 4 with fail
  rw [← hW1]
  clear hW1 q24 q26 z24 t24 t24' c11
  obtain ⟨bb, hbb⟩ : ∃ b : Bool, b = (G.aw i && decide (σ1.par i ≠ i)) := ⟨_, rfl⟩
  have HBB := Lib.hid hbb
  clear hbb
  go_upto_region 6 with fail
  go_cut [66] from 15 to 154 (fun v wx => v = .bool bb ∧ W1.grownBy wx none)
  case first =>
    cases haw : G.aw i with
    | false =>
      rw [haw] at j47
      have j47' : W1.cell? ⟨jb i, 47, none⟩ = some (.int .i32 0) := j47
      have HB1 := Lib.hid (show bb = false by rw [HBB.out, haw]; rfl)
      clear haw j47 HBB
      go_wp2
      go_meet
      case rel => exact ⟨by rw [HB1.out], World.grownBy.refl _ _⟩
    | true =>
      rw [haw] at j47
      have j47' : W1.cell? ⟨jb i, 47, none⟩ = some (.int .i32 5) := j47
      obtain ⟨x, hx⟩ : ∃ x, x = σ1.par i := ⟨_, rfl⟩
      rw [← hx] at k22 hpi
      have HB1 := Lib.hid (show bb = decide (x ≠ i) by rw [HBB.out, haw, hx]; rfl)
      clear haw j47 HBB hx
      by_cases hxi : x = i
      · have t1 : ((x : Int) != (i : Int)) = false := by simp [hxi]
        have t1' : (x != i) = false := by simp [hxi]
        have HB2 := Lib.hid (show bb = false by rw [HB1.out]; simp [hxi])
        have HGI := Lib.hid (gtIx x hpi)
        clear HB1 hxi
        go_wp2_with (go_at_call 22; refine (HGI.out _).mono ?_; rintro e wg ⟨rfl, hg⟩; have HGR := Lib.hid hg; clear hg)
        go_meet
        case rel => exact ⟨by rw [HB2.out], HGR.out⟩
      · have t1 : ((x : Int) != (i : Int)) = true := by simp; omega
        have t1' : (x != i) = true := by simp; omega
        have HB2 := Lib.hid (show bb = true by rw [HB1.out]; simp [hxi])
        have HGI := Lib.hid (gtIx x hpi)
        clear HB1 hxi
        go_wp2_with (go_at_call 22; refine (HGI.out _).mono ?_; rintro e wg ⟨rfl, hg⟩; have HGR := Lib.hid hg; clear hg)
        go_meet
        case rel => exact ⟨by rw [HB2.out], HGR.out⟩
  case rest =>
  obtain ⟨rfl, hg⟩ := hcut
  have HGR := Lib.hid hg
  clear hg
  have hTg := HM1.out.grown HGR.out
  have HTG := Lib.hid hTg
  have HFG : Hid (Fr rb db W0 wc) := Lib.hid (HM6.out.grown HGR.out)
  have g22 : wc.cell? ⟨rb, i * 27 + 22, none⟩ = some (.int .u32 ((INV - σ1.par i : Nat) : Int)) := (hTg.cells hi).2.1
  have g23 : wc.cell? ⟨rb, i * 27 + 23, none⟩ = some (.int .u32 ((INV - σ1.dep i : Nat) : Int)) := (hTg.cells hi).2.2.1
  clear hTg k22 k23 k4' j47 zz22 zz23
  go_upto_if 66 with fail
  go_cut [] from 15 to 154 (fun wx => ∃ (σ2 : TS) (dc2 : Bool), Mid G rb db sb jb σ dc i p W0 σ2 dc2 wx)
  case first =>
    cases bb with
    | false =>
      have hawp : G.aw i = true → σ1.dep i ≤ 1 := fun ha => by
        have h := HBB.out
        rw [ha] at h
        have hpi : σ1.par i = i := by simpa using h
        rcases HM2.out i with h1 | h1
        · rw [h1.2] at hpi; unfold INV at hpi; omega
        · rcases h1.how with ⟨_, h2, _⟩ | ⟨h2, _⟩
          · omega
          · rw [ha] at h2; cases h2
      have HMID := Lib.hid (show Mid G rb db sb jb σ dc i p W0 σ1 dc wc from ⟨HTG.out, HM2.out, HM3.out, HM4.out, HM5.out, hawp, HFG.out⟩)
      clear hawp HBB g22 g23
      go_wp2
      go_meet
      case rel => exact ⟨_, _, HMID.out⟩
    | true =>
      have hb2 : G.aw i = true ∧ σ1.par i ≠ i := by
        have h := HBB.out
        simpa using h
      obtain ⟨ha, hpi'⟩ := hb2
      obtain ⟨s1, s2⟩ := setAw_sound HM2.out hi HO.out ha hpi'
      have HS1 := Lib.hid s1
      have HS2 := Lib.hid s2
      have hmk1 : ∀ W, Calls Tryz.prog 17 #[.int .u32 1] W (KPost (.agg #[.int .u32 ((INV - 1 : Nat) : Int)]) W) := fun W => mkIx 1 (by unfold INV; omega) W
      have HMK0 := Lib.hid (fun W => mkIx i (by unfold INV; omega) W)
      have HMK1 := Lib.hid hmk1
      obtain ⟨vi, hvi⟩ : ∃ v : Nat, v = INV - i := ⟨_, rfl⟩
      obtain ⟨v1, hv1⟩ : ∃ v : Nat, v = INV - 1 := ⟨_, rfl⟩
      have HFIN : Hid (∀ wa wb : World, wc.grownBy wa none → (wa.setCell ⟨rb, i * 27 + 22, none⟩ (.int .u32 (vi : Int))).grownBy wb none → Mid G rb db sb jb σ dc i p W0 (setAw σ1 i) true ((wb.setCell ⟨rb, i * 27 + 23, none⟩ (.int .u32 (v1 : Int))).setCell ⟨db, 0, none⟩ (.bool true))) := Lib.hid (fun wa wb h1 h2 => by
        have t1 := (HTG.out.grown h1).setRes (σ' := { σ1 with par := updF σ1.par i i }) (u := .int .u32 ((INV - i : Nat) : Int)) (fun cs hc => hc.par_ hi i)
        rw [← hvi] at t1
        have t2 := (t1.grown h2).setRes (σ' := setAw σ1 i) (u := .int .u32 ((INV - 1 : Nat) : Int)) (fun cs hc => hc.dep_ hi 1)
        rw [← hv1] at t2
        have hrl := setAw_rel G p i σ1 HS2.out
        exact ⟨t2.setFlag true, HS1.out, HM3.out.trans' hrl, HM4.out.trans (setAw_flag σ1 i dc HS2.out) HM3.out.mono hrl.mono, HM5.out, fun _ => by show updF _ _ _ _ ≤ 1; rw [updF_self]; exact Nat.le_refl _, (((HFG.out.grown h1).setCell (p := ⟨rb, _, none⟩) (.inl rfl) _).grown h2 |>.setCell (p := ⟨rb, _, none⟩) (.inl rfl) _).setCell (p := ⟨db, _, none⟩) (.inr (.inl rfl)) _⟩)
      rw [← hvi] at HMK0
      rw [← hv1] at HMK1
      have HCC : Hid (∀ wa : World, wc.grownBy wa none → (∃ u, wa.cell? ⟨rb, i * 27 + 22, none⟩ = some (.int .u32 u)) ∧ wa.frozen? ⟨rb, i * 27 + 22, none⟩ = false) := Lib.hid (fun wa h1 => ⟨⟨_, ((HTG.out.grown h1).cells hi).2.1⟩, (HTG.out.grown h1).z _⟩)
      have HCD : Hid (∀ wa wb : World, wc.grownBy wa none → (wa.setCell ⟨rb, i * 27 + 22, none⟩ (.int .u32 (vi : Int))).grownBy wb none → (∃ u, wb.cell? ⟨rb, i * 27 + 23, none⟩ = some (.int .u32 u)) ∧ wb.frozen? ⟨rb, i * 27 + 23, none⟩ = false ∧ (∃ u, (wb.setCell ⟨rb, i * 27 + 23, none⟩ (.int .u32 (v1 : Int))).cell? ⟨db, 0, none⟩ = some (.bool u)) ∧ (wb.setCell ⟨rb, i * 27 + 23, none⟩ (.int .u32 (v1 : Int))).frozen? ⟨db, 0, none⟩ = false) := Lib.hid (fun wa wb h1 h2 => by
        have t1 := (HTG.out.grown h1).setRes (σ' := { σ1 with par := updF σ1.par i i }) (u := .int .u32 ((INV - i : Nat) : Int)) (fun cs hc => hc.par_ hi i)
        rw [← hvi] at t1
        have t2 := t1.grown h2
        have t3 := t2.setRes (σ' := setAw σ1 i) (u := .int .u32 ((INV - 1 : Nat) : Int)) (fun cs hc => hc.dep_ hi 1)
        rw [← hv1] at t3
        exact ⟨⟨_, (t2.cells hi).2.2.1⟩, t2.z _, ⟨_, t3.flag.cell 0⟩, t3.flag.frozen 0⟩)
      clear HBB ha hpi' s1 s2 hmk1 hvi hv1 g22 g23
      go_wp2_with (go_at_call 17; (with_reducible refine (HMK0.out _).mono ?_))
      rintro e wa ⟨rfl, hga⟩
      obtain ⟨⟨ua, hua⟩, hza⟩ := HCC.out wa hga
      have HGA := Lib.hid hga
      clear hga
      go_wp2_with (go_at_call 17; refine (HMK1.out _).mono ?_)
      rintro e wb ⟨rfl, hgb⟩
      obtain ⟨⟨ub, hub⟩, hzb, ⟨ud, hud⟩, hzd⟩ := HCD.out wa wb HGA.out hgb
      have HGB := Lib.hid hgb
      clear hgb hua hza
      go_wp2
      go_meet
      case rel => exact ⟨_, _, HFIN.out wa wb HGA.out HGB.out⟩
  case rest =>
  obtain ⟨σ2, dc2, hmid⟩ := hcut
  have HMID := Lib.hid hmid
  clear hmid
  have c35 : wc.cell? ⟨jb i, 35, none⟩ = some (.slice A (G.recs i).length rcap) := ((HJS.out wc HMID.out.fr).cell 35).trans H35.out
  have hlen := HG.out.len i
  obtain ⟨len, hlen'⟩ : ∃ l, l = (G.recs i).length := ⟨_, rfl⟩
  rw [← hlen'] at c35 hlen HROW
  have HLEN := Lib.hid hlen'
  have HLT := Lib.hid (show todo G p σ1 < todo G p σ from todo_lt HM3.out.pas1 hi HP.out HM5.out)
  clear hlen' HTG HFG HGR HM1 HM2 HM4 HM6 HBB
  go_wp2
  go_loopw [86] (fun tv wr => ∃ (k : Nat) (σk : TS) (dck : Bool), tv = .int .i64 (k : Int) ∧ k ≤ len ∧ Mid G rb db sb jb σ dc i p W0 σk dck wr ∧ ∀ (r t' : Nat), r < k → (G.recs i)[r]? = some (0, t') → t' < G.n → σk.dep i ≤ σ.dep t' + 1) (fun tv _ => len - (intOf tv).toNat)
  case atStart => exact ⟨0, σ2, dc2, rfl, Nat.zero_le _, HMID.out, fun r t' h => by omega⟩
  case round =>
    obtain ⟨k, σk, dck, rfl, hk, hmk, hdone⟩ := hrel
    have HMK := Lib.hid hmk; have HDN := Lib.hid hdone
    clear hmk hdone HMID c35
    by_cases hlt : k < len
    · obtain ⟨g, cur, rfl, hblk, hrows⟩ := HROW.out (by omega)
      obtain ⟨⟨kd, t⟩, hr⟩ : ∃ q, (G.recs i)[k]? = some q := ⟨_, List.getElem?_eq_getElem (by have := HLEN.out; omega)⟩
      have hrk := hrows k (kd, t) hr
      have hbw := hblk wr HMK.out.fr
      have hcell : ∀ j v, j < 15 → (recC kd t)[j]? = some v → wr.cell? ⟨g, k * 15 + j, none⟩ = some v := fun j v hj hv => (hbw.cell _).trans ((hrk j hj).trans hv)
      have r0 : wr.cell? ⟨g, k * 15, none⟩ = some (.pointer none) := hcell 0 _ (by omega) rfl
      have r1 : wr.cell? ⟨g, k * 15 + 1, none⟩ = some (.pointer none) := hcell 1 _ (by omega) rfl
      have r2 : wr.cell? ⟨g, k * 15 + 2, none⟩ = some (.string ⟨#[]⟩) := hcell 2 _ (by omega) rfl
      have r3 : wr.cell? ⟨g, k * 15 + 3, none⟩ = some (.string ⟨#[]⟩) := hcell 3 _ (by omega) rfl
      have r4 : wr.cell? ⟨g, k * 15 + 4, none⟩ = some (.string ⟨#[]⟩) := hcell 4 _ (by omega) rfl
      have r5 : wr.cell? ⟨g, k * 15 + 5, none⟩ = some (.string ⟨#[]⟩) := hcell 5 _ (by omega) rfl
      have r6 : wr.cell? ⟨g, k * 15 + 6, none⟩ = some (.int .u8 0) := hcell 6 _ (by omega) rfl
      have r7 : wr.cell? ⟨g, k * 15 + 7, none⟩ = some (.int .i32 0) := hcell 7 _ (by omega) rfl
      have r8 : wr.cell? ⟨g, k * 15 + 8, none⟩ = some (.int .i32 0) := hcell 8 _ (by omega) rfl
      have r9 : wr.cell? ⟨g, k * 15 + 9, none⟩ = some (.int .i32 0) := hcell 9 _ (by omega) rfl
      have r10 : wr.cell? ⟨g, k * 15 + 10, none⟩ = some (.int .u32 ((INV - t : Nat) : Int)) := hcell 10 _ (by omega) rfl
      have r11 : wr.cell? ⟨g, k * 15 + 11, none⟩ = some (.int .u32 0) := hcell 11 _ (by omega) rfl
      have r12 : wr.cell? ⟨g, k * 15 + 12, none⟩ = some (.int .u16 0) := hcell 12 _ (by omega) rfl
      have r13 : wr.cell? ⟨g, k * 15 + 13, none⟩ = some (.int .u8 0) := hcell 13 _ (by omega) rfl
      have r14 : wr.cell? ⟨g, k * 15 + 14, none⟩ = some (.int .u8 ((kd + 1 : Nat) : Int)) := hcell 14 _ (by omega) rfl
      obtain ⟨hkd, htg⟩ := HG.out.tgt i k kd t hr
      have HR := Lib.hid hr
      have hlt' : (k : Int) < (len : Int) := by omega
      have hwk : IntKind.i64.wrap ((k : Int) + 1) = ((k + 1 : Nat) : Int) := by rw [IntKind.wrap_i64]; omega
      clear hr hrk hbw hcell hrows hblk
      obtain ⟨vt, hvt⟩ : ∃ v : Nat, v = INV - t := ⟨_, rfl⟩
      obtain ⟨vk, hvk⟩ : ∃ v : Nat, v = kd + 1 := ⟨_, rfl⟩
      rw [← hvt] at r10
      rw [← hvk] at r14
      have HVT := Lib.hid hvt; have HVK := Lib.hid hvk
      clear hvt hvk
      have hone : (recA vk vt).all (·.oneCell') = true := by kernel_rfl
      have hsz := recI2
      obtain ⟨W2, hW2⟩ : ∃ W, W = wr.alloc (.cells (recA vk vt) 62) := ⟨_, rfl⟩
      have hbW : Blk W2 wr.heap.size 62 (recA vk vt) := by rw [hW2]; exact Blk.new _ _ _
      have HMW := Lib.hid (show Mid G rb db sb jb σ dc i p W0 σk dck W2 by rw [hW2]; exact HMK.out.alloc _)
      have d10 : W2.cell? ⟨wr.heap.size, 10, none⟩ = some (.int .u32 (vt : Int)) := hbW.cell 10
      have d14 : W2.cell? ⟨wr.heap.size, 14, none⟩ = some (.int .u8 (vk : Int)) := hbW.cell 14
      have HBW := Lib.hid hbW
      clear hbW
      go_upto_region 12 with fail
      go_upto_region 13 with (refine wpList_store_new wr rfl 62 (.tmp 13) (.tmp 90) rfl (recA vk vt) _ rfl rfl recI2 rfl hone rfl ?_)
      have hW3 : wr.alloc (.cells #[.pointer none, .pointer none, .string ⟨#[]⟩, .string ⟨#[]⟩, .string ⟨#[]⟩, .string ⟨#[]⟩, .int .u8 0, .int .i32 0, .int .i32 0, .int .i32 0, .int .u32 (vt : Int), .int .u32 0, .int .u16 0, .int .u8 0, .int .u8 (vk : Int)] 62) = W2 := hW2.symm
      first | rw [hW3] | rw [← hW2]
      clear hW2 hW3 hone hsz r0 r1 r2 r3 r4 r5 r6 r7 r8 r9 r10 r11 r12 r13 r14
      by_cases hti : t = INV
      · have hiv := fun W => isIx t false (by rw [hti]; exact Nat.le_refl _) (by simp [hti]) W
        rw [← HVT.out] at hiv
        have HIV := Lib.hid hiv
        have HNX : Hid (∀ (r t' : Nat), r < k + 1 → (G.recs i)[r]? = some (0, t') → t' < G.n → σk.dep i ≤ σ.dep t' + 1) := Lib.hid (fun r t' h1 h2 h3 => by
          rcases Nat.lt_or_ge r k with h4 | h4
          · exact HDN.out r t' h4 h2 h3
          · obtain rfl : r = k := by omega
            rw [HR.out] at h2
            injection h2 with h2
            injection h2 with h2 h5
            have := HG.out.n
            unfold INV at hti
            omega)
        clear hiv hti htg hkd
        go_wp2_with (go_at_call 21; refine (HIV.out _).mono ?_)
        rintro e wg ⟨rfl, hg⟩
        have HMG := Lib.hid (HMW.out.grown hg)
        clear hg d10 d14
        go_wp2
        go_roundw
        case rel => exact ⟨k + 1, σk, dck, rfl, by omega, HMG.out, HNX.out⟩
        case measure => simp [intOf]; omega
      have htn : t < G.n := by
        rcases htg with h | h
        · exact h
        · exact absurd h hti
      have htI : t ≤ INV := by unfold INV; omega
      have hiv := fun W => isIx t true htI (by simp [hti]) W
      have hgi := fun W => gtIx t htI W
      rw [← HVT.out] at hiv hgi
      have HIV := Lib.hid hiv; have HGI := Lib.hid hgi
      clear hiv hgi hti htg
      rcases (by omega : kd = 0 ∨ kd = 1 ∨ kd = 2) with hk0 | hk1 | hk2
      · subst hk0
        obtain rfl : vk = 1 := HVK.out
        have t2 : (((1 : Nat) : Int) == 2) = false := by decide
        have t1 : (((1 : Nat) : Int) == 1) = true := by decide
        go_wp2_with (go_at_call 21; refine (HIV.out _).mono ?_)
        rintro e wg ⟨rfl, hg⟩
        have HMG := Lib.hid (HMW.out.grown hg)
        have HBG := Lib.hid (HBW.out.grown hg (by simp))
        have g10 : wg.cell? ⟨wr.heap.size, 10, none⟩ = some (.int .u32 (vt : Int)) := HBG.out.cell 10
        have g14 : wg.cell? ⟨wr.heap.size, 14, none⟩ = some (.int .u8 ((1 : Nat) : Int)) := HBG.out.cell 14
        clear hg d10 d14
        go_wp2_with (go_at_call 22; refine (HGI.out _).mono ?_)
        rintro e wh ⟨rfl, hh⟩
        have HMH := Lib.hid (HMG.out.grown hh)
        have HBH := Lib.hid (HBG.out.grown hh (by simp))
        have hlt2 : todo G p σk < todo G p σ := todo_lt HMH.out.rel.pas1 hi HP.out HMH.out.pas
        have HLT2 := Lib.hid hlt2
        clear hh g10 g14 hlt2
        go_wp2_with (go_at_call 24; refine (HIH.out σk dck t wh htn HLT2.out HMH.out.tw HMH.out.snd).mono ?_)
        rintro e w5 ⟨σ5, dc5, rfl, ht5, hs5, hr5, hf5, hp5, hfr5⟩
        obtain ⟨csr5, hbr5, _⟩ := HMH.out.tw.res
        have hbd5 := HMH.out.tw.flag
        have HB5 := Lib.hid (hfr5.blk HBH.out (HBH.out.ne_ hbr5 (by decide)) (HBH.out.ne_ hbd5 (by decide)))
        have HM5 := Lib.hid (HMH.out.call ht5 hs5 hr5 hf5 hfr5)
        have HR5 := Lib.hid hr5
        obtain ⟨W6, hW6⟩ : ∃ W, W = w5.alloc (.cells (chk σ5 t) 85) := ⟨_, rfl⟩
        have HM6 := Lib.hid (show Mid G rb db sb jb σ dc i p W0 σ5 dc5 W6 by rw [hW6]; exact HM5.out.alloc _)
        have HB6 := Lib.hid (show Blk W6 wr.heap.size 62 (recA 1 vt) by rw [hW6]; exact HB5.out.alloc _)
        have HP6 := Lib.hid (show Blk W6 w5.heap.size 85 (chk σ5 t) by rw [hW6]; exact Blk.new _ _ _)
        have m14 : W6.cell? ⟨wr.heap.size, 14, none⟩ = some (.int .u8 ((1 : Nat) : Int)) := HB6.out.cell 14
        have hone5 : (chk σ5 t).all (·.oneCell') = true := by kernel_rfl
        clear ht5 hs5 hr5 hf5 hp5 hfr5 hbr5 hbd5
        go_upto_region 15 with (refine wpList_store_new w5 rfl 85 (.tmp 14) (.tmp 110) rfl (chk σ5 t) _ rfl rfl chkI rfl hone5 rfl ?_)
        rw [← hW6]
        clear hW6 hone5
        have hpdI := (HM6.out.snd.pos t).2
        have hidI := (HM6.out.snd.pos i)
        obtain ⟨pd, hpd⟩ : ∃ x, x = σ5.dep t := ⟨_, rfl⟩
        obtain ⟨idp, hid⟩ : ∃ x, x = σ5.dep i := ⟨_, rfl⟩
        rw [← hpd] at hpdI
        rw [← hid] at hidI
        obtain ⟨vpd, hvpd⟩ : ∃ v : Nat, v = INV - pd := ⟨_, rfl⟩
        obtain ⟨vid, hvid⟩ : ∃ v : Nat, v = INV - idp := ⟨_, rfl⟩
        have hp1 := HP6.out.cell 1
        have p1 : W6.cell? ⟨w5.heap.size, 1, none⟩ = some (.int .u32 (vpd : Int)) := by rw [hp1, hvpd, hpd]; rfl
        have q23 : W6.cell? ⟨rb, i * 27 + 23, none⟩ = some (.int .u32 (vid : Int)) := by rw [(HM6.out.tw.cells hi).2.2.1, hvid, hid]
        have hg1 := fun W => gtIx pd hpdI W
        have hg2 := fun W => gtIx idp hidI.2 W
        rw [← hvpd] at hg1
        rw [← hvid] at hg2
        have HG1 := Lib.hid hg1; have HG2 := Lib.hid hg2
        have HKEEP : Hid (∀ wg : World, W6.grownBy wg none → wg.cell? ⟨w5.heap.size, 1, none⟩ = some (.int .u32 (vpd : Int)) ∧ wg.cell? ⟨rb, i * 27 + 23, none⟩ = some (.int .u32 (vid : Int)) ∧ wg.cell? ⟨wr.heap.size, 14, none⟩ = some (.int .u8 1) ∧ wg.cell? ⟨wr.heap.size, 10, none⟩ = some (.int .u32 (vt : Int))) := Lib.hid (fun wg hg => by
          refine ⟨((HP6.out.grown hg (by simp)).cell 1).trans ?_, ?_, (HB6.out.grown hg (by simp)).cell 14, (HB6.out.grown hg (by simp)).cell 10⟩
          · rw [hvpd, hpd]; rfl
          · rw [((HM6.out.tw.grown hg).cells hi).2.2.1, hvid, hid])
        have HPD := Lib.hid hpd; have HID := Lib.hid hid
        have hwid : IntKind.u32.wrap ((idp : Int) - 1) = ((idp - 1 : Nat) : Int) := by rw [IntKind.wrap_u32']; unfold INV at hidI; omega
        obtain ⟨id1, hid1⟩ : ∃ v : Nat, v = idp - 1 := ⟨_, rfl⟩
        rw [← hid1] at hwid
        have HID1 := Lib.hid hid1
        obtain ⟨bn, hbn⟩ : ∃ b : Bool, b = decide (pd < id1) := ⟨_, rfl⟩
        have HBN := Lib.hid hbn
        have HX := Lib.hid (World.grownBy.refl W6 none)
        clear hvpd hvid hp1 hg1 hg2 hpd hid hid1 hbn
        go_wp2_with fail
        go_cut [126] from 87 to 150 (fun v wx => v = .bool bn ∧ W6.grownBy wx none)
        case first =>
          by_cases hb : pd < id1
          · have hb' : (pd : Int) < (id1 : Int) := by omega
            have HB9 := Lib.hid (show bn = true by rw [HBN.out]; simp [hb])
            clear hb HBN
            go_region_held3 (fun w' => w'.cell? ⟨w5.heap.size, 1, none⟩ = some (.int .u32 (vpd : Int)) ∧ w'.cell? ⟨rb, i * 27 + 23, none⟩ = some (.int .u32 (vid : Int)) ∧ w'.cell? ⟨wr.heap.size, 14, none⟩ = some (.int .u8 1) ∧ W6.grownBy w' none) (first | exact ⟨f1, f2, f3, HX.out⟩ | exact ⟨p1, q23, m14, HX.out⟩ | exact ⟨p1, q23, m14, ⟨rfl, rfl, rfl, Nat.le_refl _, fun _ _ _ => rfl⟩⟩ | go_keep) (first | (go_at_call 22; (first | (with_reducible refine (HG1.out _).mono ?_) | (with_reducible refine (HG2.out _).mono ?_)); rintro e wg ⟨rfl, hg⟩; have HX := Lib.hid (grown_acc HX.out ⟨hg.os, hg.tape, hg.output, hg.size, hg.block⟩); obtain ⟨f1, f2, f3, f4⟩ := HKEEP.out _ HX.out; clear hg))
            all_goals
              go_wp2_with fail
              go_meet
              case rel => exact ⟨by rw [HB9.out], by first | assumption | exact HX.out⟩
          · have hb' : ¬ (pd : Int) < (id1 : Int) := by omega
            have HB9 := Lib.hid (show bn = false by rw [HBN.out]; simp; omega)
            clear hb HBN
            go_region_held3 (fun w' => w'.cell? ⟨w5.heap.size, 1, none⟩ = some (.int .u32 (vpd : Int)) ∧ w'.cell? ⟨rb, i * 27 + 23, none⟩ = some (.int .u32 (vid : Int)) ∧ w'.cell? ⟨wr.heap.size, 14, none⟩ = some (.int .u8 1) ∧ W6.grownBy w' none) (first | exact ⟨f1, f2, f3, HX.out⟩ | exact ⟨p1, q23, m14, HX.out⟩ | exact ⟨p1, q23, m14, ⟨rfl, rfl, rfl, Nat.le_refl _, fun _ _ _ => rfl⟩⟩ | go_keep) (first | (go_at_call 22; (first | (with_reducible refine (HG1.out _).mono ?_) | (with_reducible refine (HG2.out _).mono ?_)); rintro e wg ⟨rfl, hg⟩; have HX := Lib.hid (grown_acc HX.out ⟨hg.os, hg.tape, hg.output, hg.size, hg.block⟩); obtain ⟨f1, f2, f3, f4⟩ := HKEEP.out _ HX.out; clear hg))
            all_goals
              go_wp2_with fail
              go_meet
              case rel => exact ⟨by rw [HB9.out]; congr 1; simp; omega, by first | assumption | exact HX.out⟩
        case rest =>
        obtain ⟨rfl, hg⟩ := hcut
        have HGX := Lib.hid hg
        clear hg
        have HMX := Lib.hid (HM6.out.grown HGX.out)
        cases bn with
        | false =>
          have HNX : Hid (∀ (r t' : Nat), r < k + 1 → (G.recs i)[r]? = some (0, t') → t' < G.n → σ5.dep i ≤ σ.dep t' + 1) := Lib.hid (fun r t' h1 h2 h3 => by
            rcases Nat.lt_or_ge r k with h4 | h4
            · exact Nat.le_trans (HR5.out.mono i) (HDN.out r t' h4 h2 h3)
            · obtain rfl : r = k := by omega
              rw [HR.out] at h2
              injection h2 with h2
              injection h2 with h2 h5
              subst h5
              have q1 := HM6.out.rel.mono t
              have q2 := HBN.out
              have q3 := HID1.out
              have q4 := HPD.out
              have q5 := HID.out
              have q6 : ¬ pd < id1 := by simpa using q2.symm
              omega)
          clear HBN p1 q23 m14
          go_wp2
          go_roundw
          case rel => exact ⟨k + 1, σ5, dc5, rfl, by omega, HMX.out, HNX.out⟩
          case measure => simp [intOf]; omega
        | true =>
          have hlt9 : σ5.dep t < σ5.dep i - 1 := by
            have q1 := HBN.out
            have q2 := HID1.out
            have q3 := HPD.out
            have q4 := HID.out
            have q6 : pd < id1 := by simpa using q1.symm
            omega
          have hpI1 : pd + 1 ≤ INV := by
            have q3 := HPD.out
            have q5 := (HM6.out.snd.pos i).2
            omega
          have hpd1 : IntKind.u32.wrap ((pd : Int) + 1) = ((pd + 1 : Nat) : Int) := by rw [IntKind.wrap_u32']; unfold INV at hpI1; omega
          obtain ⟨vq, hvq⟩ : ∃ v : Nat, v = INV - (pd + 1) := ⟨_, rfl⟩
          have hmp := fun W => mkIx (pd + 1) hpI1 W
          rw [← hvq] at hmp
          have hpe : ((pd + 1 : Nat) : Int) = (pd : Int) + 1 := by omega
          rw [hpe] at hpd1
          simp only [hpe] at hmp
          have HMP := Lib.hid hmp
          have hnr := fun (wb : World) (hg : (wc.setCell ⟨rb, i * 27 + 22, none⟩ (.int .u32 ((INV - t : Nat) : Int))).grownBy wb none) => HMX.out.nearer hi HO.out HR.out htn hlt9 hg
          rw [← HPD.out, ← hvq, ← HVT.out] at hnr
          have HNR := Lib.hid hnr
          obtain ⟨y1, _, _, y10⟩ := HKEEP.out wc HGX.out
          have y22 : wc.cell? ⟨rb, i * 27 + 22, none⟩ = some (.int .u32 ((INV - σ5.par i : Nat) : Int)) := (HMX.out.tw.cells hi).2.1
          have yz22 : wc.frozen? ⟨rb, i * 27 + 22, none⟩ = false := HMX.out.tw.z _
          obtain ⟨V1, hV1⟩ : ∃ W, W = wc.setCell ⟨rb, i * 27 + 22, none⟩ (.int .u32 (vt : Int)) := ⟨_, rfl⟩
          have x1 : V1.cell? ⟨w5.heap.size, 1, none⟩ = some (.int .u32 (vpd : Int)) := by
            obtain ⟨csr6, hbr6, _⟩ := HMX.out.tw.res
            have hb7 := HP6.out.grown HGX.out (by simp)
            have hb8 := hb7.far (p := ⟨rb, i * 27 + 22, none⟩) (hb7.ne_ hbr6 (by decide)) (.int .u32 (vt : Int))
            rw [← hV1] at hb8
            have e1 := hb8.cell 1
            have e2 := hb7.cell 1
            exact e1.trans (e2.symm.trans y1)
          rw [← hV1] at HNR
          have HNX : Hid (∀ (r t' : Nat), r < k + 1 → (G.recs i)[r]? = some (0, t') → t' < G.n → (setPar σ5 i k t).dep i ≤ σ.dep t' + 1) := Lib.hid (fun r t' h1 h2 h3 => by
            have q0 : (setPar σ5 i k t).dep i = σ5.dep t + 1 := updF_self _ _ _
            rw [q0]
            rcases Nat.lt_or_ge r k with h4 | h4
            · have q1 := HDN.out r t' h4 h2 h3
              have q2 := HR5.out.mono i
              omega
            · obtain rfl : r = k := by omega
              rw [HR.out] at h2
              injection h2 with h2
              injection h2 with h2 h5
              subst h5
              have q1 := HM6.out.rel.mono t
              omega)
          clear HBN p1 q23 m14 hlt9 hpI1 hvq hmp hnr hpe
          go_upto_region 17 with fail
          rw [← hV1]
          clear hV1 y1 y10 y22 yz22
          go_wp2_with (go_at_call 22; (with_reducible refine (HG1.out _).mono ?_))
          rintro e wg ⟨rfl, hg⟩
          have HGG := Lib.hid hg
          clear hg x1
          go_wp2_with (go_at_call 17; (with_reducible refine (HMP.out _).mono ?_))
          rintro e wb ⟨rfl, hb⟩
          have hnr := HNR.out wb (grown_acc HGG.out hb)
          obtain ⟨hm9, n1, n2, n3⟩ := hnr
          have w23 := (n1.cells hi).2.2.1
          have wz23 : wb.frozen? ⟨rb, i * 27 + 23, none⟩ = false := n1.z _
          have w25 := (n2.cells hi).2.2.2.2.1
          have wz25 := n2.z (i * 27 + 25)
          have wd := n3.flag.cell 0
          have wzd := n3.flag.frozen 0
          have HM9 := Lib.hid hm9
          clear hm9 n1 n2 n3 hb
          go_wp2
          go_roundw
          case rel => exact ⟨k + 1, setPar σ5 i k t, true, rfl, by omega, HM9.out, HNX.out⟩
          case measure => simp [intOf]; omega
      · subst hk1
        obtain rfl : vk = 2 := HVK.out
        have t2 : (((2 : Nat) : Int) == 2) = true := by decide
        have t1 : (((2 : Nat) : Int) == 1) = false := by decide
        go_wp2_with (go_at_call 21; refine (HIV.out _).mono ?_)
        rintro e wg ⟨rfl, hg⟩
        have HMG := Lib.hid (HMW.out.grown hg)
        have HBG := Lib.hid (HBW.out.grown hg (by simp))
        have g10 : wg.cell? ⟨wr.heap.size, 10, none⟩ = some (.int .u32 (vt : Int)) := HBG.out.cell 10
        have g14 : wg.cell? ⟨wr.heap.size, 14, none⟩ = some (.int .u8 ((2 : Nat) : Int)) := HBG.out.cell 14
        clear hg d10 d14
        go_wp2_with (go_at_call 22; refine (HGI.out _).mono ?_)
        rintro e wh ⟨rfl, hh⟩
        have HMH := Lib.hid (HMG.out.grown hh)
        have HBH := Lib.hid (HBG.out.grown hh (by simp))
        have hlt2 : todo G p σk < todo G p σ := todo_lt HMH.out.rel.pas1 hi HP.out HMH.out.pas
        have HLT2 := Lib.hid hlt2
        clear hh g10 g14 hlt2
        go_wp2_with (go_at_call 24; refine (HIH.out σk dck t wh htn HLT2.out HMH.out.tw HMH.out.snd).mono ?_)
        rintro e w5 ⟨σ5, dc5, rfl, ht5, hs5, hr5, hf5, hp5, hfr5⟩
        obtain ⟨csr5, hbr5, _⟩ := HMH.out.tw.res
        have hbd5 := HMH.out.tw.flag
        have HB5 := Lib.hid (hfr5.blk HBH.out (HBH.out.ne_ hbr5 (by decide)) (HBH.out.ne_ hbd5 (by decide)))
        have HM5 := Lib.hid (HMH.out.call ht5 hs5 hr5 hf5 hfr5)
        have HR5 := Lib.hid hr5
        obtain ⟨W6, hW6⟩ : ∃ W, W = w5.alloc (.cells (chk σ5 t) 85) := ⟨_, rfl⟩
        have HM6 := Lib.hid (show Mid G rb db sb jb σ dc i p W0 σ5 dc5 W6 by rw [hW6]; exact HM5.out.alloc _)
        have HB6 := Lib.hid (show Blk W6 wr.heap.size 62 (recA 2 vt) by rw [hW6]; exact HB5.out.alloc _)
        have HP6 := Lib.hid (show Blk W6 w5.heap.size 85 (chk σ5 t) by rw [hW6]; exact Blk.new _ _ _)
        have m14 : W6.cell? ⟨wr.heap.size, 14, none⟩ = some (.int .u8 ((2 : Nat) : Int)) := HB6.out.cell 14
        have hone5 : (chk σ5 t).all (·.oneCell') = true := by kernel_rfl
        clear ht5 hs5 hr5 hf5 hp5 hfr5 hbr5 hbd5
        go_upto_region 15 with (refine wpList_store_new w5 rfl 85 (.tmp 14) (.tmp 110) rfl (chk σ5 t) _ rfl rfl chkI rfl hone5 rfl ?_)
        rw [← hW6]
        clear hW6 hone5
        have HNX : Hid (∀ (r t' : Nat), r < k + 1 → (G.recs i)[r]? = some (0, t') → t' < G.n → σ5.dep i ≤ σ.dep t' + 1) := Lib.hid (fun r t' h1 h2 h3 => by
          rcases Nat.lt_or_ge r k with h4 | h4
          · exact Nat.le_trans (HR5.out.mono i) (HDN.out r t' h4 h2 h3)
          · obtain rfl : r = k := by omega
            rw [HR.out] at h2
            injection h2 with h2
            injection h2 with h2 h5
            omega)
        go_wp2_with fail
        go_quiet (fail)
        go_wp2
        go_roundw
        case rel => exact ⟨k + 1, σ5, dc5, rfl, by omega, HM6.out.drewN _, HNX.out⟩
        case measure => simp [intOf]; omega
      · subst hk2
        obtain rfl : vk = 3 := HVK.out
        have t2 : (((3 : Nat) : Int) == 2) = false := by decide
        have t1 : (((3 : Nat) : Int) == 1) = false := by decide
        have HNX : Hid (∀ (r t' : Nat), r < k + 1 → (G.recs i)[r]? = some (0, t') → t' < G.n → σk.dep i ≤ σ.dep t' + 1) := Lib.hid (fun r t' h1 h2 h3 => by
          rcases Nat.lt_or_ge r k with h4 | h4
          · exact HDN.out r t' h4 h2 h3
          · obtain rfl : r = k := by omega
            rw [HR.out] at h2
            injection h2 with h2
            injection h2 with h2 h5
            omega)
        go_wp2_with (go_at_call 21; refine (HIV.out _).mono ?_)
        rintro e wg ⟨rfl, hg⟩
        have HMG := Lib.hid (HMW.out.grown hg)
        have d14g : wg.cell? ⟨wr.heap.size, 14, none⟩ = some (.int .u8 ((3 : Nat) : Int)) := (HBW.out.grown hg (by simp)).cell 14
        clear hg d10 d14
        go_wp2
        go_roundw
        case rel => exact ⟨k + 1, σk, dck, rfl, by omega, HMG.out, HNX.out⟩
        case measure => simp [intOf]; omega
    · obtain rfl : k = len := by omega
      have hlt' : ¬ ((k : Int) < (k : Int)) := by omega
      have hdn : Done G σ σk i := ⟨HMK.out.aw, fun t' ⟨⟨r, hr⟩, ht'⟩ => HDN.out r t' (by have := (List.getElem?_eq_some_iff.1 hr).1; have := HLEN.out; omega) hr ht'⟩
      have hbr8 : Blk wr w.heap.size 85 zChk := by
        obtain ⟨csr, hbr, _⟩ := HMK.out.tw.res
        have hbd := HMK.out.tw.flag
        have h1 : ∀ x, x ≠ w.heap.size ∨ x = w.heap.size := fun x => by omega
        exact HMK.out.fr.blk HB.out HNE.out.1 HNE.out.2
      have HFIN := Lib.hid (out_fr HMK.out.tw hbr8 i (Nat.le_refl _) (HF0.out.trans HMK.out.fr))
      obtain ⟨q4, q22, q23, q24, q25, q26⟩ := HMK.out.tw.cells hi
      have r0 : wr.cell? ⟨w.heap.size, 0, none⟩ = some (.int .u32 0) := hbr8.cell 0
      have r1 : wr.cell? ⟨w.heap.size, 1, none⟩ = some (.int .u32 0) := hbr8.cell 1
      have r2 : wr.cell? ⟨w.heap.size, 2, none⟩ = some (.int .u32 0) := hbr8.cell 2
      have r3 : wr.cell? ⟨w.heap.size, 3, none⟩ = some (.int .u32 0) := hbr8.cell 3
      have z0 : wr.frozen? ⟨w.heap.size, 0, none⟩ = false := hbr8.frozen 0
      have z1 : wr.frozen? ⟨w.heap.size, 1, none⟩ = false := hbr8.frozen 1
      have z2 : wr.frozen? ⟨w.heap.size, 2, none⟩ = false := hbr8.frozen 2
      have z3 : wr.frozen? ⟨w.heap.size, 3, none⟩ = false := hbr8.frozen 3
      have HDN2 := Lib.hid hdn
      obtain ⟨v22, e22⟩ : ∃ v : Nat, v = INV - σk.par i := ⟨_, rfl⟩
      obtain ⟨v23, e23⟩ : ∃ v : Nat, v = INV - σk.dep i := ⟨_, rfl⟩
      obtain ⟨v24, e24⟩ : ∃ v : Nat, v = σk.pas i := ⟨_, rfl⟩
      obtain ⟨v25, e25⟩ : ∃ v : Nat, v = σk.ri i := ⟨_, rfl⟩
      rw [← e22] at q22
      rw [← e23] at q23
      rw [← e24] at q24
      rw [← e25] at q25
      rw [← e22, ← e23, ← e24, ← e25] at HFIN
      clear hdn hbr8 q4 e22 e23 e24 e25
      go_wp2
      refine bodyPost_ret (results_cell_row Tryz.results24 _ _ w.heap.size 85 (chk σk i) (0, 0) _ rfl HFIN.out.2.2 Tryz.underlying85 rfl chkI) rfl ?_
      exact ⟨σk, dck, rfl, HFIN.out.1, HMK.out.snd, HMK.out.rel.close HDN2.out, HMK.out.flag, fun _ => HMK.out.pas, HFIN.out.2.1⟩
end Go.Proofs.YtecncdcfmmceeaaGreat
