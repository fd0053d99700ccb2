/- Finalize where there are shifts: the loop over the text. -/
import Derived.Test.YthbmffocgccniaaDoorVfm
import Derived.Test.YthbmffocgccniaaDoorVzd
import Derived.Deep.QuietTactic
import Derived.BigQuiet
import Derived.BigRegion
import Derived.Deep.RegionWith
import Derived.Deep.Cut
import Derived.Deep.DeepCutAuto
import Derived.Deep.CutRange
import Derived.Handy
namespace Go.Proofs.YthbmffocgccniaaDoor
open Go.RowKit
set_option linter.unusedVariables false
set_option linter.unusedSimpArgs false
theorem sep_of {p : Sg} {q : List Sg} (ho : Ord p.line p.col q) (hne : enc true p q ≠ []) : ∃ c post, enc true p q = c :: post ∧ (c = 44 ∨ c = 59) := by
  cases q with
  | nil => exact absurd rfl hne
  | cons g q =>
    rcases ho.1 with h1 | h1
    · exact ⟨59, _, enc_down true p g q h1, .inr rfl⟩
    · exact ⟨44, _, enc_comma p g q h1.1, .inl rfl⟩
def FinPost (TQ : Bt) (w : World) (e : Ending) (w' : World) : Prop := ∃ A n c, e = .returned (.slice A n c) ∧ TxB w' A n (60 :: (TQ ++ [62])) ∧ w.grownBy w' none
set_option maxHeartbeats 16000000 in
set_option maxRecDepth 100000 in
theorem fin_many (PA MA SA : Option Addr) (pc mn mc sc hg hn hc : Nat) (T TQ : Bt) (Q : List Sg) (S : List Sh) (w : World) (hP : TxB w PA 1 [60]) (hM : TxB w MA mn T) (hSx : TxB w SA 1 [62]) (hH : ShB w hg S) (hb : B64 w) (hT : T = enc false zs Q) (hTQ : TQ = enc false zs (Q.map (sh S)))
    (hq : ∀ g ∈ Q, PB g ∧ FB g) (hq0 : ∀ g ∈ Q, 0 ≤ g.col) (ho : Ord 0 0 Q) (hQl : Q.length ≤ 100) (hSl : S.length = hn) (hn2 : 2 ≤ hn) (hn3 : hn ≤ 1000) (hhc : hn ≤ hc) (hsrt : Sorted S) (hsb : ∀ s ∈ S, SB s) (hmc : mn ≤ mc) (hTQl : TQ.length ≤ 2000000) :
    Calls Tryd.prog 6 #[.agg #[.slice PA 1 pc, .slice MA mn mc, .slice SA 1 sc], .slice (some ⟨hg, 0, none⟩) hn hc] w (FinPost TQ w) := by
  have hmn : mn ≤ 1004600 := by
    have h1 := enc_len Q false zs PB.zs_ (fun g hg => (hq g hg).1)
    rw [← hT, hM.1] at h1
    omega
  have HF0 := Lib.hid (FT.start hT hTQ (by omega) ho hq)
  have HQ0 := Lib.hid hq0; have HSRT := Lib.hid hsrt; have HSB := Lib.hid hsb; have HSL := Lib.hid hSl
  have HM := Lib.hid hM; have HS := Lib.hid hSx; have HH := Lib.hid hH; have HB64 := Lib.hid hb; have HPX := Lib.hid hP
  obtain ⟨pb, hpb⟩ : ∃ x, x = w.heap.size := ⟨_, rfl⟩
  obtain ⟨gb, hgb⟩ : ∃ x, x = pb + 1 := ⟨_, rfl⟩
  obtain ⟨jb, hjb⟩ : ∃ x, x = gb + 1 := ⟨_, rfl⟩
  obtain ⟨W3, hW3⟩ : ∃ W, W = ((w.alloc (.cells #[.slice PA 1 pc, .slice MA mn mc, .slice SA 1 sc] 38)).alloc (.cells #[.int .i64 0, .int .i64 0] 32)).alloc (.cells #[.slice none 0 0, .slice none 0 0, .int .u32 0, .int .u8 0] 48) := ⟨_, rfl⟩
  have HFM0 : Hid (FM w pb gb jb #[.slice PA 1 pc, .slice MA mn mc, .slice SA 1 sc] 0 0 [] W3) := Lib.hid (by
    have b1 : Blk (w.alloc (.cells #[.slice PA 1 pc, .slice MA mn mc, .slice SA 1 sc] 38)) w.heap.size 38 #[.slice PA 1 pc, .slice MA mn mc, .slice SA 1 sc] := Blk.new _ _ _
    have b2 := Blk.new (w.alloc (.cells #[.slice PA 1 pc, .slice MA mn mc, .slice SA 1 sc] 38)) 32 #[.int .i64 0, .int .i64 0]
    have b3 := Blk.new ((w.alloc (.cells #[.slice PA 1 pc, .slice MA mn mc, .slice SA 1 sc] 38)).alloc (.cells #[.int .i64 0, .int .i64 0] 32)) 48 #[.slice none 0 0, .slice none 0 0, .int .u32 0, .int .u8 0]
    have e1 : (w.alloc (.cells #[.slice PA 1 pc, .slice MA mn mc, .slice SA 1 sc] 38)).heap.size = gb := by rw [hgb, hpb]; simp
    have e2 : ((w.alloc (.cells #[.slice PA 1 pc, .slice MA mn mc, .slice SA 1 sc] 38)).alloc (.cells #[.int .i64 0, .int .i64 0] 32)).heap.size = jb := by rw [hjb, hgb, hpb]; simp
    rw [e1] at b2
    rw [e2] at b3
    rw [hW3, hpb]
    exact ⟨(b1.alloc _).alloc _, b2.alloc _, ⟨⟨.slice none 0 0, 0, b3, World.ownsRow_nil _ _ _ _⟩, fun it hi => by simp at hi, fun k it hk => by simp at hk, by omega⟩, by omega, only_alloc (only_alloc (only_alloc (World.grownBy.refl _ _) _) _) _⟩)
  have p0 : W3.cell? ⟨pb, 0, none⟩ = some (.slice PA 1 pc) := HFM0.out.pbk.cell 0
  have HA0 := Lib.hid (add_any w.heap.size jb [] PA 1 pc [60] W3 HFM0.out.ji (HPX.out.grown HFM0.out.gr) (by omega) (by simp [cat]) (by simp) HFM0.out.gr.size)
  have hn1 : ¬ (hn : Int) = 1 := by omega
  have hn1b : ((hn : Int) == 1) = false := by simp; omega
  clear hP hM hSx hH hb hT hTQ hq hq0 ho hsrt hsb hSl
  go_enter Tryd.func6, Tryd.ntmps6
  go_upto_region 14 with fail
  first | rw [← hW3] | skip
  first | rw [← hpb] | skip
  first | rw [← hgb] | skip
  first | rw [← hjb] | skip
  clear hW3 hpb hgb hjb
  go_wp2_with (go_at_call 9; (with_reducible refine (HA0.out).mono ?_))
  rintro e W4 ⟨rfl, hj4, hk4⟩
  have HFM4 := Lib.hid (HFM0.out.jk hk4 hj4)
  have hc4 : cat ([] ++ [(⟨PA, 1, pc, (cat []).length, [60]⟩ : It)]) = [60] := rfl
  obtain ⟨its4, hits4⟩ : ∃ x, x = [] ++ [(⟨PA, 1, pc, (cat []).length, [60]⟩ : It)] := ⟨_, rfl⟩
  rw [← hits4] at hc4 HFM4
  have hl4 : its4.length = 1 := by rw [hits4]; rfl
  have HC4 := Lib.hid hc4
  clear hc4 hits4 hj4 hk4 HA0 HFM0 p0
  go_wp2
  go_loopw [1, 7, 8, 10] (fun hv stv cv dv wr => ∃ (p : Sg) (q : List Sg) (pre : Bt) (st c0 i off ln cp : Nat) (d : Int) (its : List It), hv = .slice (some ⟨hg, off, none⟩) ln cp ∧ stv = .int .i64 (st : Int) ∧ cv = .int .i64 (c0 : Int) ∧ dv = .int .i64 d ∧ off = i * 4 ∧ ln + i = hn ∧ ln ≤ cp ∧ c0 = pre.length ∧ c0 ≤ mn ∧ st ≤ c0 ∧ FT T TQ S p q pre st (cat its) i d ∧ (∀ g ∈ q, 0 ≤ g.col) ∧ its.length + 2 * q.length ≤ 1 + 2 * Q.length ∧ (-3000000 ≤ d ∧ d ≤ 3000000) ∧ FM w pb gb jb #[.slice PA 1 pc, .slice MA mn mc, .slice SA 1 sc] p.line p.col its wr) (fun _ _ cv _ _ => mn - (intOf cv).toNat)
  case atStart => exact ⟨zs, Q, [], 0, 0, 0, 0, hn, hc, 0, its4, rfl, rfl, rfl, rfl, rfl, by omega, hhc, rfl, by omega, Nat.le_refl _, by have := HF0.out; rw [← HC4.out] at this; exact this, HQ0.out, by omega, by omega, HFM4.out⟩
  case round =>
    obtain ⟨⟨pl, pcl, pf, ps, po, pq, pn⟩, q, pre, st, c0, i, off, ln, cp, d, its, rfl, rfl, rfl, rfl, hoff, hln, hcp, hc0, hc0m, hst0, hft, hq0, hil, hd, hfm⟩ := hrel
    have hcl : (cat its).length ≤ 2000001 := by
      obtain ⟨O, h1, h2⟩ := hft.o
      have h3 := congrArg List.length h1
      have h4 := congrArg List.length h2
      simp only [List.length_append, List.length_cons] at h3 h4
      omega
    dsimp only at hfm
    have HOFF := Lib.hid hoff; have HLN := Lib.hid hln; have HC0 := Lib.hid hc0; have HFT := Lib.hid hft; have HQ0 := Lib.hid hq0; have HFM := Lib.hid hfm; have HD := Lib.hid hd; have HIL := Lib.hid hil
    obtain ⟨w0, hw0⟩ : ∃ W, W = wr := ⟨_, rfl⟩
    subst hw0
    have m1 : w0.cell? ⟨pb, 1, none⟩ = some (.slice MA mn mc) := HFM.out.pbk.cell 1
    have m2 : w0.cell? ⟨pb, 2, none⟩ = some (.slice SA 1 sc) := HFM.out.pbk.cell 2
    have hstm : st ≤ mn := by omega
    have hcl2 : (cat its).length ≤ 16000000 := by omega
    have hTl := HM.out.1
    clear hfm hft hq0 hoff hln HFM4 HF0
    cases q with
    | nil =>
      have hil : its.length ≤ 900 := by simp only [List.length_nil] at hil; omega
      have hcm : c0 = mn := by
        have h1 := HFT.out.t
        rw [enc_nil, List.append_nil] at h1
        rw [HC0.out, ← h1]; exact hTl
      have HEND : Hid (cat its ++ T.drop st = 60 :: TQ) := Lib.hid (by
        obtain ⟨O, h1, h2⟩ := HFT.out.o
        have h3 := HFT.out.t
        rw [enc_nil, List.append_nil] at h3
        rw [h3, h2, h1]; simp [enc_nil])
      have hcl := hcl2
      clear hc0 hcl2 hst0
      obtain ⟨A', hcut, hA'⟩ := cut_l MA mn mc st hstm hmc
      obtain ⟨D, hD⟩ : ∃ D, D = mn - st := ⟨_, rfl⟩
      obtain ⟨E, hE⟩ : ∃ E, E = mc - st := ⟨_, rfl⟩
      rw [← hD, ← hE] at hcut
      rw [← hD] at hA'
      have hnl : ¬ ((c0 : Int) < (mn : Int)) := by omega
      have hil : its.length ≤ 900 := by omega
      have HA1 := Lib.hid (add_any w.heap.size jb its A' D E (T.drop st) w0 HFM.out.ji (hA' w0 T (HM.out.grown HFM.out.gr)) (by omega) (by omega) (by omega) HFM.out.gr.size)
      obtain ⟨its1, hits1⟩ : ∃ x, x = its ++ [⟨A', D, E, (cat its).length, T.drop st⟩] := ⟨_, rfl⟩
      have hc1 : cat its1 = cat its ++ T.drop st := by rw [hits1, cat_snoc]
      rw [← hits1] at HA1
      have hl1 : its1.length = its.length + 1 := by rw [hits1, List.length_append]; rfl
      have hc1l : (cat its1).length ≤ 16000000 := by rw [hc1, List.length_append, List.length_drop]; have := HM.out.1; omega
      have HC1 := Lib.hid hc1
      clear hD hE hits1 hc1 hA'
      go_wp2_with (go_at_call 9; (with_reducible refine (HA1.out).mono ?_))
      rintro e w1 ⟨rfl, hj1, hk1⟩
      have HF1 := Lib.hid (HFM.out.jk hk1 hj1)
      have p2 : w1.cell? ⟨pb, 2, none⟩ = some (.slice SA 1 sc) := HF1.out.pbk.cell 2
      have HA2 := Lib.hid (add_any w.heap.size jb its1 SA 1 sc [62] w1 HF1.out.ji (HS.out.grown HF1.out.gr) (by omega) (by omega) (by omega) HF1.out.gr.size)
      obtain ⟨its2, hits2⟩ : ∃ x, x = its1 ++ [⟨SA, 1, sc, (cat its1).length, [62]⟩] := ⟨_, rfl⟩
      have hc2 : cat its2 = cat its1 ++ [62] := by rw [hits2, cat_snoc]
      rw [← hits2] at HA2
      have hl2 : its2.length = its1.length + 1 := by rw [hits2, List.length_append]; rfl
      have HC2 := Lib.hid hc2
      clear hits2 hc2 hj1 hk1 HA1 m1 m2 hcut
      go_wp2_with (go_at_call 9; (with_reducible refine (HA2.out).mono ?_))
      rintro e w2 ⟨rfl, hj2, hk2⟩
      have HF2 := Lib.hid (HF1.out.jk hk2 hj2)
      have HD2 := Lib.hid (done_any w.heap.size jb its2 w2 HF2.out.ji (by rw [HC2.out, List.length_append]; show _ + 1 ≤ _; omega) (by omega) (by omega))
      clear hj2 hk2 HA2 p2
      go_wp2_with (go_at_call 13; (with_reducible refine (HD2.out).mono ?_))
      rintro e w3 ⟨gr, rfl, htx, hg3⟩
      have HFIN : Hid (FinPost TQ w (.returned (.slice (some ⟨gr, 0, none⟩) (cat its2).length (cat its2).length)) w3) := Lib.hid (by
        have e2 : cat its2 = 60 :: (TQ ++ [62]) := by
          rw [HC2.out, HC1.out]
          have h1 := HEND.out
          rw [h1]; rfl
        refine ⟨_, _, _, rfl, ?_, grownBy_acc HF2.out.gr hg3⟩
        rw [← e2]; exact htx)
      clear htx hg3
      go_wp2
      go_ret
      exact HFIN.out
    | cons g q =>
      obtain ⟨hgb, hgf⟩ := HFT.out.qb g (by simp)
      have hgc0 := HQ0.out g (by simp)
      have HQ1 : Hid (∀ y ∈ q, 0 ≤ y.col) := Lib.hid (fun y hy => HQ0.out y (by simp [hy]))
      have HPN := Lib.hid (HFT.out.pb.nx_ hgb)
      have hord := HFT.out.ord.1
      obtain ⟨gl, gc, gf, gs, go, gq, gn⟩ := g
      obtain ⟨b1, b2, b3, b4, b5, b6⟩ := hgb
      obtain ⟨a1, a2, a3, a4, a5, a6⟩ := HFT.out.pb
      dsimp only at a1 a2 a3 a4 a5 a6 b1 b2 b3 b4 b5 b6 hord hgc0
      have HGF := Lib.hid hgf
      have hil2 : its.length + 2 * q.length + 2 ≤ 1 + 2 * Q.length := by simp only [List.length_cons] at hil; omega
      have g0 : w0.cell? ⟨gb, 0, none⟩ = some (.int .i64 (pl : Int)) := HFM.out.gbk.cell 0
      have g1 : w0.cell? ⟨gb, 1, none⟩ = some (.int .i64 pcl) := HFM.out.gbk.cell 1
      have z0 := HFM.out.gbk.frozen 0
      have z1 := HFM.out.gbk.frozen 1
      have HT1 := Lib.hid HFT.out.t
      clear hgf m2 hil
      by_cases hll : pl < gl
      · have ht := HT1.out
        rw [enc_down false ⟨pl, pcl, pf, ps, po, pq, pn⟩ ⟨gl, gc, gf, gs, go, gq, gn⟩ q hll] at ht
        obtain ⟨hcm, ad, rfl, hcell⟩ := (HM.out.grown HFM.out.gr).txt.byte ht hc0.symm
        have hcell : w0.cell? (ad.add c0) = some (.int .u8 59) := hcell
        have hcm' : (c0 : Int) < (mn : Int) := by omega
        have hwl : IntKind.i64.wrap ((pl : Int) + 1) = (pl : Int) + 1 := by rw [IntKind.wrap_i64]; omega
        have hwc : IntKind.i64.wrap ((c0 : Int) + 1) = (c0 : Int) + 1 := by rw [IntKind.wrap_i64]; omega
        have HFD := Lib.hid (HFT.out.down_ hll hgc0 (fun s hs => (HSB.out s hs).e))
        have HMD : Hid (FM w pb gb jb #[.slice PA 1 pc, .slice (some ad) mn mc, .slice SA 1 sc] (pl + 1) 0 its ((w0.setCell ⟨gb, 0, none⟩ (.int .i64 ((pl : Int) + 1))).setCell ⟨gb, 1, none⟩ (.int .i64 0))) := Lib.hid ((HFM.out.set (l' := pl + 1) (c' := pcl) 0 (.int .i64 ((pl : Int) + 1)) (by simp)).set (l' := pl + 1) (c' := 0) 1 (.int .i64 0) (by simp))
        have hc0' : c0 + 1 = (pre ++ [59]).length := by rw [List.length_append, ← HC0.out]; rfl
        clear ht hc0 hord hcl2 hstm
        go_wp2
        go_roundw
        case rel => exact ⟨down ⟨pl, pcl, pf, ps, po, pq, pn⟩, ⟨gl, gc, gf, gs, go, gq, gn⟩ :: q, pre ++ [59], st, c0 + 1, i, off, ln, cp, 0, its, rfl, rfl, by simp, rfl, HOFF.out, HLN.out, hcp, hc0', by omega, by omega, HFD.out, HQ0.out, by simp only [List.length_cons]; omega, by omega, HMD.out⟩
        case measure => simp [intOf]; omega
      · obtain rfl : pl = gl := by omega
        have ht := HT1.out
        have hep := enc_put ⟨pl, pcl, pf, ps, po, pq, pn⟩ ⟨pl, gc, gf, gs, go, gq, gn⟩ q rfl
        rw [hep] at ht
        clear hep
        dsimp only at ht
        obtain ⟨d0, hd0⟩ : ∃ d, d = gc - pcl := ⟨_, rfl⟩
        rw [← hd0] at ht
        have hcol : pcl ≤ gc := by omega
        have HT2 := Lib.hid ht
        obtain ⟨dd, tt, hdd, hput⟩ := put_head d0
        have hbyte : c0 < mn ∧ ∃ ad, MA = some ad ∧ w0.cell? (ad.add c0) = some (.int .u8 ((digU dd).toNat : Int)) := by
          have := ht
          rw [hput] at this
          exact (HM.out.grown HFM.out.gr).txt.byte this hc0.symm
        obtain ⟨hcm, ad, rfl, hcell⟩ := hbyte
        obtain ⟨vv, hvv⟩ : ∃ v, v = (digU dd).toNat := ⟨_, rfl⟩
        rw [← hvv] at hcell
        have hv1 : ((vv : Int) == 59) = false := by rw [hvv]; exact beq_nat _ 59 _ (by simp [(dig_no dd hdd).2])
        have hcm' : (c0 : Int) < (mn : Int) := by omega
        have HDV := Lib.hid (dvlq_num d0 (some ad) mn mc T pre _ c0 w0 (HB64.out.grown HFM.out.gr) (HM.out.grown HFM.out.gr).txt ht hc0.symm (sgn_small _ (by omega)) (by omega))
        obtain ⟨c1, hc1⟩ : ∃ c, c = c0 + (put d0).length := ⟨_, rfl⟩
        rw [← hc1] at HDV
        have hwd : IntKind.i64.wrap (pcl + d0) = gc := by rw [IntKind.wrap_i64]; omega
        have HD0 := Lib.hid hd0; have HC1 := Lib.hid hc1
        clear ht hc0 hord hcl2 hput hvv hd0 hc1
        go_wp2_with (go_at_call 10; (with_reducible refine (HDV.out).mono ?_))
        rintro e w1 ⟨rfl, hg1⟩
        have HFM1 := Lib.hid (HFM.out.grown hg1)
        have g1' : w1.cell? ⟨gb, 1, none⟩ = some (.int .i64 pcl) := HFM1.out.gbk.cell 1
        have z1' := HFM1.out.gbk.frozen 1
        obtain ⟨w2, hw2⟩ : ∃ W, W = w1.setCell ⟨gb, 1, none⟩ (.int .i64 gc) := ⟨_, rfl⟩
        have HFM2 : Hid (FM w pb gb jb #[.slice PA 1 pc, .slice (some ad) mn mc, .slice SA 1 sc] pl gc its w2) := Lib.hid (by rw [hw2]; exact HFM1.out.set (l' := pl) (c' := gc) 1 (.int .i64 gc) rfl)
        clear hg1 HDV g0 g1 z0 z1 m1 hcell
        -- up to the first test behind the column
        obtain ⟨bb, hbb⟩ : ∃ b, b = decide (c1 < mn) := ⟨_, rfl⟩
        have hbb1 : decide (c1 < mn) = bb := hbb.symm
        have m1 : w2.cell? ⟨pb, 1, none⟩ = some (.slice (some ad) mn mc) := HFM2.out.pbk.cell 1
        go_upto_region 26 with fail
        first | rw [← hw2] | skip
        clear hw2 g1' z1'
        have HBB := Lib.hid hbb
        clear hbb
        go_upto_if 93 with (fail)
        clear hbb1
        obtain ⟨cE, hcE⟩ : ∃ c, c = (pre ++ (put d0 ++ tail ⟨pl, pcl, pf, ps, po, pq, pn⟩ ⟨pl, gc, gf, gs, go, gq, gn⟩)).length := ⟨_, rfl⟩
        have HCE := Lib.hid hcE
        clear hcE
        go_cut [8] from 94 to 126 (fun cv wx => cv = .int .i64 (cE : Int) ∧ w2.grownBy wx none)
        case first =>
          have htx := HT2.out
          have hc00 := HC0.out
          have hlen := congrArg List.length htx
          rw [hTl] at hlen
          simp only [List.length_append] at hlen
          have HG0 : Hid (w2.grownBy w2 none) := Lib.hid (World.grownBy.refl _ _)
          have hc1 := HC1.out
          have hce := HCE.out
          simp only [List.length_append] at hce
          cases bb with
          | false =>
            have hc1m : ¬ c1 < mn := by have := HBB.out; simpa using this.symm
            have HEQ : Hid (c1 = cE) := Lib.hid (by omega)
            clear htx hc00 hlen hc1 hce hc1m m1
            go_wp2
            go_meet
            exact ⟨by rw [HEQ.out], HG0.out⟩
          | true =>
            have hc1m : c1 < mn := by have := HBB.out; simpa using this.symm
            have hc1m' : (c1 : Int) < (mn : Int) := by omega
            have hord2 : Ord (nx ⟨pl, pcl, pf, ps, po, pq, pn⟩ ⟨pl, gc, gf, gs, go, gq, gn⟩).line (nx ⟨pl, pcl, pf, ps, po, pq, pn⟩ ⟨pl, gc, gf, gs, go, gq, gn⟩).col q := HFT.out.ord.2
            rcases HGF.out with hf | hf | hf
            · dsimp only at hf
              have htl : tail ⟨pl, pcl, pf, ps, po, pq, pn⟩ ⟨pl, gc, gf, gs, go, gq, gn⟩ = [] := by unfold tail; rw [if_pos hf]
              rw [htl] at htx hce
              rw [htl] at hlen
              obtain ⟨c, post, he, hcs⟩ := sep_of hord2 (fun e => by rw [e] at hlen; simp only [List.length_nil] at hlen; omega)
              have HSEP : Hid (∀ W, w2.grownBy W none → Calls Tryd.prog 10 #[.slice (some ad) mn mc, .int .i64 (c1 : Int)] W (DecPost 0 c1 W)) := Lib.hid (fun W hg => dvlq_sep (some ad) mn mc T (pre ++ put d0) post c c1 W (HB64.out.grown (grownBy_acc HFM2.out.gr hg)) (HM.out.grown (grownBy_acc HFM2.out.gr hg)).txt hcs (by rw [htx, he]; simp) (by simp only [List.length_append]; omega) (by omega))
              have HEQ : Hid (c1 = cE) := Lib.hid (by simp only [List.length_nil] at hce; omega)
              clear htx hc00 hlen hc1 hce htl hord2 he hf
              go_wp2_with (go_at_call 10; (with_reducible refine (HSEP.out _ HG0.out).mono ?_))
              rintro e wa1 ⟨rfl, hga⟩
              have HG1 := Lib.hid (grownBy_acc HG0.out hga)
              have ma1 : wa1.cell? ⟨pb, 1, none⟩ = some (.slice (some ad) mn mc) := (HFM2.out.grown HG1.out).pbk.cell 1
              clear hga
              go_wp2_with (go_at_call 10; (with_reducible refine (HSEP.out _ HG1.out).mono ?_))
              rintro e wa2 ⟨rfl, hga⟩
              have HG2 := Lib.hid (grownBy_acc HG1.out hga)
              have ma2 : wa2.cell? ⟨pb, 1, none⟩ = some (.slice (some ad) mn mc) := (HFM2.out.grown HG2.out).pbk.cell 1
              clear hga
              go_wp2_with (go_at_call 10; (with_reducible refine (HSEP.out _ HG2.out).mono ?_))
              rintro e wa3 ⟨rfl, hga⟩
              have HG3 := Lib.hid (grownBy_acc HG2.out hga)
              have ma3 : wa3.cell? ⟨pb, 1, none⟩ = some (.slice (some ad) mn mc) := (HFM2.out.grown HG3.out).pbk.cell 1
              clear hga
              go_wp2_with (go_at_call 10; (with_reducible refine (HSEP.out _ HG3.out).mono ?_))
              rintro e wa4 ⟨rfl, hga⟩
              have HG4 := Lib.hid (grownBy_acc HG3.out hga)
              have ma4 : wa4.cell? ⟨pb, 1, none⟩ = some (.slice (some ad) mn mc) := (HFM2.out.grown HG4.out).pbk.cell 1
              clear hga
              go_wp2
              go_meet
              exact ⟨by rw [HEQ.out], HG4.out⟩
            · dsimp only at hf
              have htl : tail ⟨pl, pcl, pf, ps, po, pq, pn⟩ ⟨pl, gc, gf, gs, go, gq, gn⟩ = put (gs - ps) ++ (put (go - po) ++ put (gq - pq)) := by unfold tail tail4; rw [if_neg (by dsimp only; omega), if_neg (by dsimp only; omega)]
              rw [htl] at htx hce
              rw [htl] at hlen
              simp only [List.length_append] at hlen hce
              obtain ⟨c2, hc2⟩ : ∃ c, c = c1 + (put (gs - ps)).length := ⟨_, rfl⟩
              have HN1 : Hid (∀ W, w2.grownBy W none → Calls Tryd.prog 10 #[.slice (some ad) mn mc, .int .i64 (c1 : Int)] W (DecPost (gs - ps) c2 W)) := Lib.hid (fun W hg => by
                have := dvlq_num (gs - ps) (some ad) mn mc T (pre ++ put d0) (put (go - po) ++ (put (gq - pq) ++ (enc true (nx ⟨pl, pcl, pf, ps, po, pq, pn⟩ ⟨pl, gc, gf, gs, go, gq, gn⟩) q))) c1 W (HB64.out.grown (grownBy_acc HFM2.out.gr hg)) (HM.out.grown (grownBy_acc HFM2.out.gr hg)).txt (by rw [htx]; simp) (by simp only [List.length_append]; omega) (sgn_small _ (by omega)) (by omega)
                rwa [← hc2] at this)
              obtain ⟨c3, hc3⟩ : ∃ c, c = c2 + (put (go - po)).length := ⟨_, rfl⟩
              have HN2 : Hid (∀ W, w2.grownBy W none → Calls Tryd.prog 10 #[.slice (some ad) mn mc, .int .i64 (c2 : Int)] W (DecPost (go - po) c3 W)) := Lib.hid (fun W hg => by
                have := dvlq_num (go - po) (some ad) mn mc T (pre ++ put d0 ++ put (gs - ps)) (put (gq - pq) ++ (enc true (nx ⟨pl, pcl, pf, ps, po, pq, pn⟩ ⟨pl, gc, gf, gs, go, gq, gn⟩) q)) c2 W (HB64.out.grown (grownBy_acc HFM2.out.gr hg)) (HM.out.grown (grownBy_acc HFM2.out.gr hg)).txt (by rw [htx]; simp) (by simp only [List.length_append]; omega) (sgn_small _ (by omega)) (by omega)
                rwa [← hc3] at this)
              obtain ⟨c4, hc4⟩ : ∃ c, c = c3 + (put (gq - pq)).length := ⟨_, rfl⟩
              have HN3 : Hid (∀ W, w2.grownBy W none → Calls Tryd.prog 10 #[.slice (some ad) mn mc, .int .i64 (c3 : Int)] W (DecPost (gq - pq) c4 W)) := Lib.hid (fun W hg => by
                have := dvlq_num (gq - pq) (some ad) mn mc T (pre ++ put d0 ++ put (gs - ps) ++ put (go - po)) (enc true (nx ⟨pl, pcl, pf, ps, po, pq, pn⟩ ⟨pl, gc, gf, gs, go, gq, gn⟩) q) c3 W (HB64.out.grown (grownBy_acc HFM2.out.gr hg)) (HM.out.grown (grownBy_acc HFM2.out.gr hg)).txt (by rw [htx]; simp) (by simp only [List.length_append]; omega) (sgn_small _ (by omega)) (by omega)
                rwa [← hc4] at this)
              have HEQ : Hid (c4 = cE) := Lib.hid (by omega)
              by_cases hend : c4 < mn
              · have hend' : (c4 : Int) < (mn : Int) := by omega
                obtain ⟨c, post, he, hcs⟩ := sep_of hord2 (fun e => by rw [e] at hlen; simp only [List.length_nil] at hlen; omega)
                have HSEP : Hid (∀ W, w2.grownBy W none → Calls Tryd.prog 10 #[.slice (some ad) mn mc, .int .i64 (c4 : Int)] W (DecPost 0 c4 W)) := Lib.hid (fun W hg => dvlq_sep (some ad) mn mc T (pre ++ put d0 ++ put (gs - ps) ++ put (go - po) ++ put (gq - pq)) post c c4 W (HB64.out.grown (grownBy_acc HFM2.out.gr hg)) (HM.out.grown (grownBy_acc HFM2.out.gr hg)).txt hcs (by rw [htx, he]; simp) (by simp only [List.length_append]; omega) (by omega))
                clear htx hc00 hlen hc1 hce htl hord2 he hf hc2 hc3 hc4
                go_wp2_with (go_at_call 10; (with_reducible refine (HN1.out _ HG0.out).mono ?_))
                rintro e wa1 ⟨rfl, hga⟩
                have HG1 := Lib.hid (grownBy_acc HG0.out hga)
                have ma1 : wa1.cell? ⟨pb, 1, none⟩ = some (.slice (some ad) mn mc) := (HFM2.out.grown HG1.out).pbk.cell 1
                clear hga
                go_wp2_with (go_at_call 10; (with_reducible refine (HN2.out _ HG1.out).mono ?_))
                rintro e wa2 ⟨rfl, hga⟩
                have HG2 := Lib.hid (grownBy_acc HG1.out hga)
                have ma2 : wa2.cell? ⟨pb, 1, none⟩ = some (.slice (some ad) mn mc) := (HFM2.out.grown HG2.out).pbk.cell 1
                clear hga
                go_wp2_with (go_at_call 10; (with_reducible refine (HN3.out _ HG2.out).mono ?_))
                rintro e wa3 ⟨rfl, hga⟩
                have HG3 := Lib.hid (grownBy_acc HG2.out hga)
                have ma3 : wa3.cell? ⟨pb, 1, none⟩ = some (.slice (some ad) mn mc) := (HFM2.out.grown HG3.out).pbk.cell 1
                clear hga
                go_wp2_with (go_at_call 10; (with_reducible refine (HSEP.out _ HG3.out).mono ?_))
                rintro e wa4 ⟨rfl, hga⟩
                have HG4 := Lib.hid (grownBy_acc HG3.out hga)
                have ma4 : wa4.cell? ⟨pb, 1, none⟩ = some (.slice (some ad) mn mc) := (HFM2.out.grown HG4.out).pbk.cell 1
                clear hga
                go_wp2
                go_meet
                exact ⟨by rw [HEQ.out], HG4.out⟩
              · have hend' : ¬ ((c4 : Int) < (mn : Int)) := by omega
                clear htx hc00 hlen hc1 hce htl hord2 hf hc2 hc3 hc4
                go_wp2_with (go_at_call 10; (with_reducible refine (HN1.out _ HG0.out).mono ?_))
                rintro e wa1 ⟨rfl, hga⟩
                have HG1 := Lib.hid (grownBy_acc HG0.out hga)
                have ma1 : wa1.cell? ⟨pb, 1, none⟩ = some (.slice (some ad) mn mc) := (HFM2.out.grown HG1.out).pbk.cell 1
                clear hga
                go_wp2_with (go_at_call 10; (with_reducible refine (HN2.out _ HG1.out).mono ?_))
                rintro e wa2 ⟨rfl, hga⟩
                have HG2 := Lib.hid (grownBy_acc HG1.out hga)
                have ma2 : wa2.cell? ⟨pb, 1, none⟩ = some (.slice (some ad) mn mc) := (HFM2.out.grown HG2.out).pbk.cell 1
                clear hga
                go_wp2_with (go_at_call 10; (with_reducible refine (HN3.out _ HG2.out).mono ?_))
                rintro e wa3 ⟨rfl, hga⟩
                have HG3 := Lib.hid (grownBy_acc HG2.out hga)
                have ma3 : wa3.cell? ⟨pb, 1, none⟩ = some (.slice (some ad) mn mc) := (HFM2.out.grown HG3.out).pbk.cell 1
                clear hga
                go_wp2
                go_meet
                exact ⟨by rw [HEQ.out], HG3.out⟩
            · dsimp only at hf
              have htl : tail ⟨pl, pcl, pf, ps, po, pq, pn⟩ ⟨pl, gc, gf, gs, go, gq, gn⟩ = put (gs - ps) ++ (put (go - po) ++ put (gq - pq)) ++ put (gn - pn) := by unfold tail tail4; rw [if_neg (by dsimp only; omega), if_pos (by dsimp only; omega)]
              rw [htl] at htx hce
              rw [htl] at hlen
              simp only [List.length_append] at hlen hce
              obtain ⟨c2, hc2⟩ : ∃ c, c = c1 + (put (gs - ps)).length := ⟨_, rfl⟩
              have HN1 : Hid (∀ W, w2.grownBy W none → Calls Tryd.prog 10 #[.slice (some ad) mn mc, .int .i64 (c1 : Int)] W (DecPost (gs - ps) c2 W)) := Lib.hid (fun W hg => by
                have := dvlq_num (gs - ps) (some ad) mn mc T (pre ++ put d0) (put (go - po) ++ (put (gq - pq) ++ (put (gn - pn) ++ (enc true (nx ⟨pl, pcl, pf, ps, po, pq, pn⟩ ⟨pl, gc, gf, gs, go, gq, gn⟩) q)))) c1 W (HB64.out.grown (grownBy_acc HFM2.out.gr hg)) (HM.out.grown (grownBy_acc HFM2.out.gr hg)).txt (by rw [htx]; simp) (by simp only [List.length_append]; omega) (sgn_small _ (by omega)) (by omega)
                rwa [← hc2] at this)
              obtain ⟨c3, hc3⟩ : ∃ c, c = c2 + (put (go - po)).length := ⟨_, rfl⟩
              have HN2 : Hid (∀ W, w2.grownBy W none → Calls Tryd.prog 10 #[.slice (some ad) mn mc, .int .i64 (c2 : Int)] W (DecPost (go - po) c3 W)) := Lib.hid (fun W hg => by
                have := dvlq_num (go - po) (some ad) mn mc T (pre ++ put d0 ++ put (gs - ps)) (put (gq - pq) ++ (put (gn - pn) ++ (enc true (nx ⟨pl, pcl, pf, ps, po, pq, pn⟩ ⟨pl, gc, gf, gs, go, gq, gn⟩) q))) c2 W (HB64.out.grown (grownBy_acc HFM2.out.gr hg)) (HM.out.grown (grownBy_acc HFM2.out.gr hg)).txt (by rw [htx]; simp) (by simp only [List.length_append]; omega) (sgn_small _ (by omega)) (by omega)
                rwa [← hc3] at this)
              obtain ⟨c4, hc4⟩ : ∃ c, c = c3 + (put (gq - pq)).length := ⟨_, rfl⟩
              have HN3 : Hid (∀ W, w2.grownBy W none → Calls Tryd.prog 10 #[.slice (some ad) mn mc, .int .i64 (c3 : Int)] W (DecPost (gq - pq) c4 W)) := Lib.hid (fun W hg => by
                have := dvlq_num (gq - pq) (some ad) mn mc T (pre ++ put d0 ++ put (gs - ps) ++ put (go - po)) (put (gn - pn) ++ (enc true (nx ⟨pl, pcl, pf, ps, po, pq, pn⟩ ⟨pl, gc, gf, gs, go, gq, gn⟩) q)) c3 W (HB64.out.grown (grownBy_acc HFM2.out.gr hg)) (HM.out.grown (grownBy_acc HFM2.out.gr hg)).txt (by rw [htx]; simp) (by simp only [List.length_append]; omega) (sgn_small _ (by omega)) (by omega)
                rwa [← hc4] at this)
              obtain ⟨c5, hc5⟩ : ∃ c, c = c4 + (put (gn - pn)).length := ⟨_, rfl⟩
              have HN4 : Hid (∀ W, w2.grownBy W none → Calls Tryd.prog 10 #[.slice (some ad) mn mc, .int .i64 (c4 : Int)] W (DecPost (gn - pn) c5 W)) := Lib.hid (fun W hg => by
                have := dvlq_num (gn - pn) (some ad) mn mc T (pre ++ put d0 ++ put (gs - ps) ++ put (go - po) ++ put (gq - pq)) (enc true (nx ⟨pl, pcl, pf, ps, po, pq, pn⟩ ⟨pl, gc, gf, gs, go, gq, gn⟩) q) c4 W (HB64.out.grown (grownBy_acc HFM2.out.gr hg)) (HM.out.grown (grownBy_acc HFM2.out.gr hg)).txt (by rw [htx]; simp) (by simp only [List.length_append]; omega) (sgn_small _ (by omega)) (by omega)
                rwa [← hc5] at this)
              have HEQ : Hid (c5 = cE) := Lib.hid (by omega)
              obtain ⟨d4, t4, _, hp4⟩ := put_head (gn - pn)
              have hend : c4 < mn := by
                have h5 : 0 < (put (gn - pn)).length := by rw [hp4]; simp
                omega
              have hend' : (c4 : Int) < (mn : Int) := by omega
              clear htx hc00 hlen hc1 hce htl hord2 hf hc2 hc3 hc4 hc5 hp4
              go_wp2_with (go_at_call 10; (with_reducible refine (HN1.out _ HG0.out).mono ?_))
              rintro e wa1 ⟨rfl, hga⟩
              have HG1 := Lib.hid (grownBy_acc HG0.out hga)
              have ma1 : wa1.cell? ⟨pb, 1, none⟩ = some (.slice (some ad) mn mc) := (HFM2.out.grown HG1.out).pbk.cell 1
              clear hga
              go_wp2_with (go_at_call 10; (with_reducible refine (HN2.out _ HG1.out).mono ?_))
              rintro e wa2 ⟨rfl, hga⟩
              have HG2 := Lib.hid (grownBy_acc HG1.out hga)
              have ma2 : wa2.cell? ⟨pb, 1, none⟩ = some (.slice (some ad) mn mc) := (HFM2.out.grown HG2.out).pbk.cell 1
              clear hga
              go_wp2_with (go_at_call 10; (with_reducible refine (HN3.out _ HG2.out).mono ?_))
              rintro e wa3 ⟨rfl, hga⟩
              have HG3 := Lib.hid (grownBy_acc HG2.out hga)
              have ma3 : wa3.cell? ⟨pb, 1, none⟩ = some (.slice (some ad) mn mc) := (HFM2.out.grown HG3.out).pbk.cell 1
              clear hga
              go_wp2_with (go_at_call 10; (with_reducible refine (HN4.out _ HG3.out).mono ?_))
              rintro e wa4 ⟨rfl, hga⟩
              have HG4 := Lib.hid (grownBy_acc HG3.out hga)
              have ma4 : wa4.cell? ⟨pb, 1, none⟩ = some (.slice (some ad) mn mc) := (HFM2.out.grown HG4.out).pbk.cell 1
              clear hga
              go_wp2
              go_meet
              exact ⟨by rw [HEQ.out], HG4.out⟩
        case rest =>
        obtain ⟨rfl, hgE⟩ := hcut
        obtain ⟨wE, hwE⟩ : ∃ W, W = wc := ⟨_, rfl⟩
        subst hwE
        have HFME := Lib.hid (HFM2.out.grown hgE)
        obtain ⟨cm, hr, hcm1⟩ := rest_of (nx ⟨pl, pcl, pf, ps, po, pq, pn⟩ ⟨pl, gc, gf, gs, go, gq, gn⟩) q HFT.out.ord.2
        have HR := Lib.hid hr; have HCM1 := Lib.hid hcm1
        obtain ⟨cF, hcF⟩ : ∃ c, c = (pre ++ (put d0 ++ (tail ⟨pl, pcl, pf, ps, po, pq, pn⟩ ⟨pl, gc, gf, gs, go, gq, gn⟩ ++ cm))).length := ⟨_, rfl⟩
        have HCF := Lib.hid hcF
        have mE : wE.cell? ⟨pb, 1, none⟩ = some (.slice (some ad) mn mc) := HFME.out.pbk.cell 1
        clear hr hcm1 hcF hgE m1
        rename_i hK
        refine hK _ _ ?_
        refine wp_seq_k (fun K2 hK2 => ?_)
        go_cut [8] from 127 to 141 (fun cv wx => cv = .int .i64 (cF : Int) ∧ wE = wx)
        case first =>
          have htx := HT2.out
          have hc00 := HC0.out
          have hlen := congrArg List.length htx
          rw [hTl] at hlen
          have hce := HCE.out; have hcf := HCF.out
          simp only [List.length_append] at hlen hce hcf
          rw [HCM1.out] at htx hlen
          simp only [List.length_append] at hlen
          rcases HR.out with ⟨rfl, rfl⟩ | ⟨g2, q2, rfl, rfl, hl2⟩ | ⟨g2, q2, rfl, rfl, hl2⟩
          ·
            rw [enc_nil] at hlen
            simp only [List.length_nil] at hlen hcf
            have HEQ : Hid (cE = cF) := Lib.hid (by omega)
            have hEm : ¬ ((cE : Int) < (mn : Int)) := by omega
            clear htx hc00 hlen hce hcf
            go_wp2
            go_meet
            exact ⟨by rw [HEQ.out], rfl⟩
          ·
            obtain ⟨hEm, ad2, h1, hcell⟩ := (HM.out.grown HFME.out.gr).txt.byte (pre := pre ++ (put d0 ++ tail ⟨pl, pcl, pf, ps, po, pq, pn⟩ ⟨pl, gc, gf, gs, go, gq, gn⟩)) (c := 44) (post := enc false (nx ⟨pl, pcl, pf, ps, po, pq, pn⟩ ⟨pl, gc, gf, gs, go, gq, gn⟩) (g2 :: q2)) (p := cE) (by rw [htx]; simp) (by simp only [List.length_append]; omega)
            obtain rfl : ad = ad2 := by injection h1
            have hcell : wE.cell? (ad.add cE) = some (.int .u8 44) := hcell
            have hEm' : (cE : Int) < (mn : Int) := by omega
            have hwE1 : IntKind.i64.wrap ((cE : Int) + 1) = (cE : Int) + 1 := by rw [IntKind.wrap_i64]; omega
            have HEQ : Hid (cF = cE + 1) := Lib.hid (by simp only [List.length_cons, List.length_nil] at hcf; omega)
            clear htx hc00 hlen hce hcf hl2 h1
            go_wp2
            go_meet
            exact ⟨by rw [HEQ.out]; simp, rfl⟩
          ·
            rw [enc_down false (nx ⟨pl, pcl, pf, ps, po, pq, pn⟩ ⟨pl, gc, gf, gs, go, gq, gn⟩) g2 q2 hl2] at htx
            obtain ⟨hEm, ad2, h1, hcell⟩ := (HM.out.grown HFME.out.gr).txt.byte (pre := pre ++ (put d0 ++ tail ⟨pl, pcl, pf, ps, po, pq, pn⟩ ⟨pl, gc, gf, gs, go, gq, gn⟩)) (c := 59) (post := enc false (down (nx ⟨pl, pcl, pf, ps, po, pq, pn⟩ ⟨pl, gc, gf, gs, go, gq, gn⟩)) (g2 :: q2)) (p := cE) (by rw [htx]; simp) (by simp only [List.length_append]; omega)
            obtain rfl : ad = ad2 := by injection h1
            have hcell : wE.cell? (ad.add cE) = some (.int .u8 59) := hcell
            have hEm' : (cE : Int) < (mn : Int) := by omega
            have HEQ : Hid (cE = cF) := Lib.hid (by simp only [List.length_nil] at hcf; omega)
            clear htx hc00 hlen hce hcf hl2 h1
            go_wp2
            go_meet
            exact ⟨by rw [HEQ.out], rfl⟩
        case rest =>
        obtain ⟨rfl, hwE0⟩ := hcut
        subst hwE0
        have HCFM : Hid (cF ≤ mn ∧ c0 < cF ∧ st ≤ cF) := Lib.hid (by
          have htx := HT2.out
          have hlen := congrArg List.length htx
          rw [hTl] at hlen
          rw [HCM1.out] at hlen
          have hcf := HCF.out
          have hc00 := HC0.out
          obtain ⟨d9, t9, _, hp9⟩ := put_head d0
          have h9 : 0 < (put d0).length := by rw [hp9]; simp
          simp only [List.length_append] at hlen hcf
          omega)
        clear mE
        go_wp2
        go_loopw [1, 16] (fun hv bv wr => ∃ (j o2 l2 p2 : Nat), hv = .slice (some ⟨hg, o2, none⟩) l2 p2 ∧ bv = .bool (decide (i < j)) ∧ o2 = j * 4 ∧ l2 + j = hn ∧ l2 ≤ p2 ∧ i ≤ j ∧ (i < j → ∃ s, S[j]? = some s ∧ before s (pl : Int) gc) ∧ wE.grownBy wr none) (fun hv _ _ => match hv with | .slice _ l _ => l | _ => 0)
        case atStart => exact ⟨i, off, ln, cp, rfl, by simp, HOFF.out, HLN.out, hcp, Nat.le_refl _, fun h => absurd h (Nat.lt_irrefl _), World.grownBy.refl _ _⟩
        case round =>
          obtain ⟨j, o2, l2, p2, rfl, rfl, ho2, hl2, hp2, hij, hcr, hgr⟩ := hrel
          have HO2 := Lib.hid ho2; have HL2 := Lib.hid hl2; have HCR := Lib.hid hcr; have HIJ := Lib.hid hij
          obtain ⟨wL, hwL⟩ : ∃ W, W = wr := ⟨_, rfl⟩
          subst hwL
          have HFML := Lib.hid (HFME.out.grown hgr)
          have HGR := Lib.hid hgr
          obtain ⟨bj, hbj⟩ : ∃ b, b = decide (i < j) := ⟨_, rfl⟩
          rw [← hbj]
          have HBJ := Lib.hid hbj
          have HSQ : Hid (∀ s, S[j + 1]? = some s → ∀ k, k < 4 → wL.cell? ⟨hg, (j + 1) * 4 + k, none⟩ = (shC s)[k]?) := Lib.hid (fun s hs => (HH.out.grown HFML.out.gr).cells hs)
          have g0 : wL.cell? ⟨gb, 0, none⟩ = some (.int .i64 (pl : Int)) := HFML.out.gbk.cell 0
          have g1 : wL.cell? ⟨gb, 1, none⟩ = some (.int .i64 gc) := HFML.out.gbk.cell 1
          obtain ⟨bz, hbz⟩ : ∃ b : Bool, (b = true ↔ ∃ s, S[j + 1]? = some s ∧ before s (pl : Int) gc) := by
            by_cases h : ∃ s, S[j + 1]? = some s ∧ before s (pl : Int) gc
            · exact ⟨true, by simp [h]⟩
            · exact ⟨false, by simp [h]⟩
          have HBZ := Lib.hid hbz
          clear hbj hcr hij hl2 ho2 hgr hbz
          go_upto_region 35 with fail
          go_cut [152] from 142 to 152 (fun v wx => v = .bool bz ∧ wL.grownBy wx none)
          case first =>
            have hl2 := HL2.out; have ho2 := HO2.out
            by_cases h1l : 1 < l2
            · have hjn : j + 1 < S.length := by have := HSL.out; omega
              obtain ⟨s, hs⟩ : ∃ s, S[j + 1]? = some s := ⟨S[j + 1], List.getElem?_eq_getElem hjn⟩
              have hk := HSQ.out s hs
              have HSS := Lib.hid hs
              obtain ⟨sbl, sbo, sal, sac⟩ := s
              have k0 : wL.cell? ⟨hg, o2 + 4, none⟩ = some (.int .i64 sbl) := by
                have := hk 0 (by omega)
                rw [show (j + 1) * 4 + 0 = o2 + 4 by omega] at this; exact this
              have k1 : wL.cell? ⟨hg, o2 + 4 + 1, none⟩ = some (.int .i64 sbo) := by
                have := hk 1 (by omega)
                rw [show (j + 1) * 4 + 1 = o2 + 4 + 1 by omega] at this; exact this
              have hbq : bz = decide (sbl < (pl : Int) ∨ (sbl = (pl : Int) ∧ sbo < gc)) := by
                have h := HBZ.out
                by_cases hb : sbl < (pl : Int) ∨ (sbl = (pl : Int) ∧ sbo < gc)
                · rw [decide_eq_true hb]; exact h.2 ⟨_, HSS.out, hb⟩
                · rw [decide_eq_false hb]
                  cases hz : bz with
                  | false => rfl
                  | true =>
                    obtain ⟨s2, e1, e2⟩ := h.1 hz
                    rw [HSS.out] at e1
                    obtain rfl := Option.some.inj e1
                    exact absurd e2 hb
              have HBF : Hid (∀ W, Calls Tryd.prog 11 #[.agg #[.int .i64 sbl, .int .i64 sbo], .agg #[.int .i64 (pl : Int), .int .i64 gc]] W (BefPost bz W)) := Lib.hid (fun W => by rw [hbq]; exact before_any sbl sbo (pl : Int) gc W)
              have h1l' : (1 : Int) < (l2 : Int) := by omega
              have HID : Hid (wL.grownBy wL none) := Lib.hid (World.grownBy.refl _ _)
              clear hk hs hbq hjn hl2 ho2
              go_region_with (go_at_call 11; (with_reducible refine (HBF.out _).mono ?_); rintro e wb ⟨rfl, hgb⟩; have HGB : Hid (wL.grownBy wb none) := Lib.hid ⟨hgb.os, hgb.tape, hgb.output, hgb.size, hgb.block⟩; clear hgb)
              all_goals
                go_wp2
                go_meet
                exact ⟨rfl, HGB.out⟩
            · have hd1 : decide (1 < l2) = false := by simp; omega
              have hd2 : ¬ (1 : Int) < (l2 : Int) := by omega
              have hbq : bz = false := by
                cases hz : bz with
                | false => rfl
                | true =>
                  obtain ⟨s2, e1, _⟩ := HBZ.out.1 hz
                  have := (List.getElem?_eq_some_iff.1 e1).1
                  have := HSL.out
                  omega
              have HBQ := Lib.hid hbq
              clear hbq hl2 ho2
              go_quiet (fail)
              go_wp2
              go_meet
              exact ⟨by rw [HBQ.out], only_drewN (World.grownBy.refl _ _) _⟩
          case rest =>
          obtain ⟨rfl, hgM⟩ := hcut
          obtain ⟨wM, hwM⟩ : ∃ W, W = wc := ⟨_, rfl⟩
          subst hwM
          have HFMM := Lib.hid (HFML.out.grown hgM)
          have HGM := Lib.hid (grownBy_acc HGR.out hgM)
          clear hgM g0 g1
          cases bz with
          | true =>
            obtain ⟨s, hs1, hs2⟩ := HBZ.out.1 rfl
            have hjn : j + 1 < hn := by have := (List.getElem?_eq_some_iff.1 hs1).1; have := HSL.out; omega
            have hl2' : l2 - 1 + (j + 1) = hn := by have := HL2.out; omega
            have ho2' : o2 + 4 = (j + 1) * 4 := by have := HO2.out; omega
            have hcp1 : ¬ p2 = 1 := by have := HL2.out; omega
            have h1l : 1 ≤ l2 := by have := HL2.out; omega
            have h1l2 : (1 : Int) ≤ (l2 : Int) := by omega
            have HCR2 : Hid (i < j + 1 → ∃ s, S[j + 1]? = some s ∧ before s (pl : Int) gc) := Lib.hid (fun _ => ⟨s, hs1, hs2⟩)
            have hij2 : i < j + 1 := by have := HIJ.out; omega
            have HL2' := Lib.hid hl2'; have HO2' := Lib.hid ho2'; have HIJ2 := Lib.hid hij2
            clear hs1 hs2 hl2' ho2' hij2 hjn
            go_wp2
            go_roundw
            case rel => exact ⟨j + 1, o2 + 4, l2 - 1, p2 - 1, rfl, by rw [decide_eq_true HIJ2.out], HO2'.out, HL2'.out, by omega, by have := HIJ2.out; omega, HCR2.out, HGM.out⟩
            case measure => simp; omega
          | false =>
            have HNO : Hid (∀ s, S[j + 1]? = some s → ¬ before s (pl : Int) gc) := Lib.hid (fun s hs hb => by have := HBZ.out.2 ⟨s, hs, hb⟩; cases this)
            cases bj with
            | false =>
              obtain rfl : i = j := by have := HIJ.out; have h := HBJ.out; have : ¬ i < j := of_decide_eq_false h.symm; omega
              have HKP : Hid (FT T TQ S (nx ⟨pl, pcl, pf, ps, po, pq, pn⟩ ⟨pl, gc, gf, gs, go, gq, gn⟩) q (pre ++ (put d0 ++ (tail ⟨pl, pcl, pf, ps, po, pq, pn⟩ ⟨pl, gc, gf, gs, go, gq, gn⟩ ++ cm))) st (cat its) i d) := Lib.hid (by
                obtain ⟨e1, e2⟩ := HFT.out.shi.same (c' := gc) hcol HSRT.out HNO.out
                rw [HD0.out]
                exact HFT.out.keep rfl e1 e2 HR.out HCM1.out (rest_moved HR.out S d))
              clear hcol
              go_wp2
              go_roundw
              case rel => exact ⟨nx ⟨pl, pcl, pf, ps, po, pq, pn⟩ ⟨pl, gc, gf, gs, go, gq, gn⟩, q, pre ++ (put d0 ++ (tail ⟨pl, pcl, pf, ps, po, pq, pn⟩ ⟨pl, gc, gf, gs, go, gq, gn⟩ ++ cm)), st, cF, i, o2, l2, p2, d, its, rfl, rfl, rfl, rfl, HO2.out, HL2.out, hp2, HCF.out, HCFM.out.1, HCFM.out.2.2, HKP.out, HQ1.out, by omega, HD.out, HFMM.out⟩
              case measure => simp [intOf]; have := HCFM.out; omega
            | true =>
              have hij : i < j := of_decide_eq_true HBJ.out.symm
              obtain ⟨s, hs, hsb⟩ := HCR.out hij
              have hjn : j < S.length := (List.getElem?_eq_some_iff.1 hs).1
              have hsv : S[j] = s := (List.getElem?_eq_some_iff.1 hs).2
              obtain ⟨x1, x2, x3⟩ := HFT.out.shi.cross (c' := gc) hcol HSRT.out hij hjn (by rw [hsv]; exact hsb) HNO.out (fun s hs => (HSB.out s hs).e)
              rw [hsv] at x1 x2 x3
              obtain ⟨y1, y2, y3, y4⟩ := HSB.out s (List.mem_of_getElem? hs)
              have hk := (HH.out.grown HFMM.out.gr).cells hs
              obtain ⟨sbl, sbo, sal, sac⟩ := s
              dsimp only at y1 y2 y3 y4
              subst y1
              have e0 : j * 4 = o2 := HO2.out.symm
              have k0 : wM.cell? ⟨hg, o2, none⟩ = some (.int .i64 sal) := by have := hk 0 (by omega); rw [e0] at this; exact this
              have k1 : wM.cell? ⟨hg, o2 + 1, none⟩ = some (.int .i64 sbo) := by have := hk 1 (by omega); rw [e0] at this; exact this
              have k2 : wM.cell? ⟨hg, o2 + 2, none⟩ = some (.int .i64 sal) := by have := hk 2 (by omega); rw [e0] at this; exact this
              have k3 : wM.cell? ⟨hg, o2 + 3, none⟩ = some (.int .i64 sac) := by have := hk 3 (by omega); rw [e0] at this; exact this
              obtain ⟨wN, hwN⟩ : ∃ W, W = wM.alloc (.cells #[.int .i64 sal, .int .i64 sbo, .int .i64 sal, .int .i64 sac] 34) := ⟨_, rfl⟩
              obtain ⟨xN, hxN⟩ : ∃ x, x = wM.heap.size := ⟨_, rfl⟩
              have HBN := Lib.hid (show Blk wN xN 34 #[.int .i64 sal, .int .i64 sbo, .int .i64 sal, .int .i64 sac] by rw [hwN, hxN]; exact Blk.new _ _ _)
              have HFMN : Hid (FM w pb gb jb #[.slice PA 1 pc, .slice (some ad) mn mc, .slice SA 1 sc] pl gc its wN) := Lib.hid (HFMM.out.grown (by rw [hwN]; exact only_alloc (World.grownBy.refl _ _) _))
              have n0 : wN.cell? ⟨xN, 0, none⟩ = some (.int .i64 sal) := HBN.out.cell 0
              have n1 : wN.cell? ⟨xN, 1, none⟩ = some (.int .i64 sbo) := HBN.out.cell 1
              have n2 : wN.cell? ⟨xN, 2, none⟩ = some (.int .i64 sal) := HBN.out.cell 2
              have n3 : wN.cell? ⟨xN, 3, none⟩ = some (.int .i64 sac) := HBN.out.cell 3
              have h0l : 0 < l2 := by have := HL2.out; have := HSL.out; omega
              have h0l' : (0 : Int) < (l2 : Int) := by omega
              have g0 : wN.cell? ⟨gb, 0, none⟩ = some (.int .i64 (pl : Int)) := HFMN.out.gbk.cell 0
              have HX1 := Lib.hid x1; have HX2 := Lib.hid x2; have HX3 := Lib.hid x3
              clear hk e0 hs hsb hsv hjn hij x1 x2 x3
              by_cases hal : sal = (pl : Int)
              · have hal2 : (sal == (pl : Int)) = true := by rw [hal]; simp
                have hal3 : (sal != (pl : Int)) = false := by rw [hal]; simp
                have hss : (sal != sal) = false := by simp
                obtain ⟨sd, hsd⟩ : ∃ x, x = sac - sbo := ⟨_, rfl⟩
                have HMV : Hid (FT T TQ S (nx ⟨pl, pcl, pf, ps, po, pq, pn⟩ ⟨pl, gc, gf, gs, go, gq, gn⟩) q (pre ++ (put d0 ++ (tail ⟨pl, pcl, pf, ps, po, pq, pn⟩ ⟨pl, gc, gf, gs, go, gq, gn⟩ ++ cm))) (pre ++ put d0).length (cat its ++ pre.drop st ++ put (d0 + sd - d)) j sd) := Lib.hid (by
                  have e1 : one ⟨sal, sbo, sal, sac⟩ (pl : Int) = sd := by unfold one; rw [if_pos hal, hsd]
                  have h1 := HX1.out; have h2 := HX2.out
                  rw [e1] at h1 h2
                  rw [HD0.out]
                  exact HFT.out.move rfl h1 h2 HR.out HCM1.out (rest_moved HR.out S sd))
                obtain ⟨A', hcut, hA'⟩ := cut_lh (some ad) mn mc st c0 hst0 (by omega) hmc
                obtain ⟨D, hDD⟩ : ∃ D, D = c0 - st := ⟨_, rfl⟩
                obtain ⟨E, hEE⟩ : ∃ E, E = mc - st := ⟨_, rfl⟩
                rw [← hDD, ← hEE] at hcut
                rw [← hDD] at hA'
                have hpre : (T.take c0).drop st = pre.drop st := by rw [HT2.out, HC0.out, List.take_left' rfl]
                have hA1 := hA' wN T (HM.out.grown HFMN.out.gr)
                rw [hpre] at hA1
                have HA1 := Lib.hid (add_any w.heap.size jb its A' D E (pre.drop st) wN HFMN.out.ji hA1 (by omega) (by omega) (by omega) HFMN.out.gr.size)
                obtain ⟨its1, hits1⟩ : ∃ x, x = its ++ [⟨A', D, E, (cat its).length, pre.drop st⟩] := ⟨_, rfl⟩
                have hci1 : cat its1 = cat its ++ pre.drop st := by rw [hits1, cat_snoc]
                rw [← hits1] at HA1
                have hl1 : its1.length = its.length + 1 := by rw [hits1, List.length_append]; rfl
                have hc1l : (cat its1).length ≤ (cat its).length + mn := by rw [hci1, List.length_append, List.length_drop]; have := HC0.out; omega
                have HCI1 := Lib.hid hci1
                have m1 : wN.cell? ⟨pb, 1, none⟩ = some (.slice (some ad) mn mc) := HFMN.out.pbk.cell 1
                have hwsd : IntKind.i64.wrap (sac - sbo) = sd := by rw [IntKind.wrap_i64]; omega
                have hd1 := HD.out
                have hdl := HD0.out
                have hwv1 : IntKind.i64.wrap (d0 + sd) = d0 + sd := by rw [IntKind.wrap_i64]; omega
                have hwv2 : IntKind.i64.wrap (d0 + sd - d) = d0 + sd - d := by rw [IntKind.wrap_i64]; omega
                have HVB : Hid (-1099511627776 ≤ d0 + sd - d ∧ d0 + sd - d ≤ 1099511627776) := Lib.hid (by omega)
                have HSDB : Hid (-3000000 ≤ sd ∧ sd ≤ 3000000) := Lib.hid (by omega)
                have hstc : (st : Int) ≤ (c0 : Int) := by omega
                clear hal hsd hDD hEE hpre hA1 hA' hits1 hci1 hd1 hdl hcol
                go_upto_region 40 with fail
                first | rw [← hwN] | skip
                first | rw [← hxN] | skip
                clear hwN hxN k0 k1 k2 k3
                go_wp2_with (go_at_call 9; (with_reducible refine (HA1.out).mono ?_))
                rintro e w5 ⟨rfl, hj5, hk5⟩
                have HF5 := Lib.hid (HFMN.out.jk hk5 hj5)
                have HB5 := Lib.hid (hk5.blk HBN.out (by decide) (by decide))
                have n0 : w5.cell? ⟨xN, 0, none⟩ = some (.int .i64 sal) := HB5.out.cell 0
                have n1 : w5.cell? ⟨xN, 1, none⟩ = some (.int .i64 sbo) := HB5.out.cell 1
                have n2 : w5.cell? ⟨xN, 2, none⟩ = some (.int .i64 sal) := HB5.out.cell 2
                have n3 : w5.cell? ⟨xN, 3, none⟩ = some (.int .i64 sac) := HB5.out.cell 3
                have HEV := Lib.hid (evlq_any (d0 + sd - d) w5 (HB64.out.grown HF5.out.gr) HVB.out)
                clear hj5 hk5 HA1 m1 g0 hcut
                go_wp2_with (go_at_call 12; (with_reducible refine (HEV.out).mono ?_))
                rintro e w6 ⟨A6, c6, rfl, htx6, hg6⟩
                have HF6 := Lib.hid (HF5.out.grown hg6)
                have hpl : (put (d0 + sd - d)).length ≤ 9 := put_len _ HVB.out
                have HA2 := Lib.hid (add_any w.heap.size jb its1 A6 (put (d0 + sd - d)).length c6 (put (d0 + sd - d)) w6 HF6.out.ji htx6 (by omega) (by omega) (by omega) HF6.out.gr.size)
                obtain ⟨its2, hits2⟩ : ∃ x, x = its1 ++ [⟨A6, (put (d0 + sd - d)).length, c6, (cat its1).length, put (d0 + sd - d)⟩] := ⟨_, rfl⟩
                have hci2 : cat its2 = cat its1 ++ put (d0 + sd - d) := by rw [hits2, cat_snoc]
                rw [← hits2] at HA2
                have hl3 : its2.length = its1.length + 1 := by rw [hits2, List.length_append]; rfl
                have HCI2 := Lib.hid hci2
                clear hits2 hci2 htx6 hg6 HEV n0 n1 n2 n3
                go_wp2_with (go_at_call 9; (with_reducible refine (HA2.out).mono ?_))
                rintro e w7 ⟨rfl, hj7, hk7⟩
                have HF7 := Lib.hid (HF6.out.jk hk7 hj7)
                have HFT7 : Hid (FT T TQ S (nx ⟨pl, pcl, pf, ps, po, pq, pn⟩ ⟨pl, gc, gf, gs, go, gq, gn⟩) q (pre ++ (put d0 ++ (tail ⟨pl, pcl, pf, ps, po, pq, pn⟩ ⟨pl, gc, gf, gs, go, gq, gn⟩ ++ cm))) c1 (cat its2) j sd) := Lib.hid (by
                  have h := HMV.out
                  rw [HCI2.out, HCI1.out]
                  have e : c1 = (pre ++ put d0).length := by rw [HC1.out, HC0.out, List.length_append]
                  rw [e]; exact h)
                have HST7 : Hid (c1 ≤ cF) := Lib.hid (by
                  have := HC1.out; have := HCF.out; have := HC0.out
                  simp only [List.length_append] at *
                  omega)
                clear hj7 hk7 HA2
                go_wp2
                go_roundw
                case rel => exact ⟨nx ⟨pl, pcl, pf, ps, po, pq, pn⟩ ⟨pl, gc, gf, gs, go, gq, gn⟩, q, pre ++ (put d0 ++ (tail ⟨pl, pcl, pf, ps, po, pq, pn⟩ ⟨pl, gc, gf, gs, go, gq, gn⟩ ++ cm)), c1, cF, j, o2, l2, p2, sd, its2, rfl, rfl, rfl, rfl, HO2.out, HL2.out, hp2, HCF.out, HCFM.out.1, HST7.out, HFT7.out, HQ1.out, by omega, HSDB.out, HF7.out⟩
                case measure => simp [intOf]; have := HCFM.out; omega
              · have hal2 : (sal == (pl : Int)) = false := by rw [beq_eq_false_iff_ne]; exact hal
                have hal3 : (sal != (pl : Int)) = true := by rw [bne_iff_ne]; exact hal
                have HKP : Hid (FT T TQ S (nx ⟨pl, pcl, pf, ps, po, pq, pn⟩ ⟨pl, gc, gf, gs, go, gq, gn⟩) q (pre ++ (put d0 ++ (tail ⟨pl, pcl, pf, ps, po, pq, pn⟩ ⟨pl, gc, gf, gs, go, gq, gn⟩ ++ cm))) st (cat its) j d) := Lib.hid (by
                  have e1 : one ⟨sal, sbo, sal, sac⟩ (pl : Int) = 0 := by unfold one; rw [if_neg hal]
                  have h1 := HX1.out; have h2 := HX2.out
                  have h3 : d = 0 := HX3.out hal
                  rw [e1] at h1 h2
                  rw [HD0.out, h3]
                  have hft := HFT.out
                  rw [h3] at hft
                  exact hft.keep rfl h1 h2 HR.out HCM1.out (rest_moved HR.out S 0))
                clear hal hcol
                go_upto_region 40 with fail
                first | rw [← hwN] | skip
                first | rw [← hxN] | skip
                clear hwN hxN k0 k1 k2 k3
                go_wp2
                go_roundw
                case rel => exact ⟨nx ⟨pl, pcl, pf, ps, po, pq, pn⟩ ⟨pl, gc, gf, gs, go, gq, gn⟩, q, pre ++ (put d0 ++ (tail ⟨pl, pcl, pf, ps, po, pq, pn⟩ ⟨pl, gc, gf, gs, go, gq, gn⟩ ++ cm)), st, cF, j, o2, l2, p2, d, its, rfl, rfl, rfl, rfl, HO2.out, HL2.out, hp2, HCF.out, HCFM.out.1, HCFM.out.2.2, HKP.out, HQ1.out, by omega, HD.out, HFMN.out⟩
                case measure => simp [intOf]; have := HCFM.out; omega
end Go.Proofs.YthbmffocgccniaaDoor
