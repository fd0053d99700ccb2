/-
  PROVED: for all loader and template selectors, extensions, feature sets, masks and platforms the law FnApplyOptionDefaultsSpec returns true. Conditions: none beyond the form's own reach.
-/
import Derived.Test.YtjellcldojmpcaaRows
import Derived.WalkKit
import Derived.ProofKit
import Derived.Deep.CutRange
import Derived.Deep.WholeRow
import Derived.Outline
import Derived.LoopTactic
import Derived.WalkSpells
import Derived.Deep.Light
import Derived.Test.YtjellcldojmpcaaOpi
import Derived.Test.YtjellcldojmpcaaOps
import Derived.OpenShut
import Derived.ShutString
import Derived.ChangeOld
import Derived.Below
import Derived.Carry
namespace Go.Proofs.Ytjellcldojmpcaa.fnApplyOptionDefaultsSpec
open Go.Maps Go.ChangeShapes Go.WideShapes Go.ChangeAt Go.RowKit
open Go.ChangeMaps (open_string shut_string)
set_option linter.unusedVariables false
set_option linter.unusedSimpArgs false

theorem own : ownKnob Try.prog.godebug = none := by kernel_rfl
theorem laidOut : laidOutB Try.pinned.checked.prog = true := by kernel_rfl



theorem wpList_store_new {P : Program} (w : World) {ops : Array Oper} {rest : List Oper} {o : Oper} {a : Act} {Q : Exit → Act → World → Prop} (hgd : o.guard = none) (ty : TypeId) (x y : Operand) (ho : o.op = .store ty x y)
    (cells old : Array Value) (hx : a.eval x = .pointer (some ⟨w.heap.size, 0, none⟩)) (hy : a.eval y = .agg cells) (hi : (P.info? ty).map (·.size) = some cells.size)
    (hold : old.size = cells.size) (h1 : cells.all (·.oneCell') = true)
    (h : wpList P ops Q rest (a.put o.dst undef) (w.alloc (.cells cells ty))) : wpList P ops Q (o :: rest) a (w.alloc (.cells old ty)) :=
  wpList_plain hgd fun _ hK => by
    unfold Oper.wp execOp
    simp only [ho, hx, hy, Instr.storeAt, Instr.sureAddr, Sem.run_bind, Sem.run_pure, Result.andThen_ok, run_storeVar_new (P := P) w ty old cells hi hold h1]
    exact hK _ _ h
set_option maxRecDepth 100000 in
theorem zb (x0 x3 x5 x6 x7 x8 x9 x10 : Int) (x4 : Bool) (s t : ByteArray) (w : World) (hn : s.size ≤ maxLen) (hm : t.size ≤ maxLen) :
    Calls Try.prog 10 #[.int .u8 x0, .string s, .string t, .int .u8 x3, .bool x4, .int .u64 x5, .int .u64 x6, .int .u64 x7, .int .u16 x8, .int .u16 x9, .int .u8 x10] w fun e w' => e = .returned (.bool (decide (s.size + t.size ≤ 1048576))) ∧ w = w' := by
  unfold maxLen at hn hm
  by_cases h1 : 1048576 < s.size
  · go_enter Try.func10, Try.ntmps10
    go_wp2
    go_ret
    exact ⟨ret_bool (by symm; simp; omega), rfl⟩
  · by_cases h2 : s.size + t.size ≤ 1048576
    · go_enter Try.func10, Try.ntmps10
      go_wp2
      go_ret
      exact ⟨ret_bool (by symm; simpa using h2), rfl⟩
    · by_cases h3 : 1048576 < t.size
      · go_enter Try.func10, Try.ntmps10
        go_wp2
        go_ret
        exact ⟨ret_bool (by symm; simp; omega), rfl⟩
      · go_enter Try.func10, Try.ntmps10
        go_wp2
        go_ret
        exact ⟨ret_bool (by symm; simp; omega), rfl⟩
theorem zz_ap (b : Nat) (S : OptSt) (mo : Option Nat) (hM : S.M = .map mo) (A1 A2 A3 : Option Addr) (n1 n2 n3 c1 c2 c3 : Nat) (hE : S.E = .slice A1 n1 c1) (hC : S.C = .slice A2 n2 c2) (hA : S.A = .slice A3 n3 c3) (w : World) (h : OptIs b S w) :
    Calls Try.prog 7 #[.pointer (some ⟨b, 0, none⟩)] w (ApPost b S n1 n2 n3 w) := by
  have HX := Lib.hid (ap_any b S mo hM A1 A2 A3 n1 n2 n3 c1 c2 c3 hE hC hA w h)
  clear hM hE hC hA h
  go_enter Try.func7, Try.ntmps7
  go_wp2_with (go_at_call 15; refine HX.out.mono ?_; rintro e w1 ⟨M, E, C, A, rfl, h⟩; have H := Lib.hid h; clear h)
  go_end0
  exact ⟨M, E, C, A, rfl, H.out⟩
theorem u64_bv (a : Int) (h : 0 ≤ a) (h' : a ≤ 18446744073709551615) : ∃ x : BitVec 64, a = (x.toNat : Int) := by
  obtain ⟨n, rfl⟩ := Int.eq_ofNat_of_zero_le h
  exact ⟨BitVec.ofNat 64 n, by rw [BitVec.toNat_ofNat, Nat.mod_eq_of_lt (by omega)]⟩
theorem u16_bv (a : Int) (h : 0 ≤ a) (h' : a ≤ 65535) : ∃ x : BitVec 16, a = (x.toNat : Int) := by
  obtain ⟨n, rfl⟩ := Int.eq_ofNat_of_zero_le h
  exact ⟨BitVec.ofNat 16 n, by rw [BitVec.toNat_ofNat, Nat.mod_eq_of_lt (by omega)]⟩
theorem fin_fields (S : OptSt) (M E C A : Value) : (S.fin M E C A).o = S.o ||| UbO S.o ∧ (S.fin M E C A).m = S.m ||| UbO S.o ∧ (S.fin M E C A).cm = S.cm ∧ (S.fin M E C A).js = dflt S.js jsB ∧ (S.fin M E C A).css = dflt S.css cssB ∧ (S.fin M E C A).mi = S.mi ∧ (S.fin M E C A).pr = (!S.mi) ∧ (S.fin M E C A).pl = S.pl ∧ (S.fin M E C A).M = M ∧ (S.fin M E C A).E = E ∧ (S.fin M E C A).C = C ∧ (S.fin M E C A).A = A ∧
    (S.fin M E C A).f = (bif S.pl != 0 then (bif meets (S.m ||| UbO S.o) IS then S.f ||| UbO S.o else S.f ||| UbO S.o ||| IS) else S.f ||| UbO S.o) ∧ (S.fin M E C A).c = (bif S.pl != 0 then (bif meets S.cm IY then S.c else S.c ||| IY) else S.c) := by
  unfold OptSt.fin
  rw [six_U]
  unfold OptSt.plat OptSt.add
  dsimp only
  cases (S.pl != 0) <;> exact ⟨rfl, rfl, rfl, rfl, rfl, rfl, rfl, rfl, rfl, rfl, rfl, rfl, rfl, rfl⟩
theorem below_none {w w' : World} (h : w.grownBy w' none) : Below w.heap.size w w' := ⟨h.os, h.tape, h.output, h.size, fun i hi => h.block i hi (by simp)⟩
/-! ### STEP 1: THE WALK -/
set_option maxHeartbeats 8000000 in
set_option maxRecDepth 100000 in
theorem walk (a0 : Int) (a1 : ByteArray) (a2 : ByteArray) (a3 : Int) (a4 : Bool) (a5 : Int) (a6 : Int) (a7 : Int) (a8 : Int) (a9 : Int) (a10 : Int) (w : World) (w0 : (Lit.int .u8 a0).wf = true) (w1 : a1.size ≤ maxLen) (w2 : a2.size ≤ maxLen) (w3 : (Lit.int .u8 a3).wf = true) (w5 : (Lit.int .u64 a5).wf = true) (w6 : (Lit.int .u64 a6).wf = true) (w7 : (Lit.int .u64 a7).wf = true) (w8 : (Lit.int .u16 a8).wf = true) (w9 : (Lit.int .u16 a9).wf = true) (w10 : (Lit.int .u8 a10).wf = true)  :
    Calls Try.prog 4 #[.int .u8 a0, .string a1, .string a2, .int .u8 a3, .bool a4, .int .u64 a5, .int .u64 a6, .int .u64 a7, .int .u16 a8, .int .u16 a9, .int .u8 a10] w fun e w' => e = .returned (.bool true) ∧ Below w.heap.size w w' := by
  simp [Lit.wf, IntKind.min, IntKind.max, IntKind.signed, IntKind.bits] at w0 w3 w5 w6 w7 w8 w9 w10
  obtain ⟨f, rfl⟩ := u64_bv a5 w5.1 w5.2
  obtain ⟨o, rfl⟩ := u64_bv a6 w6.1 w6.2
  obtain ⟨m, rfl⟩ := u64_bv a7 w7.1 w7.2
  obtain ⟨c, rfl⟩ := u16_bv a8 w8.1 w8.2
  obtain ⟨cm, rfl⟩ := u16_bv a9 w9.1 w9.2
  clear w5 w6 w7 w8 w9
  have HB1 := Lib.hid w1; have HB2 := Lib.hid w2
  have hm1 : a1.size ≤ 9223372036854775807 := by unfold maxLen at w1; omega
  have hm2 : a2.size ≤ 9223372036854775807 := by unfold maxLen at w2; omega
  clear w1 w2
  have HMO := Lib.hid (fun W => mo_any a0 a3 a10 w0 w3 w10 a1 a2 a4 f o m c cm W)
  by_cases hbig : a1.size + a2.size ≤ 1048576
  case neg =>
    have HB := Lib.hid (show decide (a1.size + a2.size ≤ 1048576) = false by simpa using hbig)
    go_enter Try.func4, Try.ntmps4
    go_wp2_with (go_at_call 10; refine (zb _ _ _ _ _ _ _ _ _ a1 a2 _ HB1.out HB2.out).mono ?_; rw [HB.out]; rintro e wz ⟨rfl, rfl⟩)
    go_ret
    exact ⟨rfl, Below.refl _ _⟩
  have HB := Lib.hid (show decide (a1.size + a2.size ≤ 1048576) = true by simpa using hbig)
  go_enter Try.func4, Try.ntmps4
  go_upto_region 5 with (go_at_call 10; refine (zb _ _ _ _ _ _ _ _ _ a1 a2 _ HB1.out HB2.out).mono ?_; rw [HB.out]; rintro e wz ⟨rfl, rfl⟩)
  have hz := zOpt_zero
  go_wp2_with (go_at_call 6; refine (HMO.out w).mono ?_)
  rintro e w1 ⟨M, E, C, A, n, K, rfl, hk, hl, he, hc, ha, hg⟩
  have HK := Lib.hid hk; have HL := Lib.hid hl; have HE := Lib.hid he; have HC := Lib.hid hc; have HA := Lib.hid ha; have HG := Lib.hid hg
  have hi : (Try.prog.info? 79).map (·.size) = some K.size := by rw [hk.sz]; exact infoO
  have hzs : zOpt.size = K.size := by rw [hk.sz]; exact zOpt_k.sz
  clear hk hl he hc ha hg HMO
  go_upto_region 6 with (refine wpList_store_new w1 rfl 79 (.tmp 23) (.tmp 78) rfl K zOpt rfl rfl hi hzs HK.out.one ?_)
  have HO0 : Hid (OptIs w1.heap.size ⟨a1, a2, .map M, E, C, A, f, c, o, m, cm, a4, false, a10 % 3⟩ (w1.alloc (.cells K 79))) := Lib.hid ⟨K, Blk.new w1 79 K, HK.out⟩
  clear hi hzs hz
  obtain ⟨b, hb⟩ : ∃ b, b = w1.heap.size := ⟨_, rfl⟩
  obtain ⟨w2, hw2⟩ : ∃ W : World, W = w1.alloc (.cells K 79) := ⟨_, rfl⟩
  rw [← hb, ← hw2] at HO0
  rw [← hb, ← hw2]
  have HW2 : Hid (OFr b w1 w2) := Lib.hid (by rw [hw2]; exact (OFr.refl _ _).alloc _)
  have HBB : Hid (w1.heap.size ≤ b) := Lib.hid (by omega)
  have HBW : Hid (w.heap.size ≤ b) := Lib.hid (by rw [hb]; exact HG.out.size)
  clear hb hw2
  by_cases h2 : a3 % 3 = 2
  · obtain ⟨rfl, g1, rfl, q1⟩ : n = 1 ∧ ∃ g, E = .slice (some ⟨g, 0, none⟩) 1 1 ∧ True := by
      rcases HE.out with ⟨h, _⟩ | ⟨_, h, g, h1, _⟩
      · exact absurd h2 h
      · exact ⟨h, g, h1, trivial⟩
    obtain ⟨g2, rfl⟩ : ∃ g, C = .slice (some ⟨g, 0, none⟩) 1 1 := by
      rcases HC.out with ⟨h, _⟩ | ⟨_, h, g, h1, _⟩
      · exact absurd h2 h
      · exact ⟨g, h1⟩
    obtain ⟨g3, rfl⟩ : ∃ g, A = .slice (some ⟨g, 0, none⟩) 1 1 := by
      rcases HA.out with ⟨h, _⟩ | ⟨_, h, g, h1, _⟩
      · exact absurd h2 h
      · exact ⟨g, h1⟩
    clear q1
    have H2 := Lib.hid h2
    have e2 : (a3 % 3 == 2) = true := by rw [h2]; rfl
    clear h2
    obtain ⟨S, hS⟩ : ∃ S : OptSt, S = ⟨a1, a2, .map M, .slice (some ⟨g1, 0, none⟩) 1 1, .slice (some ⟨g2, 0, none⟩) 1 1, .slice (some ⟨g3, 0, none⟩) 1 1, f, c, o, m, cm, a4, false, a10 % 3⟩ := ⟨_, rfl⟩
    rw [← hS] at HO0
    have HAP := Lib.hid (zz_ap b S M (by rw [hS]) (some ⟨g1, 0, none⟩) (some ⟨g2, 0, none⟩) (some ⟨g3, 0, none⟩) 1 1 1 1 1 1 (by rw [hS]) (by rw [hS]) (by rw [hS]) w2 HO0.out)
    have HS := Lib.hid hS
    clear hS
    go_upto_region 7 with (go_at_call 7; refine HAP.out.mono ?_; rintro e w3 ⟨M1, E1, C1, A1, rfl, ho, hf, hm, he, hc, ha⟩; have HO3 := Lib.hid ho; have HF3 := Lib.hid hf; have HM3 := Lib.hid hm; have HE3 := Lib.hid he; have HC3 := Lib.hid hc; have HA3 := Lib.hid ha; clear ho hf hm he hc ha)
    clear HAP
    obtain ⟨F, hF⟩ : ∃ F : OptSt, F = S.fin M1 E1 C1 A1 := ⟨_, rfl⟩
    rw [← hF] at HO3
    obtain ⟨ffo, ffm, ffcm, ffjs, ffcss, ffmi, ffpr, ffpl, ffM, ffE, ffC, ffA, fff, ffc⟩ := fin_fields S M1 E1 C1 A1
    rw [← hF] at ffo ffm ffcm ffjs ffcss ffmi ffpr ffpl ffM ffE ffC ffA fff ffc
    rw [HS.out] at ffo ffm ffcm ffjs ffcss ffmi ffpr ffpl fff ffc
    have HFF := Lib.hid fff; have HFC := Lib.hid ffc
    have c25 := HO3.out.c25; have c26 := HO3.out.c26; have c30 := HO3.out.c30; have c39 := HO3.out.c39; have c40 := HO3.out.c40; have c41 := HO3.out.c41; have c59 := HO3.out.c59; have c60 := HO3.out.c60; have c61 := HO3.out.c61; have c62 := HO3.out.c62; have c64 := HO3.out.c64; have c76 := HO3.out.c76; have c78 := HO3.out.c78; have c97 := HO3.out.c97
    rw [ffjs] at c25; rw [ffcss] at c26; rw [ffM] at c30; rw [ffE] at c39; rw [ffC] at c40; rw [ffA] at c41
    rw [ffo, ← impl_U, ← or64] at c61
    rw [ffm, ← impl_U, ← or64] at c62
    rw [ffcm] at c64
    rw [ffmi] at c76
    rw [ffpr] at c78
    rw [ffpl] at c97
    dsimp only at c25 c26 c61 c62 c64 c76 c78 c97
    clear ffo ffm ffcm ffjs ffcss ffmi ffpr ffpl ffM ffE ffC ffA fff ffc hF
    have IMX := Lib.hid (impl_any o w3)
    have PLX := Lib.hid (plat_any a10 w10.1 w10.2 w3)
    go_upto_if 95 with (first | (go_at_call 11; refine PLX.out.mono ?_; rintro e wz ⟨rfl, rfl⟩) | (go_at_call 12; refine IMX.out.mono ?_; rintro e wz ⟨rfl, rfl⟩))
    have g0 : (((o.toNat : Int)) != (o.toNat : Int)) = false := by simp
    go_cut [26, 29] from 96 to 105 (fun x y wx => x = .int .u64 (F.f.toNat : Int) ∧ y = .int .u16 (F.c.toNat : Int) ∧ wx = w3)
    case first =>
      by_cases hp : a10 % 3 = 0
      · have hp' : (a10 % 3 != 0) = false := by rw [hp]; rfl
        have HP := Lib.hid hp'
        clear hp
        go_wp2
        go_meet
        refine ⟨?_, ?_, rfl⟩
        · rw [HFF.out, impl_U, or64]; rw [HP.out]; rfl
        · rw [HFC.out]; rw [HP.out]; rfl
      · have hp' : (a10 % 3 != 0) = true := by simpa using hp
        have HP := Lib.hid hp'
        clear hp
        have hi1 : (68719476736 : Int) = (IS.toNat : Int) := by kernel_rfl
        have hi2 : (64 : Int) = (IY.toNat : Int) := by kernel_rfl
        have b1 : (bits BinOp.and IntKind.u64 (bits BinOp.or IntKind.u64 (m.toNat : Int) ((impl o).toNat : Int)) 68719476736 == 0) = !(meets (m ||| UbO o) IS) := by rw [or64, hi1, and64, eq0, impl_U]
        have b2 : (bits BinOp.and IntKind.u16 (cm.toNat : Int) 64 == 0) = !(meets cm IY) := by rw [hi2, and16, eq0]
        have HI1 := Lib.hid hi1; have HI2 := Lib.hid hi2
        clear hi1 hi2
        cases ha : meets (m ||| UbO o) IS
        · have HA' := Lib.hid ha
          rw [ha] at b1
          clear ha
          cases hb : meets cm IY
          · have HB' := Lib.hid hb
            rw [hb] at b2
            clear hb
            go_wp2
            go_meet
            refine ⟨?_, ?_, rfl⟩
            · rw [HFF.out, impl_U, or64, HI1.out, or64]; rw [HP.out, HA'.out]; rfl
            · rw [HFC.out, HI2.out, or16]; rw [HP.out, HB'.out]; rfl
          · have HB' := Lib.hid hb
            rw [hb] at b2
            clear hb
            go_wp2
            go_meet
            refine ⟨?_, ?_, rfl⟩
            · rw [HFF.out, impl_U, or64, HI1.out, or64]; rw [HP.out, HA'.out]; rfl
            · rw [HFC.out]; rw [HP.out, HB'.out]; rfl
        · have HA' := Lib.hid ha
          rw [ha] at b1
          clear ha
          cases hb : meets cm IY
          · have HB' := Lib.hid hb
            rw [hb] at b2
            clear hb
            go_wp2
            go_meet
            refine ⟨?_, ?_, rfl⟩
            · rw [HFF.out, impl_U, or64]; rw [HP.out, HA'.out]; rfl
            · rw [HFC.out, HI2.out, or16]; rw [HP.out, HB'.out]; rfl
          · have HB' := Lib.hid hb
            rw [hb] at b2
            clear hb
            go_wp2
            go_meet
            refine ⟨?_, ?_, rfl⟩
            · rw [HFF.out, impl_U, or64]; rw [HP.out, HA'.out]; rfl
            · rw [HFC.out]; rw [HP.out, HB'.out]; rfl
    case rest =>
      obtain ⟨rfl, rfl, hq⟩ := hcut
      have hq := hq.symm
      subst hq
      go_upto_if 151 with fail
      go_cut [30] from 150 to 151 (fun x wx => x = .string (dflt a1 jsB) ∧ wx = w3)
      case first =>
        cases hz : a1.toList.isEmpty
        · have HZ := Lib.hid hz
          go_wp2
          go_meet
          exact ⟨by unfold dflt; rw [HZ.out]; rfl, rfl⟩
        · have HZ := Lib.hid hz
          go_wp2
          go_meet
          exact ⟨by unfold dflt; rw [HZ.out]; rfl, rfl⟩
      case rest =>
        obtain ⟨rfl, hq⟩ := hcut
        have hq := hq.symm
        subst hq
        go_upto_if 154 with fail
        go_cut [31] from 153 to 154 (fun x wx => x = .string (dflt a2 cssB) ∧ wx = w3)
        case first =>
          cases hz : a2.toList.isEmpty
          · have HZ := Lib.hid hz
            go_wp2
            go_meet
            exact ⟨by unfold dflt; rw [HZ.out]; rfl, rfl⟩
          · have HZ := Lib.hid hz
            go_wp2
            go_meet
            exact ⟨by unfold dflt; rw [HZ.out]; rfl, rfl⟩
        case rest =>
          obtain ⟨rfl, hq⟩ := hcut
          have hq := hq.symm
          subst hq
          go_upto_region 32 with fail
          obtain ⟨hq, hcell1⟩ : E1 = .slice (some ⟨g1, 0, none⟩) 1 1 ∧ w3.cell? ⟨g1, 0, none⟩ = some (.string eB) := by
            constructor
            · rcases HE3.out w3 (OFr.refl _ _) with ⟨_, h⟩ | ⟨h, _⟩
              · rw [h, HS.out]
              · exact absurd h (by decide)
            · rcases TmRel.stay HE.out b HBB.out w3 (HW2.out.trans HF3.out) with ⟨h, _⟩ | ⟨_, _, g, h1, h2⟩
              · exact absurd H2.out h
              · injection h1 with h1 _ _
                injection h1 with h1
                injection h1 with h1
                rw [h1]
                exact h2.cell 0
          subst hq
          obtain ⟨hq, hcell2⟩ : C1 = .slice (some ⟨g2, 0, none⟩) 1 1 ∧ w3.cell? ⟨g2, 0, none⟩ = some (.string cB) := by
            constructor
            · rcases HC3.out w3 (OFr.refl _ _) with ⟨_, h⟩ | ⟨h, _⟩
              · rw [h, HS.out]
              · exact absurd h (by decide)
            · rcases TmRel.stay HC.out b HBB.out w3 (HW2.out.trans HF3.out) with ⟨h, _⟩ | ⟨_, _, g, h1, h2⟩
              · exact absurd H2.out h
              · injection h1 with h1 _ _
                injection h1 with h1
                injection h1 with h1
                rw [h1]
                exact h2.cell 0
          subst hq
          obtain ⟨hq, hcell3⟩ : A1 = .slice (some ⟨g3, 0, none⟩) 1 1 ∧ w3.cell? ⟨g3, 0, none⟩ = some (.string aB) := by
            constructor
            · rcases HA3.out w3 (OFr.refl _ _) with ⟨_, h⟩ | ⟨h, _⟩
              · rw [h, HS.out]
              · exact absurd h (by decide)
            · rcases TmRel.stay HA.out b HBB.out w3 (HW2.out.trans HF3.out) with ⟨h, _⟩ | ⟨_, _, g, h1, h2⟩
              · exact absurd H2.out h
              · injection h1 with h1 _ _
                injection h1 with h1
                injection h1 with h1
                rw [h1]
                exact h2.cell 0
          subst hq
          unfold eB at hcell1
          unfold cB at hcell2
          unfold aB at hcell3
          have HBEL : Hid (Below w.heap.size w w3) := Lib.hid (below_none (new_grown (new_grown HG.out HW2.out HBW.out) HF3.out HBW.out))
          have hl3 := LRel.stay HL.out b HBB.out w3 (HW2.out.trans HF3.out)
          have hm3 := HM3.out w3 (OFr.refl _ _)
          rw [HS.out] at hm3
          dsimp only at hm3
          rcases hl3 with ⟨h0, hM⟩ | ⟨h0, g, hM, hmp⟩ | ⟨h0, g, hM, hmp⟩
          · have k0 : (a0 % 3 == 0) = true := by rw [h0]; rfl
            have k1 : (a0 % 3 == 1) = false := by rw [h0]; rfl
            have k2 : (a0 % 3 == 2) = false := by rw [h0]; rfl
            clear h0
            obtain ⟨g, rfl, hmp⟩ : ∃ g, M1 = .map (some g) ∧ MapIs w3 g 13 D13 := by
              rcases hm3 with ⟨h, _⟩ | ⟨_, g, h1, h2⟩
              · exact absurd (by rw [hM]) h
              · exact ⟨g, h1, h2⟩
            have HMP := Lib.hid hmp
            clear hm3 hM hmp
            go_wp2_with (first | (go_at_call 13; refine (id_any g w3 HMP.out).mono ?_; rintro e wz ⟨rfl, rfl⟩))
            go_ret
            exact ⟨rfl, HBEL.out⟩
          · have k0 : (a0 % 3 == 0) = false := by rw [h0]; rfl
            have k1 : (a0 % 3 == 1) = true := by rw [h0]; rfl
            have k2 : (a0 % 3 == 2) = false := by rw [h0]; rfl
            clear h0
            obtain rfl : M1 = .map (some g) := by
              rcases hm3 with ⟨_, h⟩ | ⟨h, _⟩
              · rw [h, hM]
              · rw [hM] at h; cases h
            have hlen := hmp.len Try.underlying46 3
            rw [show Maps.size (DataW.map [] : DataW Unit) = 0 from rfl] at hlen
            have heq : ∀ W : World, (binOp BinOp.eql 46 (.map (some g)) (.map none)).run Try.prog W = .ok (.bool false) W := fun W => by kernel_rfl
            have HMP := Lib.hid hmp
            clear hm3 hM hmp
            go_wp2_with fail
            go_ret
            exact ⟨rfl, HBEL.out⟩
          · have k0 : (a0 % 3 == 0) = false := by rw [h0]; rfl
            have k1 : (a0 % 3 == 1) = false := by rw [h0]; rfl
            have k2 : (a0 % 3 == 2) = true := by rw [h0]; rfl
            clear h0
            obtain rfl : M1 = .map (some g) := by
              rcases hm3 with ⟨_, h⟩ | ⟨h, _⟩
              · rw [h, hM]
              · rw [hM] at h; cases h
            have hlen := hmp.len Try.underlying46 3
            rw [show Maps.size D1 = 1 by kernel_rfl] at hlen
            obtain ⟨v, hrun, hv⟩ := mp_look hmp ⟨#[46, 122, 122]⟩ (by decide)
            obtain rfl : v = 15 := answer_uniq hv (by unfold answer; kernel_rfl)
            rw [show has D1 (.string (⟨#[46, 122, 122]⟩ : ByteArray).data.toList) = true by kernel_rfl] at hrun
            have heq : ∀ W : World, (binOp BinOp.eql 46 (.map (some g)) (.map none)).run Try.prog W = .ok (.bool false) W := fun W => by kernel_rfl
            have HMP := Lib.hid hmp
            clear hm3 hM hmp hv
            go_wp2_with fail
            go_ret
            exact ⟨rfl, HBEL.out⟩
  · obtain ⟨rfl, G1, d1, rfl⟩ : n = 0 ∧ ∃ A c, E = .slice A 0 c := by
      rcases HE.out with ⟨_, h, h'⟩ | ⟨h, _⟩
      · exact ⟨h, h'⟩
      · exact absurd h h2
    obtain ⟨G2, d2, rfl⟩ : ∃ A c, C = .slice A 0 c := by
      rcases HC.out with ⟨_, h, h'⟩ | ⟨h, _⟩
      · exact h'
      · exact absurd h h2
    obtain ⟨G3, d3, rfl⟩ : ∃ A' c, A = .slice A' 0 c := by
      rcases HA.out with ⟨_, h, h'⟩ | ⟨h, _⟩
      · exact h'
      · exact absurd h h2
    have H2 := Lib.hid h2
    have e2 : (a3 % 3 == 2) = false := by simpa using h2
    clear h2
    obtain ⟨S, hS⟩ : ∃ S : OptSt, S = ⟨a1, a2, .map M, .slice G1 0 d1, .slice G2 0 d2, .slice G3 0 d3, f, c, o, m, cm, a4, false, a10 % 3⟩ := ⟨_, rfl⟩
    rw [← hS] at HO0
    have HAP := Lib.hid (zz_ap b S M (by rw [hS]) G1 G2 G3 0 0 0 d1 d2 d3 (by rw [hS]) (by rw [hS]) (by rw [hS]) w2 HO0.out)
    have HS := Lib.hid hS
    clear hS
    go_upto_region 7 with (go_at_call 7; refine HAP.out.mono ?_; rintro e w3 ⟨M1, E1, C1, A1, rfl, ho, hf, hm, he, hc, ha⟩; have HO3 := Lib.hid ho; have HF3 := Lib.hid hf; have HM3 := Lib.hid hm; have HE3 := Lib.hid he; have HC3 := Lib.hid hc; have HA3 := Lib.hid ha; clear ho hf hm he hc ha)
    clear HAP
    obtain ⟨F, hF⟩ : ∃ F : OptSt, F = S.fin M1 E1 C1 A1 := ⟨_, rfl⟩
    rw [← hF] at HO3
    obtain ⟨ffo, ffm, ffcm, ffjs, ffcss, ffmi, ffpr, ffpl, ffM, ffE, ffC, ffA, fff, ffc⟩ := fin_fields S M1 E1 C1 A1
    rw [← hF] at ffo ffm ffcm ffjs ffcss ffmi ffpr ffpl ffM ffE ffC ffA fff ffc
    rw [HS.out] at ffo ffm ffcm ffjs ffcss ffmi ffpr ffpl fff ffc
    have HFF := Lib.hid fff; have HFC := Lib.hid ffc
    have c25 := HO3.out.c25; have c26 := HO3.out.c26; have c30 := HO3.out.c30; have c39 := HO3.out.c39; have c40 := HO3.out.c40; have c41 := HO3.out.c41; have c59 := HO3.out.c59; have c60 := HO3.out.c60; have c61 := HO3.out.c61; have c62 := HO3.out.c62; have c64 := HO3.out.c64; have c76 := HO3.out.c76; have c78 := HO3.out.c78; have c97 := HO3.out.c97
    rw [ffjs] at c25; rw [ffcss] at c26; rw [ffM] at c30; rw [ffE] at c39; rw [ffC] at c40; rw [ffA] at c41
    rw [ffo, ← impl_U, ← or64] at c61
    rw [ffm, ← impl_U, ← or64] at c62
    rw [ffcm] at c64
    rw [ffmi] at c76
    rw [ffpr] at c78
    rw [ffpl] at c97
    dsimp only at c25 c26 c61 c62 c64 c76 c78 c97
    clear ffo ffm ffcm ffjs ffcss ffmi ffpr ffpl ffM ffE ffC ffA fff ffc hF
    have IMX := Lib.hid (impl_any o w3)
    have PLX := Lib.hid (plat_any a10 w10.1 w10.2 w3)
    go_upto_if 95 with (first | (go_at_call 11; refine PLX.out.mono ?_; rintro e wz ⟨rfl, rfl⟩) | (go_at_call 12; refine IMX.out.mono ?_; rintro e wz ⟨rfl, rfl⟩))
    have g0 : (((o.toNat : Int)) != (o.toNat : Int)) = false := by simp
    go_cut [26, 29] from 96 to 105 (fun x y wx => x = .int .u64 (F.f.toNat : Int) ∧ y = .int .u16 (F.c.toNat : Int) ∧ wx = w3)
    case first =>
      by_cases hp : a10 % 3 = 0
      · have hp' : (a10 % 3 != 0) = false := by rw [hp]; rfl
        have HP := Lib.hid hp'
        clear hp
        go_wp2
        go_meet
        refine ⟨?_, ?_, rfl⟩
        · rw [HFF.out, impl_U, or64]; rw [HP.out]; rfl
        · rw [HFC.out]; rw [HP.out]; rfl
      · have hp' : (a10 % 3 != 0) = true := by simpa using hp
        have HP := Lib.hid hp'
        clear hp
        have hi1 : (68719476736 : Int) = (IS.toNat : Int) := by kernel_rfl
        have hi2 : (64 : Int) = (IY.toNat : Int) := by kernel_rfl
        have b1 : (bits BinOp.and IntKind.u64 (bits BinOp.or IntKind.u64 (m.toNat : Int) ((impl o).toNat : Int)) 68719476736 == 0) = !(meets (m ||| UbO o) IS) := by rw [or64, hi1, and64, eq0, impl_U]
        have b2 : (bits BinOp.and IntKind.u16 (cm.toNat : Int) 64 == 0) = !(meets cm IY) := by rw [hi2, and16, eq0]
        have HI1 := Lib.hid hi1; have HI2 := Lib.hid hi2
        clear hi1 hi2
        cases ha : meets (m ||| UbO o) IS
        · have HA' := Lib.hid ha
          rw [ha] at b1
          clear ha
          cases hb : meets cm IY
          · have HB' := Lib.hid hb
            rw [hb] at b2
            clear hb
            go_wp2
            go_meet
            refine ⟨?_, ?_, rfl⟩
            · rw [HFF.out, impl_U, or64, HI1.out, or64]; rw [HP.out, HA'.out]; rfl
            · rw [HFC.out, HI2.out, or16]; rw [HP.out, HB'.out]; rfl
          · have HB' := Lib.hid hb
            rw [hb] at b2
            clear hb
            go_wp2
            go_meet
            refine ⟨?_, ?_, rfl⟩
            · rw [HFF.out, impl_U, or64, HI1.out, or64]; rw [HP.out, HA'.out]; rfl
            · rw [HFC.out]; rw [HP.out, HB'.out]; rfl
        · have HA' := Lib.hid ha
          rw [ha] at b1
          clear ha
          cases hb : meets cm IY
          · have HB' := Lib.hid hb
            rw [hb] at b2
            clear hb
            go_wp2
            go_meet
            refine ⟨?_, ?_, rfl⟩
            · rw [HFF.out, impl_U, or64]; rw [HP.out, HA'.out]; rfl
            · rw [HFC.out, HI2.out, or16]; rw [HP.out, HB'.out]; rfl
          · have HB' := Lib.hid hb
            rw [hb] at b2
            clear hb
            go_wp2
            go_meet
            refine ⟨?_, ?_, rfl⟩
            · rw [HFF.out, impl_U, or64]; rw [HP.out, HA'.out]; rfl
            · rw [HFC.out]; rw [HP.out, HB'.out]; rfl
    case rest =>
      obtain ⟨rfl, rfl, hq⟩ := hcut
      have hq := hq.symm
      subst hq
      go_upto_if 151 with fail
      go_cut [30] from 150 to 151 (fun x wx => x = .string (dflt a1 jsB) ∧ wx = w3)
      case first =>
        cases hz : a1.toList.isEmpty
        · have HZ := Lib.hid hz
          go_wp2
          go_meet
          exact ⟨by unfold dflt; rw [HZ.out]; rfl, rfl⟩
        · have HZ := Lib.hid hz
          go_wp2
          go_meet
          exact ⟨by unfold dflt; rw [HZ.out]; rfl, rfl⟩
      case rest =>
        obtain ⟨rfl, hq⟩ := hcut
        have hq := hq.symm
        subst hq
        go_upto_if 154 with fail
        go_cut [31] from 153 to 154 (fun x wx => x = .string (dflt a2 cssB) ∧ wx = w3)
        case first =>
          cases hz : a2.toList.isEmpty
          · have HZ := Lib.hid hz
            go_wp2
            go_meet
            exact ⟨by unfold dflt; rw [HZ.out]; rfl, rfl⟩
          · have HZ := Lib.hid hz
            go_wp2
            go_meet
            exact ⟨by unfold dflt; rw [HZ.out]; rfl, rfl⟩
        case rest =>
          obtain ⟨rfl, hq⟩ := hcut
          have hq := hq.symm
          subst hq
          go_upto_region 32 with fail
          have TE1 : Hid (Tm2 E1 dotS 1 slaB 2 w3) := Lib.hid (by
            rcases HE3.out w3 (OFr.refl _ _) with ⟨h, _⟩ | ⟨_, h⟩
            · exact absurd rfl h
            · exact h)
          have TC1 : Hid (Tm2 C1 dotS 2 dashB 3 w3) := Lib.hid (by
            rcases HC3.out w3 (OFr.refl _ _) with ⟨h, _⟩ | ⟨_, h⟩
            · exact absurd rfl h
            · exact h)
          have TA1 : Hid (Tm2 A1 dotS 2 dashB 3 w3) := Lib.hid (by
            rcases HA3.out w3 (OFr.refl _ _) with ⟨h, _⟩ | ⟨_, h⟩
            · exact absurd rfl h
            · exact h)
          have HBEL : Hid (Below w.heap.size w w3) := Lib.hid (below_none (new_grown (new_grown HG.out HW2.out HBW.out) HF3.out HBW.out))
          have hl3 := LRel.stay HL.out b HBB.out w3 (HW2.out.trans HF3.out)
          have hm3 := HM3.out w3 (OFr.refl _ _)
          rw [HS.out] at hm3
          dsimp only at hm3
          rcases hl3 with ⟨h0, hM⟩ | ⟨h0, g, hM, hmp⟩ | ⟨h0, g, hM, hmp⟩
          · have k0 : (a0 % 3 == 0) = true := by rw [h0]; rfl
            have k1 : (a0 % 3 == 1) = false := by rw [h0]; rfl
            have k2 : (a0 % 3 == 2) = false := by rw [h0]; rfl
            clear h0
            obtain ⟨g, rfl, hmp⟩ : ∃ g, M1 = .map (some g) ∧ MapIs w3 g 13 D13 := by
              rcases hm3 with ⟨h, _⟩ | ⟨_, g, h1, h2⟩
              · exact absurd (by rw [hM]) h
              · exact ⟨g, h1, h2⟩
            have HMP := Lib.hid hmp
            clear hm3 hM hmp
            go_wp2_with (first | (go_at_call 13; refine (id_any g w3 HMP.out).mono ?_; rintro e wz ⟨rfl, rfl⟩) | (go_at_call 14; refine (dt_any E1 C1 A1 w3 TE1.out TC1.out TA1.out).mono ?_; rintro e wz ⟨rfl, rfl⟩))
            go_ret
            exact ⟨rfl, HBEL.out⟩
          · have k0 : (a0 % 3 == 0) = false := by rw [h0]; rfl
            have k1 : (a0 % 3 == 1) = true := by rw [h0]; rfl
            have k2 : (a0 % 3 == 2) = false := by rw [h0]; rfl
            clear h0
            obtain rfl : M1 = .map (some g) := by
              rcases hm3 with ⟨_, h⟩ | ⟨h, _⟩
              · rw [h, hM]
              · rw [hM] at h; cases h
            have hlen := hmp.len Try.underlying46 3
            rw [show Maps.size (DataW.map [] : DataW Unit) = 0 from rfl] at hlen
            have heq : ∀ W : World, (binOp BinOp.eql 46 (.map (some g)) (.map none)).run Try.prog W = .ok (.bool false) W := fun W => by kernel_rfl
            have HMP := Lib.hid hmp
            clear hm3 hM hmp
            go_wp2_with (first | (go_at_call 14; refine (dt_any E1 C1 A1 w3 TE1.out TC1.out TA1.out).mono ?_; rintro e wz ⟨rfl, rfl⟩))
            go_ret
            exact ⟨rfl, HBEL.out⟩
          · have k0 : (a0 % 3 == 0) = false := by rw [h0]; rfl
            have k1 : (a0 % 3 == 1) = false := by rw [h0]; rfl
            have k2 : (a0 % 3 == 2) = true := by rw [h0]; rfl
            clear h0
            obtain rfl : M1 = .map (some g) := by
              rcases hm3 with ⟨_, h⟩ | ⟨h, _⟩
              · rw [h, hM]
              · rw [hM] at h; cases h
            have hlen := hmp.len Try.underlying46 3
            rw [show Maps.size D1 = 1 by kernel_rfl] at hlen
            obtain ⟨v, hrun, hv⟩ := mp_look hmp ⟨#[46, 122, 122]⟩ (by decide)
            obtain rfl : v = 15 := answer_uniq hv (by unfold answer; kernel_rfl)
            rw [show has D1 (.string (⟨#[46, 122, 122]⟩ : ByteArray).data.toList) = true by kernel_rfl] at hrun
            have heq : ∀ W : World, (binOp BinOp.eql 46 (.map (some g)) (.map none)).run Try.prog W = .ok (.bool false) W := fun W => by kernel_rfl
            have HMP := Lib.hid hmp
            clear hm3 hM hmp hv
            go_wp2_with (first | (go_at_call 14; refine (dt_any E1 C1 A1 w3 TE1.out TC1.out TA1.out).mono ?_; rintro e wz ⟨rfl, rfl⟩))
            go_ret
            exact ⟨rfl, HBEL.out⟩

/-! ### THE ROW's STEP -/
set_option maxRecDepth 100000 in
theorem lifted (os : Os) (started : os.Started) (H : Type) (enc : TypeId × Value → H) :
    ReturnsInHanded {} Try.checked os 4 .any (Rows.fnApplyOptionDefaultsSpecSpec.pre6 enc Try.prog Try.f4 Rows.fnApplyOptionDefaultsSpecRow.domain false) (Rows.fnApplyOptionDefaultsSpecSpec.post enc Try.prog Try.f4 false true false false) := by
  refine returnsInHanded_of_change (C := Try.checked) own started (by kernel_rfl) Try.func4
    (ChangeSpec.witness6 (enc := enc) (C := Try.checked) false ⟨#[], #[.int .u8 0, .string ByteArray.empty, .string ByteArray.empty, .int .u8 0, .bool false, .int .u64 0, .int .u64 0, .int .u64 0, .int .u16 0, .int .u16 0, .int .u8 0], []⟩ 8 (by kernel_rfl) (by kernel_rfl) (by kernel_rfl) (by kernel_rfl)) ?_
  intro W base args ds gs before hval0 hW hcnd _
  have hval : ∀ (j : Nat) t v, Try.f4.params[j]? = some t → args[j]? = some v → Value.okWide Try.prog W .any base t v := hval0
  have hW' := hW
  obtain ⟨p, q, hA0, hV, rfl, hfz, hnd⟩ := hW
  have hA : DataW.TrodAll enc Try.prog W 0 (fun _ => true) true Try.f4.params.toList args.toList ds p := hA0
  rw [Try.params4] at hA hval
  obtain ⟨v0, vs0, d0, ds0, p0, q0, hargs, rfl, rfl, h0, r0⟩ := trodAll_cons hA
  obtain ⟨v1, vs1, d1, ds1, p1, q1, rfl, rfl, rfl, h1, r1⟩ := trodAll_cons r0
  obtain ⟨v2, vs2, d2, ds2, p2, q2, rfl, rfl, rfl, h2, r2⟩ := trodAll_cons r1
  obtain ⟨v3, vs3, d3, ds3, p3, q3, rfl, rfl, rfl, h3, r3⟩ := trodAll_cons r2
  obtain ⟨v4, vs4, d4, ds4, p4, q4, rfl, rfl, rfl, h4, r4⟩ := trodAll_cons r3
  obtain ⟨v5, vs5, d5, ds5, p5, q5, rfl, rfl, rfl, h5, r5⟩ := trodAll_cons r4
  obtain ⟨v6, vs6, d6, ds6, p6, q6, rfl, rfl, rfl, h6, r6⟩ := trodAll_cons r5
  obtain ⟨v7, vs7, d7, ds7, p7, q7, rfl, rfl, rfl, h7, r7⟩ := trodAll_cons r6
  obtain ⟨v8, vs8, d8, ds8, p8, q8, rfl, rfl, rfl, h8, r8⟩ := trodAll_cons r7
  obtain ⟨v9, vs9, d9, ds9, p9, q9, rfl, rfl, rfl, h9, r9⟩ := trodAll_cons r8
  obtain ⟨v10, vs10, d10, ds10, p10, q10, rfl, rfl, rfl, h10, r10⟩ := trodAll_cons r9
  obtain ⟨rfl, rfl, rfl⟩ := trodAll_nil r10
  obtain rfl : args = #[v0, v1, v2, v3, v4, v5, v6, v7, v8, v9, v10] := by cases args; simp_all
  obtain ⟨rfl, rfl⟩ := trodVars_none hV
  have k0 := h0
  have lt0 : ∀ x ∈ p0, x.block < W.heap.size := by obtain ⟨m, hm⟩ := k0; exact DataW.trod_lt m _ _ _ hm
  have k1 := h1
  have lt1 : ∀ x ∈ p1, x.block < W.heap.size := by obtain ⟨m, hm⟩ := k1; exact DataW.trod_lt m _ _ _ hm
  have k2 := h2
  have lt2 : ∀ x ∈ p2, x.block < W.heap.size := by obtain ⟨m, hm⟩ := k2; exact DataW.trod_lt m _ _ _ hm
  have k3 := h3
  have lt3 : ∀ x ∈ p3, x.block < W.heap.size := by obtain ⟨m, hm⟩ := k3; exact DataW.trod_lt m _ _ _ hm
  have k4 := h4
  have lt4 : ∀ x ∈ p4, x.block < W.heap.size := by obtain ⟨m, hm⟩ := k4; exact DataW.trod_lt m _ _ _ hm
  have k5 := h5
  have lt5 : ∀ x ∈ p5, x.block < W.heap.size := by obtain ⟨m, hm⟩ := k5; exact DataW.trod_lt m _ _ _ hm
  have k6 := h6
  have lt6 : ∀ x ∈ p6, x.block < W.heap.size := by obtain ⟨m, hm⟩ := k6; exact DataW.trod_lt m _ _ _ hm
  have k7 := h7
  have lt7 : ∀ x ∈ p7, x.block < W.heap.size := by obtain ⟨m, hm⟩ := k7; exact DataW.trod_lt m _ _ _ hm
  have k8 := h8
  have lt8 : ∀ x ∈ p8, x.block < W.heap.size := by obtain ⟨m, hm⟩ := k8; exact DataW.trod_lt m _ _ _ hm
  have k9 := h9
  have lt9 : ∀ x ∈ p9, x.block < W.heap.size := by obtain ⟨m, hm⟩ := k9; exact DataW.trod_lt m _ _ _ hm
  have k10 := h10
  have lt10 : ∀ x ∈ p10, x.block < W.heap.size := by obtain ⟨m, hm⟩ := k10; exact DataW.trod_lt m _ _ _ hm
  obtain ⟨a0, rfl, rfl, rfl, w0⟩ := open_int Try.underlying5 (hval 0 5 v0 rfl rfl) h0
  obtain ⟨a1, rfl, rfl, rfl, w1⟩ := open_string Try.underlying9 (hval 1 9 v1 rfl rfl) h1
  obtain ⟨a2, rfl, rfl, rfl, w2⟩ := open_string Try.underlying9 (hval 2 9 v2 rfl rfl) h2
  obtain ⟨a3, rfl, rfl, rfl, w3⟩ := open_int Try.underlying5 (hval 3 5 v3 rfl rfl) h3
  obtain ⟨a4, rfl, rfl, rfl⟩ := open_bool Try.underlying4 (hval 4 4 v4 rfl rfl) h4
  obtain ⟨a5, rfl, rfl, rfl, w5⟩ := open_int Try.underlying22 (hval 5 22 v5 rfl rfl) h5
  obtain ⟨a6, rfl, rfl, rfl, w6⟩ := open_int Try.underlying22 (hval 6 22 v6 rfl rfl) h6
  obtain ⟨a7, rfl, rfl, rfl, w7⟩ := open_int Try.underlying22 (hval 7 22 v7 rfl rfl) h7
  obtain ⟨a8, rfl, rfl, rfl, w8⟩ := open_int Try.underlying23 (hval 8 23 v8 rfl rfl) h8
  obtain ⟨a9, rfl, rfl, rfl, w9⟩ := open_int Try.underlying23 (hval 9 23 v9 rfl rfl) h9
  obtain ⟨a10, rfl, rfl, rfl, w10⟩ := open_int Try.underlying5 (hval 10 5 v10 rfl rfl) h10
  clear hA0 hval0
  refine (walk a0 a1 a2 a3 a4 a5 a6 a7 a8 a9 a10 W w0 w1 w2 w3 w5 w6 w7 w8 w9 w10 ).mono fun e W' ⟨he, bel⟩ => ?_
  subst he
  exact ⟨_, rfl, _, _, _, [], _, [], hW', trodAll_mk1 (shut_bool Try.underlying4 _), (trodAll_cons_mk (Below.trod laidOut (by kernel_rfl) (of_decide_eq_true (by kernel_rfl)) k0 bel lt0) (trodAll_cons_mk (Below.trod laidOut (by kernel_rfl) (of_decide_eq_true (by kernel_rfl)) k1 bel lt1) (trodAll_cons_mk (Below.trod laidOut (by kernel_rfl) (of_decide_eq_true (by kernel_rfl)) k2 bel lt2) (trodAll_cons_mk (Below.trod laidOut (by kernel_rfl) (of_decide_eq_true (by kernel_rfl)) k3 bel lt3) (trodAll_cons_mk (Below.trod laidOut (by kernel_rfl) (of_decide_eq_true (by kernel_rfl)) k4 bel lt4) (trodAll_cons_mk (Below.trod laidOut (by kernel_rfl) (of_decide_eq_true (by kernel_rfl)) k5 bel lt5) (trodAll_cons_mk (Below.trod laidOut (by kernel_rfl) (of_decide_eq_true (by kernel_rfl)) k6 bel lt6) (trodAll_cons_mk (Below.trod laidOut (by kernel_rfl) (of_decide_eq_true (by kernel_rfl)) k7 bel lt7) (trodAll_cons_mk (Below.trod laidOut (by kernel_rfl) (of_decide_eq_true (by kernel_rfl)) k8 bel lt8) (trodAll_cons_mk (Below.trod laidOut (by kernel_rfl) (of_decide_eq_true (by kernel_rfl)) k9 bel lt9) (trodAll_cons_mk (Below.trod laidOut (by kernel_rfl) (of_decide_eq_true (by kernel_rfl)) k10 bel lt10) trodAll_mk0))))))))))), rfl, bel.frame _, fun h => by cases h⟩

theorem over : Rows.fnApplyOptionDefaultsSpecRow.holds Try.pinned (OpenSpec.ofChange Rows.fnApplyOptionDefaultsSpecSpec) :=
  OpenClaim.holds_of_wide 4 Try.f4 rfl rfl rfl rfl rfl rfl rfl ⟨rfl, rfl, rfl, rfl, rfl⟩ rfl rfl rfl rfl rfl (by kernel_rfl) Try.func4 (by kernel_rfl)
    (of_decide_eq_true (by kernel_rfl)) (by unfold Func.isWrapper; first | (rw [if_pos (by decide +kernel)]; kernel_rfl) | (rw [if_neg (by decide +kernel)]; exact ⟨rfl, rfl⟩))
    (fun os started H enc _ => lifted os started H enc)

theorem proved : Rows.FnApplyOptionDefaultsSpecSaid := over
#print axioms proved
end Go.Proofs.Ytjellcldojmpcaa.fnApplyOptionDefaultsSpec