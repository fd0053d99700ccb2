/-
  PROVED: for all loader and template selectors, extensions, feature sets, masks and platforms the law FnApplyOptionDefaultsIdempotent returns true. Conditions: none beyond the form's own reach.
-/
import Derived.Test.YtjellcldojmpcaaRows
import Derived.WalkKit
import Derived.ProofKit
import Derived.BigQuiet
import Derived.Deep.QuietTactic
import Derived.Deep.CutRange
import Derived.Deep.WholeRow
import Derived.Outline
import Derived.LoopTactic
import Derived.WalkSpells
import Derived.Deep.Light
import Derived.Test.YtjellcldojmpcaaOpi
import Derived.Test.YtjellcldojmpcaaOps
import Derived.OpenShut
import Derived.ShutString
import Derived.ChangeOld
import Derived.Below
import Derived.Carry
namespace Go.Proofs.Ytjellcldojmpcaa.fnApplyOptionDefaultsIdempotent
open Go.Maps Go.ChangeShapes Go.WideShapes Go.ChangeAt Go.RowKit
open Go.ChangeMaps (open_string shut_string)
set_option linter.unusedVariables false
set_option linter.unusedSimpArgs false

theorem own : ownKnob Try.prog.godebug = none := by kernel_rfl
theorem laidOut : laidOutB Try.pinned.checked.prog = true := by kernel_rfl



theorem wpList_store_new {P : Program} (w : World) {ops : Array Oper} {rest : List Oper} {o : Oper} {a : Act} {Q : Exit → Act → World → Prop} (hgd : o.guard = none) (ty : TypeId) (x y : Operand) (ho : o.op = .store ty x y)
    (cells old : Array Value) (hx : a.eval x = .pointer (some ⟨w.heap.size, 0, none⟩)) (hy : a.eval y = .agg cells) (hi : (P.info? ty).map (·.size) = some cells.size)
    (hold : old.size = cells.size) (h1 : cells.all (·.oneCell') = true)
    (h : wpList P ops Q rest (a.put o.dst undef) (w.alloc (.cells cells ty))) : wpList P ops Q (o :: rest) a (w.alloc (.cells old ty)) :=
  wpList_plain hgd fun _ hK => by
    unfold Oper.wp execOp
    simp only [ho, hx, hy, Instr.storeAt, Instr.sureAddr, Sem.run_bind, Sem.run_pure, Result.andThen_ok, run_storeVar_new (P := P) w ty old cells hi hold h1]
    exact hK _ _ h
set_option maxRecDepth 100000 in
theorem zb (x0 x3 x5 x6 x7 x8 x9 x10 : Int) (x4 : Bool) (s t : ByteArray) (w : World) (hn : s.size ≤ maxLen) (hm : t.size ≤ maxLen) :
    Calls Try.prog 5 #[.int .u8 x0, .string s, .string t, .int .u8 x3, .bool x4, .int .u64 x5, .int .u64 x6, .int .u64 x7, .int .u16 x8, .int .u16 x9, .int .u8 x10] w fun e w' => e = .returned (.bool (decide (s.size + t.size ≤ 1048576))) ∧ w = w' := by
  unfold maxLen at hn hm
  by_cases h1 : 1048576 < s.size
  · go_enter Try.func5, Try.ntmps5
    go_wp2
    go_ret
    exact ⟨ret_bool (by symm; simp; omega), rfl⟩
  · by_cases h2 : s.size + t.size ≤ 1048576
    · go_enter Try.func5, Try.ntmps5
      go_wp2
      go_ret
      exact ⟨ret_bool (by symm; simpa using h2), rfl⟩
    · by_cases h3 : 1048576 < t.size
      · go_enter Try.func5, Try.ntmps5
        go_wp2
        go_ret
        exact ⟨ret_bool (by symm; simp; omega), rfl⟩
      · go_enter Try.func5, Try.ntmps5
        go_wp2
        go_ret
        exact ⟨ret_bool (by symm; simp; omega), rfl⟩
theorem zz_ap (b : Nat) (S : OptSt) (mo : Option Nat) (hM : S.M = .map mo) (A1 A2 A3 : Option Addr) (n1 n2 n3 c1 c2 c3 : Nat) (hE : S.E = .slice A1 n1 c1) (hC : S.C = .slice A2 n2 c2) (hA : S.A = .slice A3 n3 c3) (w : World) (h : OptIs b S w) :
    Calls Try.prog 7 #[.pointer (some ⟨b, 0, none⟩)] w (ApPost b S n1 n2 n3 w) := by
  have HX := Lib.hid (ap_any b S mo hM A1 A2 A3 n1 n2 n3 c1 c2 c3 hE hC hA w h)
  clear hM hE hC hA h
  go_enter Try.func7, Try.ntmps7
  go_wp2_with (go_at_call 15; refine HX.out.mono ?_; rintro e w1 ⟨M, E, C, A, rfl, h⟩; have H := Lib.hid h; clear h)
  go_end0
  exact ⟨M, E, C, A, rfl, H.out⟩
theorem u64_bv (a : Int) (h : 0 ≤ a) (h' : a ≤ 18446744073709551615) : ∃ x : BitVec 64, a = (x.toNat : Int) := by
  obtain ⟨n, rfl⟩ := Int.eq_ofNat_of_zero_le h
  exact ⟨BitVec.ofNat 64 n, by rw [BitVec.toNat_ofNat, Nat.mod_eq_of_lt (by omega)]⟩
theorem u16_bv (a : Int) (h : 0 ≤ a) (h' : a ≤ 65535) : ∃ x : BitVec 16, a = (x.toNat : Int) := by
  obtain ⟨n, rfl⟩ := Int.eq_ofNat_of_zero_le h
  exact ⟨BitVec.ofNat 16 n, by rw [BitVec.toNat_ofNat, Nat.mod_eq_of_lt (by omega)]⟩
theorem fin_fields (S : OptSt) (M E C A : Value) : (S.fin M E C A).o = S.o ||| UbO S.o ∧ (S.fin M E C A).m = S.m ||| UbO S.o ∧ (S.fin M E C A).cm = S.cm ∧ (S.fin M E C A).js = dflt S.js jsB ∧ (S.fin M E C A).css = dflt S.css cssB ∧ (S.fin M E C A).mi = S.mi ∧ (S.fin M E C A).pr = (!S.mi) ∧ (S.fin M E C A).pl = S.pl ∧ (S.fin M E C A).M = M ∧ (S.fin M E C A).E = E ∧ (S.fin M E C A).C = C ∧ (S.fin M E C A).A = A ∧
    (S.fin M E C A).f = (bif S.pl != 0 then (bif meets (S.m ||| UbO S.o) IS then S.f ||| UbO S.o else S.f ||| UbO S.o ||| IS) else S.f ||| UbO S.o) ∧ (S.fin M E C A).c = (bif S.pl != 0 then (bif meets S.cm IY then S.c else S.c ||| IY) else S.c) := by
  unfold OptSt.fin
  rw [six_U]
  unfold OptSt.plat OptSt.add
  dsimp only
  cases (S.pl != 0) <;> exact ⟨rfl, rfl, rfl, rfl, rfl, rfl, rfl, rfl, rfl, rfl, rfl, rfl, rfl, rfl⟩
theorem below_none {w w' : World} (h : w.grownBy w' none) : Below w.heap.size w w' := ⟨h.os, h.tape, h.output, h.size, fun i hi => h.block i hi (by simp)⟩

theorem or_uu {n : Nat} (x u : BitVec n) : x ||| u ||| u = x ||| u := by
  apply BitVec.eq_of_getElem_eq; intro i hi; simp only [BitVec.getElem_or]; cases x[i] <;> cases u[i] <;> rfl
theorem or_usus {n : Nat} (x u s : BitVec n) : x ||| u ||| s ||| u ||| s = x ||| u ||| s := by
  apply BitVec.eq_of_getElem_eq; intro i hi; simp only [BitVec.getElem_or]; cases x[i] <;> cases u[i] <;> cases s[i] <;> rfl
theorem dflt_again (x d : ByteArray) (hd : d.toList.isEmpty = false) : dflt (dflt x d) d = dflt x d := by
  unfold dflt
  cases h : x.toList.isEmpty
  · show (bif x.toList.isEmpty then d else x) = x
    rw [h]; rfl
  · show (bif d.toList.isEmpty then d else d) = d
    rw [hd]; rfl
theorem st_ext {S T : OptSt} (h1 : S.js = T.js) (h2 : S.css = T.css) (h3 : S.M = T.M) (h4 : S.E = T.E) (h5 : S.C = T.C) (h6 : S.A = T.A) (h7 : S.f = T.f) (h8 : S.c = T.c) (h9 : S.o = T.o) (h10 : S.m = T.m) (h11 : S.cm = T.cm) (h12 : S.mi = T.mi) (h13 : S.pr = T.pr) (h14 : S.pl = T.pl) : S = T := by
  cases S; cases T; simp_all
theorem fin_again (S : OptSt) (M E C A : Value) : (S.fin M E C A).fin M E C A = S.fin M E C A := by
  obtain ⟨ho, hm, hcm, hjs, hcss, hmi, hpr, hpl, hM, hE, hC, hA, hf, hc⟩ := fin_fields S M E C A
  obtain ⟨ko, km, kcm, kjs, kcss, kmi, kpr, kpl, kM, kE, kC, kA, kf, kc⟩ := fin_fields (S.fin M E C A) M E C A
  have hU : UbO (S.fin M E C A).o = UbO S.o := by rw [ho, UbO_again]
  rw [hU] at ko km kf
  refine st_ext ?_ ?_ (kM.trans hM.symm) (kE.trans hE.symm) (kC.trans hC.symm) (kA.trans hA.symm) ?_ ?_ ?_ ?_ kcm kmi ?_ kpl
  · rw [kjs, hjs, dflt_again _ _ (by kernel_rfl)]
  · rw [kcss, hcss, dflt_again _ _ (by kernel_rfl)]
  · rw [kf, hpl, hm, or_uu, hf]
    cases (S.pl != 0)
    · exact or_uu _ _
    · cases meets (S.m ||| UbO S.o) IS
      · exact or_usus _ _ _
      · exact or_uu _ _
  · rw [kc, hpl, hcm, hc]
    cases (S.pl != 0)
    · rfl
    · cases meets S.cm IY
      · exact or_uu _ _
      · rfl
  · rw [ko, ho, or_uu]
  · rw [km, hm, or_uu]
  · rw [kpr, hmi, hpr]
/-- One row or two of templates, which stay. -/
def Keeps (b : Nat) (w : World) (v : Value) : Prop := ∃ (g n : Nat) (A : Nat → ByteArray) (P : Nat → Int), v = .slice (some ⟨g, 0, none⟩) n n ∧ 1 ≤ n ∧ n ≤ 4 ∧ g ≠ b ∧ g < w.heap.size ∧ Rows2 g n A P w
theorem keeps_tm1 {b : Nat} {w : World} {v : Value} {a : ByteArray} {K : Array Value} (h : Tm1 v a w) (hb : Blk w b 79 K) : Keeps b w v := by
  obtain ⟨g, rfl, h1⟩ := h
  refine ⟨g, 1, fun _ => a, fun _ => 0, rfl, by omega, by omega, fun e => h1.ne_ hb (by decide) e, h1.lt, fun i hi => ?_⟩
  obtain rfl : i = 0 := by omega
  exact ⟨h1.cell 0, h1.cell 1⟩
theorem keeps_tm2 {b : Nat} {w : World} {v : Value} {a c : ByteArray} {x y : Int} {K : Array Value} (h : Tm2 v a x c y w) (hb : Blk w b 79 K) : Keeps b w v := by
  obtain ⟨g, rfl, h1⟩ := h
  refine ⟨g, 2, fun i => if i = 0 then a else c, fun i => if i = 0 then x else y, rfl, by omega, by omega, fun e => h1.ne_ hb (by decide) e, h1.lt, fun i hi => ?_⟩
  have h2 : i = 0 ∨ i = 1 := by omega
  rcases h2 with rfl | rfl
  · exact ⟨h1.cell 0, h1.cell 1⟩
  · exact ⟨h1.cell 2, h1.cell 3⟩
def Ap1 (b : Nat) (S : OptSt) (w : World) (e : Ending) (w' : World) : Prop :=
  ∃ (g nD : Nat) (D : DataW Unit) (E C A : Value), e = .returned (.tuple #[]) ∧ OptIs b (S.fin (.map (some g)) E C A) w' ∧ OFr b w w' ∧ MapIs w' g nD D ∧ Keeps b w' E ∧ Keeps b w' C ∧ Keeps b w' A
theorem ap_first (b : Nat) (S : OptSt) (M : Option Nat) (hM : S.M = .map M) (ls ts : Int) (n : Nat) (w1 w2 : World) (hl : LRel ls M w1) (he : TmRel ts n S.E eB w1) (hc : TmRel ts n S.C cB w1) (ha : TmRel ts n S.A aB w1) (hb : w1.heap.size ≤ b) (h12 : OFr b w1 w2) (h : OptIs b S w2) :
    Calls Try.prog 7 #[.pointer (some ⟨b, 0, none⟩)] w2 (Ap1 b S w2) := by
  obtain ⟨A1, c1, hE⟩ : ∃ A c, S.E = .slice A n c := by
    rcases he with ⟨_, rfl, A, c, h⟩ | ⟨_, rfl, g, h, _⟩
    · exact ⟨A, c, h⟩
    · exact ⟨_, 1, h⟩
  obtain ⟨A2, c2, hC⟩ : ∃ A c, S.C = .slice A n c := by
    rcases hc with ⟨_, rfl, A, c, h⟩ | ⟨_, rfl, g, h, _⟩
    · exact ⟨A, c, h⟩
    · exact ⟨_, 1, h⟩
  obtain ⟨A3, c3, hA⟩ : ∃ A c, S.A = .slice A n c := by
    rcases ha with ⟨_, rfl, A, c, h⟩ | ⟨_, rfl, g, h, _⟩
    · exact ⟨A, c, h⟩
    · exact ⟨_, 1, h⟩
  refine (zz_ap b S M hM A1 A2 A3 n n n c1 c2 c3 hE hC hA w2 h).mono fun e w3 hp => ?_
  obtain ⟨M1, E1, C1, D1', rfl, ho, hf, hm, h1, h2, h3⟩ := hp
  have h13 := h12.trans hf
  obtain ⟨K, hK, _⟩ := ho
  have key : ∀ (v v1 : Value) (l a c : ByteArray) (x y : Int), TmRel ts n v l w1 → TRel n v v1 a x c y w3 → Keeps b w3 v1 := by
    intro v v1 l a c x y q1 q2
    rcases q2 with ⟨hn, rfl⟩ | ⟨_, q⟩
    · rcases TmRel.stay q1 b hb w3 h13 with ⟨_, h, _⟩ | ⟨_, _, q⟩
      · exact absurd h hn
      · exact keeps_tm1 q hK
    · exact keeps_tm2 q hK
  obtain ⟨g, nD, D, rfl, hmp⟩ : ∃ g nD D, M1 = .map (some g) ∧ MapIs w3 g nD D := by
    rcases hm w3 (OFr.refl _ _) with ⟨q, rfl⟩ | ⟨_, g, rfl, q⟩
    · rw [hM] at q ⊢
      rcases LRel.stay hl b hb w3 h13 with ⟨_, rfl⟩ | ⟨_, g, rfl, q1⟩ | ⟨_, g, rfl, q1⟩
      · exact absurd rfl q
      · exact ⟨g, _, _, rfl, q1⟩
      · exact ⟨g, _, _, rfl, q1⟩
    · exact ⟨g, _, _, rfl, q⟩
  exact ⟨g, nD, D, E1, C1, D1', rfl, ⟨K, hK, by assumption⟩, hf, hmp, key _ _ _ _ _ _ _ he (h1 w3 (OFr.refl _ _)), key _ _ _ _ _ _ _ hc (h2 w3 (OFr.refl _ _)), key _ _ _ _ _ _ _ ha (h3 w3 (OFr.refl _ _))⟩
theorem ap_again (b : Nat) (S : OptSt) (g : Nat) (E C A : Value) (w : World) (h : OptIs b (S.fin (.map (some g)) E C A) w) (hE : ∃ q n, E = .slice (some ⟨q, 0, none⟩) n n ∧ 1 ≤ n) (hC : ∃ q n, C = .slice (some ⟨q, 0, none⟩) n n ∧ 1 ≤ n) (hA : ∃ q n, A = .slice (some ⟨q, 0, none⟩) n n ∧ 1 ≤ n) :
    Calls Try.prog 7 #[.pointer (some ⟨b, 0, none⟩)] w (FixPost b (S.fin (.map (some g)) E C A) w) := by
  obtain ⟨ho, hm, hcm, hjs, hcss, hmi, hpr, hpl, eM, eE, eC, eA, hf, hc⟩ := fin_fields S (.map (some g)) E C A
  obtain ⟨q1, n1, h1, l1⟩ := hE
  obtain ⟨q2, n2, h2, l2⟩ := hC
  obtain ⟨q3, n3, h3, l3⟩ := hA
  refine (zz_ap b _ (some g) eM _ _ _ n1 n2 n3 _ _ _ (eE.trans h1) (eC.trans h2) (eA.trans h3) w h).mono fun e w3 hp => ?_
  obtain ⟨M1, E1, C1, D1', rfl, ho', hf', hm', k1, k2, k3⟩ := hp
  have em : M1 = .map (some g) := by
    rcases hm' w3 (OFr.refl _ _) with ⟨_, q⟩ | ⟨q, _⟩
    · rw [q, eM]
    · rw [eM] at q; cases q
  have ee : E1 = E := by
    rcases k1 w3 (OFr.refl _ _) with ⟨_, q⟩ | ⟨q, _⟩
    · rw [q, eE]
    · omega
  have ec : C1 = C := by
    rcases k2 w3 (OFr.refl _ _) with ⟨_, q⟩ | ⟨q, _⟩
    · rw [q, eC]
    · omega
  have ea : D1' = A := by
    rcases k3 w3 (OFr.refl _ _) with ⟨_, q⟩ | ⟨q, _⟩
    · rw [q, eA]
    · omega
  rw [em, ee, ec, ea, fin_again] at ho'
  exact ⟨rfl, ho', hf'⟩
def vlOf (D : DataW Unit) (k : ByteArray) : Int := match D.atKey (.string k.data.toList) (.lit (.int .u8 0)) with
  | .lit (.int .u8 v) => v
  | _ => 0
theorem vlOf_eq {D : DataW Unit} {k : ByteArray} {v : Int} (h : answer D k v) : v = vlOf D k := by unfold vlOf; unfold answer at h; rw [h]
theorem grown_below {w w' : World} (h : Below w.heap.size w w') : w.grownBy w' none := ⟨h.os, h.tape, h.output, h.size, fun i hi _ => h.block i hi⟩
theorem Rows2.keep {g n : Nat} {A : Nat → ByteArray} {P : Nat → Int} {w w' : World} (h : Rows2 g n A P w) (he : w'.heap[g]? = w.heap[g]?) : Rows2 g n A P w' := fun i hi => by
  have key : ∀ j u, w.cell? ⟨g, j, none⟩ = some u → w'.cell? ⟨g, j, none⟩ = some u := fun j u hj => by
    unfold World.cell? at hj ⊢
    simp only at hj ⊢
    rw [he]; exact hj
  exact ⟨key _ _ (h i hi).1, key _ _ (h i hi).2⟩
def AV (D : DataW Unit) (k : Nat) (K : Array Value) : Prop := K.size = 13 ∧ ∀ j, j < k → K[j]? = some (.int .u8 (vlOf D (kb j)))
def AH (D : DataW Unit) (k : Nat) (K : Array Value) : Prop := K.size = 13 ∧ ∀ j, j < k → K[j]? = some (.bool (has D (.string (kb j).data.toList)))
theorem AV.put {D : DataW Unit} {k : Nat} {K : Array Value} (h : AV D k K) (hk : k < 13) : AV D (k + 1) (K.setIfInBounds k (.int .u8 (vlOf D (kb k)))) := by
  refine ⟨by rw [Array.size_setIfInBounds]; exact h.1, fun j hj => ?_⟩
  by_cases e : j = k
  · subst e; rw [Array.getElem?_setIfInBounds_self_of_lt (by rw [h.1]; exact hk)]
  · rw [Array.getElem?_setIfInBounds_ne (fun h => e h.symm)]; exact h.2 j (by omega)
theorem AH.put {D : DataW Unit} {k : Nat} {K : Array Value} (h : AH D k K) (hk : k < 13) : AH D (k + 1) (K.setIfInBounds k (.bool (has D (.string (kb k).data.toList)))) := by
  refine ⟨by rw [Array.size_setIfInBounds]; exact h.1, fun j hj => ?_⟩
  by_cases e : j = k
  · subst e; rw [Array.getElem?_setIfInBounds_self_of_lt (by rw [h.1]; exact hk)]
  · rw [Array.getElem?_setIfInBounds_ne (fun h => e h.symm)]; exact h.2 j (by omega)
theorem blk_some {w : World} {g : Nat} {t : TypeId} {K : Array Value} (h : Blk w g t K) (hs : K.size = 13) (k : Nat) (hk : k < 13) : ∃ u, w.cell? ⟨g, k, none⟩ = some u :=
  ⟨K[k]'(by omega), (h.cell k).trans (Array.getElem?_eq_getElem (by omega))⟩
theorem map_run {w : World} {g n : Nat} {D : DataW Unit} (h : MapIs w g n D) (k : ByteArray) (hk : k.size ≤ maxLen) (q : Nat) :
    (Instr.lookup 46 (.map (some g)) (.string k) true).run Try.prog (w.drewN q) = .ok (.tuple #[.int .u8 (vlOf D k), .bool (has D (.string k.data.toList))]) (w.drewN q) := by
  obtain ⟨v, hrun, hv⟩ := mp_look (show MapIs (w.drewN q) g n D from h) k hk
  rw [vlOf_eq hv] at hrun
  exact hrun
/-! ### STEP 1: THE WALK -/
set_option maxHeartbeats 8000000 in
set_option maxRecDepth 100000 in
theorem walk (a0 : Int) (a1 : ByteArray) (a2 : ByteArray) (a3 : Int) (a4 : Bool) (a5 : Int) (a6 : Int) (a7 : Int) (a8 : Int) (a9 : Int) (a10 : Int) (w : World) (w0 : (Lit.int .u8 a0).wf = true) (w1 : a1.size ≤ maxLen) (w2 : a2.size ≤ maxLen) (w3 : (Lit.int .u8 a3).wf = true) (w5 : (Lit.int .u64 a5).wf = true) (w6 : (Lit.int .u64 a6).wf = true) (w7 : (Lit.int .u64 a7).wf = true) (w8 : (Lit.int .u16 a8).wf = true) (w9 : (Lit.int .u16 a9).wf = true) (w10 : (Lit.int .u8 a10).wf = true)  :
    Calls Try.prog 3 #[.int .u8 a0, .string a1, .string a2, .int .u8 a3, .bool a4, .int .u64 a5, .int .u64 a6, .int .u64 a7, .int .u16 a8, .int .u16 a9, .int .u8 a10] w fun e w' => e = .returned (.bool true) ∧ Below w.heap.size w w' := by
  simp [Lit.wf, IntKind.min, IntKind.max, IntKind.signed, IntKind.bits] at w0 w3 w5 w6 w7 w8 w9 w10
  obtain ⟨f, rfl⟩ := u64_bv a5 w5.1 w5.2
  obtain ⟨o, rfl⟩ := u64_bv a6 w6.1 w6.2
  obtain ⟨m, rfl⟩ := u64_bv a7 w7.1 w7.2
  obtain ⟨c, rfl⟩ := u16_bv a8 w8.1 w8.2
  obtain ⟨cm, rfl⟩ := u16_bv a9 w9.1 w9.2
  clear w5 w6 w7 w8 w9
  have HB1 := Lib.hid w1; have HB2 := Lib.hid w2
  have hm1 : a1.size ≤ 9223372036854775807 := by unfold maxLen at w1; omega
  have hm2 : a2.size ≤ 9223372036854775807 := by unfold maxLen at w2; omega
  clear w1 w2
  have HMO := Lib.hid (fun W => mo_any a0 a3 a10 w0 w3 w10 a1 a2 a4 f o m c cm W)
  by_cases hbig : a1.size + a2.size ≤ 1048576
  case neg =>
    have HB := Lib.hid (show decide (a1.size + a2.size ≤ 1048576) = false by simpa using hbig)
    go_enter Try.func3, Try.ntmps3
    go_wp2_with (go_at_call 5; refine (zb _ _ _ _ _ _ _ _ _ a1 a2 _ HB1.out HB2.out).mono ?_; rw [HB.out]; rintro e wz ⟨rfl, rfl⟩)
    go_ret
    exact ⟨rfl, Below.refl _ _⟩
  have HB := Lib.hid (show decide (a1.size + a2.size ≤ 1048576) = true by simpa using hbig)
  go_enter Try.func3, Try.ntmps3
  go_upto_region 5 with (go_at_call 5; refine (zb _ _ _ _ _ _ _ _ _ a1 a2 _ HB1.out HB2.out).mono ?_; rw [HB.out]; rintro e wz ⟨rfl, rfl⟩)
  have hz := zOpt_zero
  go_wp2_with (go_at_call 6; refine (HMO.out w).mono ?_)
  rintro e w1 ⟨M, E, C, A, n, K, rfl, hk, hl, he, hc, ha, hg⟩
  have HK := Lib.hid hk; have HL := Lib.hid hl; have HE := Lib.hid he; have HC := Lib.hid hc; have HA := Lib.hid ha; have HG := Lib.hid hg
  have hi : (Try.prog.info? 79).map (·.size) = some K.size := by rw [hk.sz]; exact infoO
  have hzs : zOpt.size = K.size := by rw [hk.sz]; exact zOpt_k.sz
  clear hk hl he hc ha hg HMO
  go_upto_region 6 with (refine wpList_store_new w1 rfl 79 (.tmp 23) (.tmp 90) rfl K zOpt rfl rfl hi hzs HK.out.one ?_)
  have HO0 : Hid (OptIs w1.heap.size ⟨a1, a2, .map M, E, C, A, f, c, o, m, cm, a4, false, a10 % 3⟩ (w1.alloc (.cells K 79))) := Lib.hid ⟨K, Blk.new w1 79 K, HK.out⟩
  clear hi hzs hz
  obtain ⟨b, hb⟩ : ∃ b, b = w1.heap.size := ⟨_, rfl⟩
  obtain ⟨w2, hw2⟩ : ∃ W : World, W = w1.alloc (.cells K 79) := ⟨_, rfl⟩
  rw [← hb, ← hw2] at HO0
  rw [← hb, ← hw2]
  have HW2 : Hid (OFr b w1 w2) := Lib.hid (by rw [hw2]; exact (OFr.refl _ _).alloc _)
  have HBB : Hid (w1.heap.size ≤ b) := Lib.hid (by omega)
  have HBW : Hid (w.heap.size ≤ b) := Lib.hid (by rw [hb]; exact HG.out.size)
  clear hb hw2
  obtain ⟨S, hS⟩ : ∃ S : OptSt, S = ⟨a1, a2, .map M, E, C, A, f, c, o, m, cm, a4, false, a10 % 3⟩ := ⟨_, rfl⟩
  rw [← hS] at HO0
  have HAP := Lib.hid (ap_first b S M (by rw [hS]) (a0 % 3) (a3 % 3) n w1 w2 HL.out (by rw [hS]; exact HE.out) (by rw [hS]; exact HC.out) (by rw [hS]; exact HA.out) HBB.out HW2.out HO0.out)
  clear hS
  go_upto_region 7 with (go_at_call 7; refine HAP.out.mono ?_; rintro e w3 ⟨g, nD, D, E1, C1, A1, rfl, ho, hf, hmp, he, hc, ha⟩; have HO3 := Lib.hid ho; have HF3 := Lib.hid hf; have HM3 := Lib.hid hmp; have HE3 := Lib.hid he; have HC3 := Lib.hid hc; have HA3 := Lib.hid ha; clear ho hf hmp he hc ha)
  clear HAP
  obtain ⟨T, hT⟩ : ∃ T : OptSt, T = S.fin (.map (some g)) E1 C1 A1 := ⟨_, rfl⟩
  obtain ⟨_, _, _, _, _, _, _, _, eM, eE, eC, eA, _, _⟩ := fin_fields S (.map (some g)) E1 C1 A1
  rw [← hT] at eM eE eC eA
  rw [← hT] at HO3
  have HT := Lib.hid hT
  have HBEL : Hid (Below w.heap.size w w3) := Lib.hid (below_none (new_grown (new_grown HG.out HW2.out HBW.out) HF3.out HBW.out))
  have c25 := HO3.out.c25
  have c26 := HO3.out.c26
  have c30 := HO3.out.c30
  have c39 := HO3.out.c39
  have c40 := HO3.out.c40
  have c41 := HO3.out.c41
  have c59 := HO3.out.c59
  have c60 := HO3.out.c60
  have c61 := HO3.out.c61
  have c62 := HO3.out.c62
  have c64 := HO3.out.c64
  have c76 := HO3.out.c76
  have c78 := HO3.out.c78
  rw [eM] at c30; rw [eE] at c39; rw [eC] at c40; rw [eA] at c41
  have HEQ := Lib.hid (show T.M = .map (some g) ∧ T.E = E1 ∧ T.C = C1 ∧ T.A = A1 from ⟨eM, eE, eC, eA⟩)
  clear hT eM eE eC eA
  have hlen := HM3.out.len Try.underlying46 3
  have heq : ∀ W : World, (binOp BinOp.eql 46 (.map (some g)) (.map none)).run Try.prog W = .ok (.bool false) W := fun W => by kernel_rfl
  go_upto_region 20 with fail
  obtain ⟨wl, hwl⟩ : ∃ W : World, W = (w3.alloc (.cells #[.int .u8 0, .int .u8 0, .int .u8 0, .int .u8 0, .int .u8 0, .int .u8 0, .int .u8 0, .int .u8 0, .int .u8 0, .int .u8 0, .int .u8 0, .int .u8 0, .int .u8 0] 84)).alloc (.cells #[.bool false, .bool false, .bool false, .bool false, .bool false, .bool false, .bool false, .bool false, .bool false, .bool false, .bool false, .bool false, .bool false] 85) := ⟨_, rfl⟩
  have hgv : Blk wl w3.heap.size 84 #[.int .u8 0, .int .u8 0, .int .u8 0, .int .u8 0, .int .u8 0, .int .u8 0, .int .u8 0, .int .u8 0, .int .u8 0, .int .u8 0, .int .u8 0, .int .u8 0, .int .u8 0] := by rw [hwl]; exact (Blk.new w3 84 _).alloc _
  have hgh : Blk wl (w3.heap.size + 1) 85 #[.bool false, .bool false, .bool false, .bool false, .bool false, .bool false, .bool false, .bool false, .bool false, .bool false, .bool false, .bool false, .bool false] := by rw [hwl]; simpa using Blk.new (w3.alloc (.cells #[.int .u8 0, .int .u8 0, .int .u8 0, .int .u8 0, .int .u8 0, .int .u8 0, .int .u8 0, .int .u8 0, .int .u8 0, .int .u8 0, .int .u8 0, .int .u8 0, .int .u8 0] 84)) 85 #[.bool false, .bool false, .bool false, .bool false, .bool false, .bool false, .bool false, .bool false, .bool false, .bool false, .bool false, .bool false, .bool false]
  have hbl : Below w3.heap.size w3 wl := by rw [hwl]; exact ((Below.refl _ _).alloc (Nat.le_refl _) _).alloc (by simp) _
  rw [← hwl]
  obtain ⟨gv, egv⟩ : ∃ q, q = w3.heap.size := ⟨_, rfl⟩
  obtain ⟨gh, egh⟩ : ∃ q, q = gv + 1 := ⟨_, rfl⟩
  rw [← egv] at hgv hgh hbl ⊢
  rw [← egh] at hgh ⊢
  have HGV0 := Lib.hid hgv; have HGH0 := Lib.hid hgh; have HBL0 := Lib.hid hbl
  have EGV := Lib.hid egv; have EGH := Lib.hid egh
  have hbgv : b < gv := by rw [egv]; exact HO3.out.lt
  have hggv : g < gv := by rw [egv]; exact HM3.out.lt
  clear hgv hgh hbl hwl egv egh
  go_wp2
  go_loopw [37, 38, 39] (fun i x ok wr => ∃ (k : Nat) (Kv Kh : Array Value), i = .int .i64 k ∧ k ≤ 13 ∧ Blk wr gv 84 Kv ∧ Blk wr gh 85 Kh ∧ AV D k Kv ∧ AH D k Kh ∧ Below gv w3 wr) (fun i x ok _ => 13 - (intOf i).toNat)
  case atStart => exact ⟨0, _, _, rfl, by omega, HGV0.out, HGH0.out, ⟨rfl, fun j hj => by omega⟩, ⟨rfl, fun j hj => by omega⟩, HBL0.out⟩
  case round =>
    obtain ⟨k, Kv, Kh, rfl, hk, hv, hh, hav, hah, hbw⟩ := hrel
    have HV := Lib.hid hv; have HH := Lib.hid hh; have HAV := Lib.hid hav; have HAH := Lib.hid hah; have HBW2 := Lib.hid hbw
    have HGR : Hid (w3.grownBy wr none) := Lib.hid ⟨hbw.os, hbw.tape, hbw.output, hbw.size, fun i hi _ => hbw.block i (by rw [EGV.out]; exact hi)⟩
    have HOr : Hid (OptIs b T wr) := Lib.hid (HO3.out.same (hbw.block b hbgv))
    have HMr : Hid (MapIs wr g nD D) := Lib.hid (HM3.out.kept HGR.out (by simp))
    clear hv hh hav hah hbw
    by_cases hlt : k < 13
    · have hlt' : (k : Int) < 13 := by omega
      have c30r := HOr.out.c30
      rw [HEQ.out.1] at c30r
      have hrun := map_run HMr.out (kb k) (kb_size k hlt)
      have hrun0 := hrun 0
      obtain ⟨uv, cv⟩ := blk_some HV.out HAV.out.1 k hlt
      obtain ⟨uh, ch⟩ := blk_some HH.out HAH.out.1 k hlt
      have zv := HV.out.frozen k
      have zh := HH.out.frozen k
      have hne : gv ≠ gh := by have := EGH.out; omega
      have KX := Lib.hid (fun W : World => (key_any k hlt W).mono (fun e w' h => (⟨h.1, h.2.symm⟩ : e = Ending.returned (.string (kb k)) ∧ w' = W)))
      go_wp2
      go_quiet ((go_at_call 8; exact Calls.quiet_of_same (KX.out _)))
      go_wp2
      go_roundw
      case rel =>
        exact ⟨k + 1, _, _, by go_num, by omega, ((HV.out.drewN nq).set_ k _).far (fun e => hne e) _, ((HH.out.drewN nq).far (fun e => hne e.symm) _).set_ k _, HAV.out.put hlt, HAH.out.put hlt, ((below_drewN HBW2.out nq).setCell (by simp) _).setCell (by have := EGH.out; simp; omega) _⟩
      case measure =>
        simp [intOf]
        omega
    · obtain rfl : k = 13 := by omega
      obtain ⟨ge, ne, Ae, Pe, rfl, e1, e2, e3, e4, re⟩ := HE3.out
      obtain ⟨gc, nc, Ac, Pc, rfl, f1, f2, f3, f4, rc⟩ := HC3.out
      obtain ⟨ga, na, Aa, Pa, rfl, d1, d2, d3, d4, ra⟩ := HA3.out
      have RE := Lib.hid re; have RC := Lib.hid rc; have RA := Lib.hid ra
      clear re rc ra
      have c30r := HOr.out.c30; have c39r := HOr.out.c39; have c40r := HOr.out.c40; have c41r := HOr.out.c41
      rw [HEQ.out.1] at c30r; rw [HEQ.out.2.1] at c39r; rw [HEQ.out.2.2.1] at c40r; rw [HEQ.out.2.2.2] at c41r
      have hzz := map_run HMr.out ⟨#[46, 122, 122]⟩ (by decide) 0
      simp only [World.drewN_zero] at hzz
      have HAP2 := Lib.hid (ap_again b S g _ _ _ wr (by rw [← HT.out]; exact HOr.out) ⟨ge, ne, rfl, e1⟩ ⟨gc, nc, rfl, f1⟩ ⟨ga, na, rfl, d1⟩)
      go_upto_region 31 with (go_at_call 7; refine HAP2.out.mono ?_; rintro e w5 ⟨rfl, ho, hf⟩; have HO5 : Hid (OptIs b T w5) := Lib.hid (by rw [HT.out]; exact ho); have HF5 := Lib.hid hf; clear ho hf)
      clear c30r c39r c40r c41r hzz HAP2
      have hbne : ∀ q, gv ≤ q → q ≠ b := fun q hq e => by omega
      have HV5 : Hid (Blk w5 gv 84 Kv) := Lib.hid (HV.out.grown HF5.out (by intro e; injection e with e; exact hbne _ (Nat.le_refl _) e))
      have HH5 : Hid (Blk w5 gh 85 Kh) := Lib.hid (HH.out.grown HF5.out (by intro e; injection e with e; exact hbne _ (by have := EGH.out; omega) e))
      have HM5 : Hid (MapIs w5 g nD D) := Lib.hid (by
        obtain ⟨K', hK', _⟩ := HOr.out
        exact HMr.out.kept HF5.out (by intro e; injection e with e; exact map_not_cells HMr.out hK' e))
      have HBEL5 : Hid (Below w.heap.size w w5) := Lib.hid (by
        have hw3 := HBEL.out.size
        refine (HBEL.out.trans (HBW2.out.mono (by have := EGV.out; omega))).grown HF5.out ?_ (fun k hk => by injection hk with hk; have := HBW.out; omega)
        exact Nat.le_trans hw3 HBW2.out.size)
      have key : ∀ (q n : Nat) (A : Nat → ByteArray) (P : Nat → Int), q ≠ b → q < w3.heap.size → Rows2 q n A P w3 → Rows2 q n A P w5 := fun q n A P h1 h2 h3 =>
        Rows2.keep (Rows2.keep h3 (HBW2.out.block q (by have := EGV.out; omega))) (HF5.out.block q (Nat.lt_of_lt_of_le h2 HBW2.out.size) (by intro e; injection e with e; exact h1 e))
      have RE5 := Lib.hid (key _ _ _ _ e3 e4 RE.out); have RC5 := Lib.hid (key _ _ _ _ f3 f4 RC.out); have RA5 := Lib.hid (key _ _ _ _ d3 d4 RA.out)
      clear key
      have c25q := HO5.out.c25
      have c26q := HO5.out.c26
      have c30q := HO5.out.c30
      have c39q := HO5.out.c39
      have c40q := HO5.out.c40
      have c41q := HO5.out.c41
      have c59q := HO5.out.c59
      have c60q := HO5.out.c60
      have c61q := HO5.out.c61
      have c62q := HO5.out.c62
      have c64q := HO5.out.c64
      have c76q := HO5.out.c76
      have c78q := HO5.out.c78
      rw [HEQ.out.1] at c30q; rw [HEQ.out.2.1] at c39q; rw [HEQ.out.2.2.1] at c40q; rw [HEQ.out.2.2.2] at c41q
      have hlen5 := HM5.out.len Try.underlying46 3
      go_wp2
      clear c25q c26q c30q c39q c40q c41q c59q c60q c61q c62q c64q c76q c78q hlen5 hlen
      go_loopw [45, 46, 47] (fun i x ok wq => ∃ (k q : Nat), i = .int .i64 k ∧ k ≤ 13 ∧ wq = w5.drewN q) (fun i x ok _ => 13 - (intOf i).toNat)
      case atStart => exact ⟨0, 0, rfl, by omega, by rw [World.drewN_zero]⟩
      case round =>
        obtain ⟨k, q, rfl, hk, hw⟩ := hrel
        have HW := Lib.hid hw
        have HMq : Hid (MapIs wr g nD D) := Lib.hid (by rw [hw]; exact HM5.out)
        have HOq : Hid (OptIs b T wr) := Lib.hid (by rw [hw]; exact HO5.out)
        have HVq : Hid (Blk wr gv 84 Kv) := Lib.hid (by rw [hw]; exact HV5.out)
        have HHq : Hid (Blk wr gh 85 Kh) := Lib.hid (by rw [hw]; exact HH5.out)
        have c30r := HOq.out.c30
        rw [HEQ.out.1] at c30r
        clear hw
        by_cases hlt : k < 13
        · have hlt' : (k : Int) < 13 := by omega
          have hrun := map_run HMq.out (kb k) (kb_size k hlt)
          have cv : wr.cell? ⟨gv, k, none⟩ = some (.int .u8 (vlOf D (kb k))) := (HVq.out.cell k).trans (HAV.out.2 k hlt)
          have ch : wr.cell? ⟨gh, k, none⟩ = some (.bool (has D (.string (kb k).data.toList))) := (HHq.out.cell k).trans (HAH.out.2 k hlt)
          have KX := Lib.hid (fun W : World => (key_any k hlt W).mono (fun e w' h => (⟨h.1, h.2.symm⟩ : e = Ending.returned (.string (kb k)) ∧ w' = W)))
          go_wp2
          go_quiet ((go_at_call 8; exact Calls.quiet_of_same (KX.out _)))
          go_wp2
          go_roundw
          case rel => exact ⟨k + 1, _, by go_num, by omega, by first | exact HW.out | (rw [HW.out, World.drewN_drewN])⟩
          case measure =>
            simp [intOf]
            omega
        · obtain rfl : k = 13 := by omega
          have hzz := map_run HMq.out ⟨#[46, 122, 122]⟩ (by decide) 0
          simp only [World.drewN_zero] at hzz
          have c39r := HOq.out.c39; have c40r := HOq.out.c40; have c41r := HOq.out.c41
          rw [HEQ.out.2.1] at c39r; rw [HEQ.out.2.2.1] at c40r; rw [HEQ.out.2.2.2] at c41r
          go_upto_region 48 with fail
          have REq : Hid (Rows2 ge ne Ae Pe wr) := Lib.hid (by rw [HW.out]; exact RE5.out)
          have RCq : Hid (Rows2 gc nc Ac Pc wr) := Lib.hid (by rw [HW.out]; exact RC5.out)
          have RAq : Hid (Rows2 ga na Aa Pa wr) := Lib.hid (by rw [HW.out]; exact RA5.out)
          have lsz : w3.heap.size ≤ wr.heap.size := by rw [HW.out]; exact Nat.le_trans HBW2.out.size HF5.out.size
          have lc : gc < wr.heap.size := by omega
          have la : ga < wr.heap.size := by omega
          have lb : b < wr.heap.size := HOq.out.lt
          have SXX : Hid (∀ (q n : Nat) (A : Nat → ByteArray) (P : Nat → Int) (W : World), Below wr.heap.size wr W → q < wr.heap.size → n ≤ 4 → Rows2 q n A P wr → Calls Try.prog 9 #[.slice (some ⟨q, 0, none⟩) n n, .slice (some ⟨q, 0, none⟩) n n] W (fun e w' => e = .returned (.bool true) ∧ Below wr.heap.size wr w')) := Lib.hid (fun q n A P W h1 h2 h3 h4 => (st_any 0 q n n n (by decide) h3 A P W (Rows2.keep h4 (h1.block q h2))).mono fun e w' h => ⟨h.1, h1.trans (h.2.mono h1.size)⟩)
          have le_ : ge < wr.heap.size := by omega
          go_wp2_with fail
          refine (SXX.out ge ne Ae Pe wr (Below.refl _ _) le_ e2 REq.out).mono ?_
          rintro e W1 ⟨rfl, hb1⟩
          have HX1 := Lib.hid hb1
          have HO1 : Hid (OptIs b T W1) := Lib.hid (HOq.out.same (hb1.block b lb))
          have c39s := HO1.out.c39; have c40s := HO1.out.c40; have c41s := HO1.out.c41
          rw [HEQ.out.2.1] at c39s; rw [HEQ.out.2.2.1] at c40s; rw [HEQ.out.2.2.2] at c41s
          clear hb1
          go_wp2_with fail
          clear c39r c40r c41r c30r
          refine (SXX.out gc nc Ac Pc W1 HX1.out lc f2 RCq.out).mono ?_
          rintro e W2 ⟨rfl, hb1⟩
          have HX2 := Lib.hid hb1
          have HO1 : Hid (OptIs b T W2) := Lib.hid (HOq.out.same (hb1.block b lb))
          have c39s := HO1.out.c39; have c40s := HO1.out.c40; have c41s := HO1.out.c41
          rw [HEQ.out.2.1] at c39s; rw [HEQ.out.2.2.1] at c40s; rw [HEQ.out.2.2.2] at c41s
          clear hb1
          go_wp2_with fail
          refine (SXX.out ga na Aa Pa W2 HX2.out la d2 RAq.out).mono ?_
          rintro e W3 ⟨rfl, hb1⟩
          have HX3 := Lib.hid hb1
          have HO1 : Hid (OptIs b T W3) := Lib.hid (HOq.out.same (hb1.block b lb))
          have c39s := HO1.out.c39; have c40s := HO1.out.c40; have c41s := HO1.out.c41
          rw [HEQ.out.2.1] at c39s; rw [HEQ.out.2.2.1] at c40s; rw [HEQ.out.2.2.2] at c41s
          clear hb1
          go_wp2_with fail
          go_ret
          exact ⟨rfl, (below_drewN HBEL5.out _).trans ((show Below w.heap.size (w5.drewN q) W3 from by rw [← HW.out]; exact HX3.out.mono (by have := HBEL5.out.size; rw [HW.out]; exact this)))⟩

/-! ### THE ROW's STEP -/
set_option maxRecDepth 100000 in
theorem lifted (os : Os) (started : os.Started) (H : Type) (enc : TypeId × Value → H) :
    ReturnsInHanded {} Try.checked os 3 .any (Rows.fnApplyOptionDefaultsIdempotentSpec.pre6 enc Try.prog Try.f3 Rows.fnApplyOptionDefaultsIdempotentRow.domain false) (Rows.fnApplyOptionDefaultsIdempotentSpec.post enc Try.prog Try.f3 false true false false) := by
  refine returnsInHanded_of_change (C := Try.checked) own started (by kernel_rfl) Try.func3
    (ChangeSpec.witness6 (enc := enc) (C := Try.checked) false ⟨#[], #[.int .u8 0, .string ByteArray.empty, .string ByteArray.empty, .int .u8 0, .bool false, .int .u64 0, .int .u64 0, .int .u64 0, .int .u16 0, .int .u16 0, .int .u8 0], []⟩ 8 (by kernel_rfl) (by kernel_rfl) (by kernel_rfl) (by kernel_rfl)) ?_
  intro W base args ds gs before hval0 hW hcnd _
  have hval : ∀ (j : Nat) t v, Try.f3.params[j]? = some t → args[j]? = some v → Value.okWide Try.prog W .any base t v := hval0
  have hW' := hW
  obtain ⟨p, q, hA0, hV, rfl, hfz, hnd⟩ := hW
  have hA : DataW.TrodAll enc Try.prog W 0 (fun _ => true) true Try.f3.params.toList args.toList ds p := hA0
  rw [Try.params3] at hA hval
  obtain ⟨v0, vs0, d0, ds0, p0, q0, hargs, rfl, rfl, h0, r0⟩ := trodAll_cons hA
  obtain ⟨v1, vs1, d1, ds1, p1, q1, rfl, rfl, rfl, h1, r1⟩ := trodAll_cons r0
  obtain ⟨v2, vs2, d2, ds2, p2, q2, rfl, rfl, rfl, h2, r2⟩ := trodAll_cons r1
  obtain ⟨v3, vs3, d3, ds3, p3, q3, rfl, rfl, rfl, h3, r3⟩ := trodAll_cons r2
  obtain ⟨v4, vs4, d4, ds4, p4, q4, rfl, rfl, rfl, h4, r4⟩ := trodAll_cons r3
  obtain ⟨v5, vs5, d5, ds5, p5, q5, rfl, rfl, rfl, h5, r5⟩ := trodAll_cons r4
  obtain ⟨v6, vs6, d6, ds6, p6, q6, rfl, rfl, rfl, h6, r6⟩ := trodAll_cons r5
  obtain ⟨v7, vs7, d7, ds7, p7, q7, rfl, rfl, rfl, h7, r7⟩ := trodAll_cons r6
  obtain ⟨v8, vs8, d8, ds8, p8, q8, rfl, rfl, rfl, h8, r8⟩ := trodAll_cons r7
  obtain ⟨v9, vs9, d9, ds9, p9, q9, rfl, rfl, rfl, h9, r9⟩ := trodAll_cons r8
  obtain ⟨v10, vs10, d10, ds10, p10, q10, rfl, rfl, rfl, h10, r10⟩ := trodAll_cons r9
  obtain ⟨rfl, rfl, rfl⟩ := trodAll_nil r10
  obtain rfl : args = #[v0, v1, v2, v3, v4, v5, v6, v7, v8, v9, v10] := by cases args; simp_all
  obtain ⟨rfl, rfl⟩ := trodVars_none hV
  have k0 := h0
  have lt0 : ∀ x ∈ p0, x.block < W.heap.size := by obtain ⟨m, hm⟩ := k0; exact DataW.trod_lt m _ _ _ hm
  have k1 := h1
  have lt1 : ∀ x ∈ p1, x.block < W.heap.size := by obtain ⟨m, hm⟩ := k1; exact DataW.trod_lt m _ _ _ hm
  have k2 := h2
  have lt2 : ∀ x ∈ p2, x.block < W.heap.size := by obtain ⟨m, hm⟩ := k2; exact DataW.trod_lt m _ _ _ hm
  have k3 := h3
  have lt3 : ∀ x ∈ p3, x.block < W.heap.size := by obtain ⟨m, hm⟩ := k3; exact DataW.trod_lt m _ _ _ hm
  have k4 := h4
  have lt4 : ∀ x ∈ p4, x.block < W.heap.size := by obtain ⟨m, hm⟩ := k4; exact DataW.trod_lt m _ _ _ hm
  have k5 := h5
  have lt5 : ∀ x ∈ p5, x.block < W.heap.size := by obtain ⟨m, hm⟩ := k5; exact DataW.trod_lt m _ _ _ hm
  have k6 := h6
  have lt6 : ∀ x ∈ p6, x.block < W.heap.size := by obtain ⟨m, hm⟩ := k6; exact DataW.trod_lt m _ _ _ hm
  have k7 := h7
  have lt7 : ∀ x ∈ p7, x.block < W.heap.size := by obtain ⟨m, hm⟩ := k7; exact DataW.trod_lt m _ _ _ hm
  have k8 := h8
  have lt8 : ∀ x ∈ p8, x.block < W.heap.size := by obtain ⟨m, hm⟩ := k8; exact DataW.trod_lt m _ _ _ hm
  have k9 := h9
  have lt9 : ∀ x ∈ p9, x.block < W.heap.size := by obtain ⟨m, hm⟩ := k9; exact DataW.trod_lt m _ _ _ hm
  have k10 := h10
  have lt10 : ∀ x ∈ p10, x.block < W.heap.size := by obtain ⟨m, hm⟩ := k10; exact DataW.trod_lt m _ _ _ hm
  obtain ⟨a0, rfl, rfl, rfl, w0⟩ := open_int Try.underlying5 (hval 0 5 v0 rfl rfl) h0
  obtain ⟨a1, rfl, rfl, rfl, w1⟩ := open_string Try.underlying9 (hval 1 9 v1 rfl rfl) h1
  obtain ⟨a2, rfl, rfl, rfl, w2⟩ := open_string Try.underlying9 (hval 2 9 v2 rfl rfl) h2
  obtain ⟨a3, rfl, rfl, rfl, w3⟩ := open_int Try.underlying5 (hval 3 5 v3 rfl rfl) h3
  obtain ⟨a4, rfl, rfl, rfl⟩ := open_bool Try.underlying4 (hval 4 4 v4 rfl rfl) h4
  obtain ⟨a5, rfl, rfl, rfl, w5⟩ := open_int Try.underlying22 (hval 5 22 v5 rfl rfl) h5
  obtain ⟨a6, rfl, rfl, rfl, w6⟩ := open_int Try.underlying22 (hval 6 22 v6 rfl rfl) h6
  obtain ⟨a7, rfl, rfl, rfl, w7⟩ := open_int Try.underlying22 (hval 7 22 v7 rfl rfl) h7
  obtain ⟨a8, rfl, rfl, rfl, w8⟩ := open_int Try.underlying23 (hval 8 23 v8 rfl rfl) h8
  obtain ⟨a9, rfl, rfl, rfl, w9⟩ := open_int Try.underlying23 (hval 9 23 v9 rfl rfl) h9
  obtain ⟨a10, rfl, rfl, rfl, w10⟩ := open_int Try.underlying5 (hval 10 5 v10 rfl rfl) h10
  clear hA0 hval0
  refine (walk a0 a1 a2 a3 a4 a5 a6 a7 a8 a9 a10 W w0 w1 w2 w3 w5 w6 w7 w8 w9 w10 ).mono fun e W' ⟨he, bel⟩ => ?_
  subst he
  exact ⟨_, rfl, _, _, _, [], _, [], hW', trodAll_mk1 (shut_bool Try.underlying4 _), (trodAll_cons_mk (Below.trod laidOut (by kernel_rfl) (of_decide_eq_true (by kernel_rfl)) k0 bel lt0) (trodAll_cons_mk (Below.trod laidOut (by kernel_rfl) (of_decide_eq_true (by kernel_rfl)) k1 bel lt1) (trodAll_cons_mk (Below.trod laidOut (by kernel_rfl) (of_decide_eq_true (by kernel_rfl)) k2 bel lt2) (trodAll_cons_mk (Below.trod laidOut (by kernel_rfl) (of_decide_eq_true (by kernel_rfl)) k3 bel lt3) (trodAll_cons_mk (Below.trod laidOut (by kernel_rfl) (of_decide_eq_true (by kernel_rfl)) k4 bel lt4) (trodAll_cons_mk (Below.trod laidOut (by kernel_rfl) (of_decide_eq_true (by kernel_rfl)) k5 bel lt5) (trodAll_cons_mk (Below.trod laidOut (by kernel_rfl) (of_decide_eq_true (by kernel_rfl)) k6 bel lt6) (trodAll_cons_mk (Below.trod laidOut (by kernel_rfl) (of_decide_eq_true (by kernel_rfl)) k7 bel lt7) (trodAll_cons_mk (Below.trod laidOut (by kernel_rfl) (of_decide_eq_true (by kernel_rfl)) k8 bel lt8) (trodAll_cons_mk (Below.trod laidOut (by kernel_rfl) (of_decide_eq_true (by kernel_rfl)) k9 bel lt9) (trodAll_cons_mk (Below.trod laidOut (by kernel_rfl) (of_decide_eq_true (by kernel_rfl)) k10 bel lt10) trodAll_mk0))))))))))), rfl, bel.frame _, fun h => by cases h⟩

theorem over : Rows.fnApplyOptionDefaultsIdempotentRow.holds Try.pinned (OpenSpec.ofChange Rows.fnApplyOptionDefaultsIdempotentSpec) :=
  OpenClaim.holds_of_wide 3 Try.f3 rfl rfl rfl rfl rfl rfl rfl ⟨rfl, rfl, rfl, rfl, rfl⟩ rfl rfl rfl rfl rfl (by kernel_rfl) Try.func3 (by kernel_rfl)
    (of_decide_eq_true (by kernel_rfl)) (by unfold Func.isWrapper; first | (rw [if_pos (by decide +kernel)]; kernel_rfl) | (rw [if_neg (by decide +kernel)]; exact ⟨rfl, rfl⟩))
    (fun os started H enc _ => lifted os started H enc)

theorem proved : Rows.FnApplyOptionDefaultsIdempotentSaid := over
#print axioms proved
end Go.Proofs.Ytjellcldojmpcaa.fnApplyOptionDefaultsIdempotent