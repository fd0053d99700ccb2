/- The walk of FnTop3. -/
import Derived.Test.YthbmffocgccniaaDoorVl1
import Derived.Test.YthbmffocgccniaaDoorVfn
import Derived.Deep.QuietTactic
import Derived.BigQuiet
import Derived.Deep.Cut
import Derived.Deep.DeepCutAuto
import Derived.Deep.CutRange
import Derived.Laws.IdiomStrings
import Derived.Laws.BytesArg
namespace Go.Proofs.YthbmffocgccniaaDoor
open Go.RowKit
set_option linter.unusedVariables false
set_option linter.unusedSimpArgs false
theorem tm (a b : Nat) : Int.tmod (a : Int) (b : Int) = ((a % b : Nat) : Int) := rfl
theorem td (a b : Nat) : Int.tdiv (a : Int) (b : Int) = ((a / b : Nat) : Int) := by
  cases b <;> rfl
theorem own_ne_own {w : World} {B1 B2 : Nat} {t1 t2 : TypeId} {s1 s2 n1 n2 : Nat} {v1 v2 : Value} {x1 x2 : List Value} (h : w.ownsRow B1 t1 s1 v1 n1 x1) (k : w.ownsRow B2 t2 s2 v2 n2 x2) (ht : t1 ≠ t2) : v1.ownBlock = none ∨ v1.ownBlock ≠ v2.ownBlock := by
  rcases h.2 with ⟨e, _⟩ | ⟨g, cap, cur, e, _, hg, _⟩
  · left; rw [e]; rfl
  · right
    intro h2
    rw [e] at h2
    exact own_blk_ne k (show Blk w g t1 cur from hg) (fun e => ht e.symm) h2.symm
theorem srcSh (w : World) (s : Sh) : Src Tryd.prog 4 35 (.slice (some ⟨w.heap.size, 0, none⟩) 1 1) 1 (shC s) (w.alloc (.cells (shC s).toArray 34)) :=
  Src.ofSlice _ Tryd.underlying35 _ 1 1 (shC s) rfl (fun j u hu => by
    rw [← hu]
    have := (Blk.new w 34 (shC s).toArray).cell j
    have e : ((shC s).toArray)[j]? = (shC s)[j]? := by simp
    rw [e] at this
    rw [← this]
    unfold Addr.add
    split
    · rename_i h0; subst h0; rfl
    · show World.cell? _ ⟨w.heap.size, 0 + j, none⟩ = _
      rw [Nat.zero_add]) (fun u hu => by
    simp only [shC, List.mem_cons, List.not_mem_nil, or_false] at hu
    rcases hu with rfl | rfl | rfl | rfl <;> rfl)
theorem sh_info : (Tryd.prog.info? 34).map (fun i => (i.zero, i.size, i.bytes)) = some (some (.agg #[.int .i64 0, .int .i64 0, .int .i64 0, .int .i64 0]), 4, 32) := by kernel_rfl
def DecP (R : List Sg) (n : Nat) (w : World) (e : Ending) (w' : World) : Prop := ∃ A c, e = .returned (.tuple #[.slice A n c, .bool true]) ∧ SgB w' A n R ∧ w.grownBy w' none
theorem decP {R : List Sg} {n : Nat} {w w' : World} {e : Ending} (h : DecodePost R w e w') (hn : R.length = n) : DecP R n w e w' := by
  obtain ⟨A, c, h1, h2, h3⟩ := h
  rw [hn] at h1 h2
  exact ⟨A, c, h1, h2, h3⟩
theorem ShB.of_own {w : World} {B g n c : Nat} {S : List Sh} (h : w.ownsRow B 34 4 (.slice (some ⟨g, 0, none⟩) n c) S.length (shsC S)) : ShB w g S := by
  rcases h.2 with ⟨h1, h2⟩ | ⟨g', cap, cur, h1, _, hg, hle, _, hcs, ht⟩
  · cases h1
  · obtain rfl : g = g' := by injection h1 with h1; injection h1 with h1; injection h1
    refine ⟨cur, hg, fun k x hk j hj => ?_⟩
    have hkl : k < S.length := (List.getElem?_eq_some_iff.1 hk).1
    rw [← shsC_at S k x hk j hj, ← ht, List.getElem?_take_of_lt (by omega), ← Array.getElem?_toList]
theorem states_pb : ∀ {Q : List Sg} {p y : Sg}, PB p → (∀ g ∈ Q, PB g) → y ∈ states p Q → PB y
  | [], p, y, _, _, h => by simp [states] at h
  | g :: q, p, y, hp, hq, h => by
    rw [states, List.mem_cons] at h
    have h1 := hp.nx_ (hq g (by simp))
    rcases h with rfl | h
    · exact h1
    · exact states_pb h1 (fun x hx => hq x (by simp [hx])) h
theorem mv_a (yl yc m sal sbo sac : Int) (h : sal < yl) : mvStep yl yc m ⟨sal, sbo, sal, sac⟩ = 0 := by
  have hb : before ⟨sal, sbo, sal, sac⟩ yl yc := Or.inl h
  have ho : one ⟨sal, sbo, sal, sac⟩ yl = 0 := by unfold one; rw [if_neg (by show ¬ sal = yl; omega)]
  unfold mvStep; rw [if_pos hb, ho]
theorem mv_b (yl yc m sal sbo sac : Int) (h : sal = yl) (h2 : sbo < yc) : mvStep yl yc m ⟨sal, sbo, sal, sac⟩ = sac - sbo := by
  have hb : before ⟨sal, sbo, sal, sac⟩ yl yc := Or.inr ⟨h, h2⟩
  have ho : one ⟨sal, sbo, sal, sac⟩ yl = sac - sbo := by unfold one; rw [if_pos h]
  unfold mvStep; rw [if_pos hb, ho]
theorem mv_c (yl yc m sal sbo sac : Int) (h : ¬ (sal < yl ∨ (sal = yl ∧ sbo < yc))) : mvStep yl yc m ⟨sal, sbo, sal, sac⟩ = m := by
  have hb : ¬ before ⟨sal, sbo, sal, sac⟩ yl yc := h
  unfold mvStep; rw [if_neg hb]
/-- The law's state in its loop over shifts. -/
structure L3 (w : World) (rb : Nat) (A : Option Addr) (n cap : Nat) (zz : List Int) (Q : List Sg) (u : Value) (k l c : Nat) (dl : Int) (S : List Sh) (sv : Value) (wr : World) : Prop where
  lm : LM w rb A n cap zz wr
  own : wr.ownsRow w.heap.size 30 7 u Q.length (sgsC Q)
  sow : wr.ownsRow w.heap.size 34 4 sv S.length (shsC S)
  sl : SL S (l : Int) (c : Int)
  cnt : k + S.length ≤ 8
  lb : l ≤ S.length
  cb : c ≤ 20 * S.length
  db : -(c : Int) ≤ dl ∧ dl ≤ 6 * (S.length : Int)
/-- The law's state in its first loop. -/
structure L1 (w : World) (rb : Nat) (A : Option Addr) (n cap : Nat) (zz : List Int) (k l c : Nat) (Q : List Sg) (v : Value) (wr : World) : Prop where
  lm : LM w rb A n cap zz wr
  own : wr.ownsRow w.heap.size 30 7 v Q.length (sgsC Q)
  ord : OrdTo 0 0 Q l (c : Int)
  qb : ∀ g ∈ Q, QB g
  cnt : k + Q.length ≤ 15
  lb : l ≤ 2 * Q.length
  cb : c ≤ 40 * Q.length
theorem L1.start {w wr : World} {rb : Nat} {A : Option Addr} {n cap : Nat} {zz : List Int} {k : Nat} (h : LM w rb A n cap zz wr) (hk : k ≤ 15) : L1 w rb A n cap zz k 0 0 [] (.slice none 0 0) wr :=
  ⟨h, World.ownsRow_nil _ _ _ _, by unfold OrdTo; omega, fun g hg => by simp at hg, by simpa using hk, by simp, by simp⟩
set_option maxHeartbeats 16000000 in
set_option maxRecDepth 100000 in
theorem law_walk (A0 : Option Addr) (n0 c0 : Nat) (z0 : List Int) (w : World) (r0 : Reads w w.heap.size 1 A0 n0 (z0.map (Value.int .u8))) (b0 : n0 ≤ maxLen) (p0 : ∀ z ∈ z0, 0 ≤ z ∧ z ≤ 255) (hB : B64 w) :
    Calls Tryd.prog 3 #[.slice A0 n0 c0] w fun e w' => e = .returned (.bool true) ∧ Below w.heap.size w w' := by
  unfold maxLen at b0
  by_cases hbig : 1048576 < (n0 : Int)
  · go_enter Tryd.func3, Tryd.ntmps3
    go_wp2
    go_ret
    exact ⟨rfl, Below.refl _ _⟩
  obtain ⟨rb, hrb⟩ : ∃ x, x = w.heap.size := ⟨_, rfl⟩
  obtain ⟨W0, hW0⟩ : ∃ W, W = w.alloc (.cells #[.slice A0 n0 c0, .int .i64 0] 25) := ⟨_, rfl⟩
  have HL0 : Hid (LM w rb A0 n0 c0 z0 W0) := Lib.hid (by
    have hg : w.grownBy W0 none := by rw [hW0]; exact only_alloc (World.grownBy.refl _ _) _
    exact ⟨⟨⟨0, by rw [hW0, hrb]; exact Blk.new _ _ _, Nat.zero_le _⟩, Reads.grown r0 hg (Nat.le_refl _) (fun g e => by cases e), p0, by omega⟩, hg⟩)
  have HB64 := Lib.hid hB
  clear r0 p0 hB
  go_enter Tryd.func3, Tryd.ntmps3
  go_upto_region 7 with fail
  first | rw [← hW0] | skip
  first | rw [← hrb] | skip
  clear hW0 hrb
  have HNX := Lib.hid (next_any w.heap.size rb A0 n0 c0 z0 _ HL0.out.rd (by omega))
  go_wp2_with (go_at_call 4; (with_reducible refine (HNX.out).mono ?_))
  rintro e w1 ⟨nn, rfl, hnn, hrd, hgn⟩
  have HL1 := Lib.hid (HL0.out.next hgn hrd)
  have t1 := tm nn 16
  obtain ⟨kk, hkk⟩ : ∃ k, k = nn % 16 := ⟨_, rfl⟩
  rw [← hkk] at t1
  have hk15 : kk ≤ 15 := by omega
  clear hrd hgn HNX HL0 hkk
  go_wp2
  go_loopw [4, 5, 6, 7] (fun vv lv cv kv wr => ∃ (k l c : Nat) (Q : List Sg) (u : Value), vv = u ∧ lv = .int .i64 (l : Int) ∧ cv = .int .i64 (c : Int) ∧ kv = .int .i64 (k : Int) ∧ L1 w rb A0 n0 c0 z0 k l c Q u wr) (fun _ _ _ kv _ => (intOf kv).toNat)
  case atStart => exact ⟨nn % 16, 0, 0, [], _, rfl, rfl, rfl, rfl, L1.start HL1.out (by omega)⟩
  case round =>
    obtain ⟨k, l, c, Q, u, hu, rfl, rfl, rfl, hl1⟩ := hrel
    obtain rfl := hu.symm
    clear hu
    obtain ⟨wa, hwa⟩ : ∃ W, W = wr := ⟨_, rfl⟩
    subst hwa
    obtain ⟨h1, h2, h3, h4, h5, h6, h7⟩ := hl1
    have HLM := Lib.hid h1; have HOW := Lib.hid h2; have HOR := Lib.hid h3; have HQB := Lib.hid h4; have HCN := Lib.hid h5; have HLB := Lib.hid h6; have HCB := Lib.hid h7
    clear h1 h2 h3 h4 HL1
    by_cases hk0 : 0 < k
    · have hk0' : (0 : Int) < (k : Int) := by omega
      have hQl : Q.length ≤ 14 := by omega
      have hlb : l ≤ 30 := by omega
      have hcb : c ≤ 600 := by omega
      clear h5 h6 h7
      have HNX := Lib.hid (next_any w.heap.size rb A0 n0 c0 z0 _ HLM.out.rd (by omega))
      go_wp2_with (go_at_call 4; (with_reducible refine (HNX.out).mono ?_))
      rintro e wb ⟨cb, rfl, hcb, hrd, hgn⟩
      have HLM2 := Lib.hid (HLM.out.next hgn hrd)
      have HOW2 := Lib.hid (HLM.out.own HOW.out (by decide) hgn)
      obtain ⟨M0, hM0⟩ : ∃ m, m = cb % 4 / 2 * (1 + cb / 4 % 2) := ⟨_, rfl⟩
      have hM2 : M0 ≤ 2 := by
        have h1 : cb % 4 / 2 ≤ 1 := by omega
        have h2 : 1 + cb / 4 % 2 ≤ 2 := by omega
        have := Nat.mul_le_mul h1 h2
        omega
      have hMw : wrap64 ((cb : Int) % 4 / 2 * (1 + (cb : Int) / 4 % 2)) = (M0 : Int) := by
        have e : (cb : Int) % 4 / 2 * (1 + (cb : Int) / 4 % 2) = (M0 : Int) := by rw [hM0]; simp
        rw [e]; unfold wrap64; omega
      have HMW := Lib.hid hMw
      clear hrd hgn HNX hM0 hMw
      go_upto_region 12 with fail
      go_loopw [5, 6, 9] (fun lv cv mv wr => ∃ (l2 c2 m : Nat), lv = .int .i64 (l2 : Int) ∧ cv = .int .i64 (c2 : Int) ∧ mv = .int .i64 (m : Int) ∧ ((l2 = l ∧ c2 = c) ∨ (l < l2 ∧ c2 = 0)) ∧ l2 + m ≤ l + 2 ∧ wb = wr) (fun _ _ mv _ => (intOf mv).toNat)
      case atStart => exact ⟨l, c, M0, rfl, rfl, by rw [HMW.out], .inl ⟨rfl, rfl⟩, by omega, rfl⟩
      case round =>
        obtain ⟨l2, c1, m, rfl, rfl, rfl, hlc, hlm, rfl⟩ := hrel
        by_cases hm : 0 < m
        · have hm' : (0 : Int) < (m : Int) := by omega
          have hwl : IntKind.i64.wrap ((l2 : Int) + 1) = (l2 : Int) + 1 := by rw [IntKind.wrap_i64]; omega
          have hwm : IntKind.i64.wrap ((m : Int) - 1) = ((m - 1 : Nat) : Int) := by rw [IntKind.wrap_i64]; omega
          have HLC := Lib.hid hlc
          clear hlc
          go_wp2
          go_roundw
          case rel => exact ⟨l2 + 1, 0, m - 1, by simp, rfl, rfl, .inr ⟨by have := HLC.out; omega, rfl⟩, by omega, trivial⟩
          case measure => simp [intOf]; omega
        have hm' : ¬ ((0 : Int) < (m : Int)) := by omega
        have hl32 : l2 ≤ 40 := by omega
        have hc32 : c1 ≤ 600 := by omega
        obtain ⟨c2, hc2⟩ : ∃ x, x = c1 + cb / 8 := ⟨_, rfl⟩
        have hwc : IntKind.i64.wrap ((c1 : Int) + (cb : Int) / 8) = (c2 : Int) := by rw [IntKind.wrap_i64]; omega
        have hc2b : c2 ≤ 640 := by omega
        have HLC := Lib.hid hlc; have HC2 := Lib.hid hc2
        have HLE : Hid (l < l2 ∨ (l = l2 ∧ (c : Int) ≤ (c2 : Int))) := Lib.hid (by omega)
        have HLL : Hid (l2 ≤ l + 2) := Lib.hid (by omega)
        have HCC : Hid (c2 ≤ c + 40) := Lib.hid (by omega)
        clear hlc hc2 hlm
        go_upto_region 17 with fail
        go_cut [10] from 60 to 68 (fun pv wx => ∃ (x : Nat) (f : Int), pv = .pointer (some ⟨x, 0, none⟩) ∧ (f = 1 ∨ f = 4 ∨ f = 5) ∧ DM w x ⟨l2, (c2 : Int), f, 0, 0, 0, 0⟩ Q u wx ∧ LM w rb A0 n0 c0 z0 wx)
        case first =>
          obtain ⟨wy, hwy⟩ : ∃ W, W = wb.alloc (.cells #[.int .i64 4, .int .i64 5, .int .i64 4, .int .i64 1] 3) := ⟨_, rfl⟩
          obtain ⟨y, hy⟩ : ∃ y, y = wb.heap.size := ⟨_, rfl⟩
          have HBY := Lib.hid (show Blk wy y 3 #[.int .i64 4, .int .i64 5, .int .i64 4, .int .i64 1] by rw [hwy, hy]; exact Blk.new _ _ _)
          have hgy : wb.grownBy wy none := by rw [hwy]; exact only_alloc (World.grownBy.refl _ _) _
          have HLY := Lib.hid (HLM2.out.grown hgy)
          have HOY := Lib.hid (HOW2.out.kept hgy (Classical.em _))
          have HNX := Lib.hid (next_any w.heap.size rb A0 n0 c0 z0 _ HLY.out.rd (by omega))
          clear hgy
          subst hwy
          subst hy
          go_wp2_with (go_at_call 4; (with_reducible refine (HNX.out).mono ?_))
          rintro e wz ⟨fb, rfl, hfb, hrd, hgn⟩
          have HLZ := Lib.hid (HLY.out.next hgn hrd)
          have HOZ := Lib.hid (HLY.out.own HOY.out (by decide) hgn)
          have HBZ := Lib.hid (by
            obtain ⟨cs, hb⟩ := HLY.out.rd.next_
            exact HBY.out.grown hgn (fun e => Blk.ne_ HBY.out hb (by decide) (by injection e)))
          clear hrd hgn HNX
          have y0 : wz.cell? ⟨wb.heap.size, 0, none⟩ = some (.int .i64 4) := HBZ.out.cell 0
          have y1 : wz.cell? ⟨wb.heap.size, 1, none⟩ = some (.int .i64 5) := HBZ.out.cell 1
          have y2 : wz.cell? ⟨wb.heap.size, 2, none⟩ = some (.int .i64 4) := HBZ.out.cell 2
          have y3 : wz.cell? ⟨wb.heap.size, 3, none⟩ = some (.int .i64 1) := HBZ.out.cell 3
          have HEND : Hid (∀ f0 : Int, f0 = 1 ∨ f0 = 4 ∨ f0 = 5 → ∃ (x : Nat) (f : Int), Value.pointer (some ⟨wz.heap.size, 0, none⟩) = .pointer (some ⟨x, 0, none⟩) ∧ (f = 1 ∨ f = 4 ∨ f = 5) ∧ DM w x ⟨l2, (c2 : Int), f, 0, 0, 0, 0⟩ Q u (wz.alloc (.cells #[.int .i64 (l2 : Int), .int .i64 (c2 : Int), .int .i64 f0, .int .i64 0, .int .i64 0, .int .i64 0, .int .i64 0] 30)) ∧ LM w rb A0 n0 c0 z0 (wz.alloc (.cells #[.int .i64 (l2 : Int), .int .i64 (c2 : Int), .int .i64 f0, .int .i64 0, .int .i64 0, .int .i64 0, .int .i64 0] 30))) := Lib.hid (fun f0 hf => ⟨wz.heap.size, f0, rfl, hf, ⟨HOZ.out.alloc _, Blk.new _ _ _, (by
              intro e
              have := HOZ.out.lt _ e
              omega), HLZ.out.gr.size, only_alloc HLZ.out.gr _⟩, HLZ.out.grown (only_alloc (World.grownBy.refl _ _) _)⟩)
          have hr4 : fb % 4 = 0 ∨ fb % 4 = 1 ∨ fb % 4 = 2 ∨ fb % 4 = 3 := by omega
          rcases hr4 with hr | hr | hr | hr
          · have hri : (fb : Int) % 4 = 0 := by omega
            clear hr
            go_wp2
            go_meet
            exact HEND.out 4 (by omega)
          · have hri : (fb : Int) % 4 = 1 := by omega
            clear hr
            go_wp2
            go_meet
            exact HEND.out 5 (by omega)
          · have hri : (fb : Int) % 4 = 2 := by omega
            clear hr
            go_wp2
            go_meet
            exact HEND.out 4 (by omega)
          · have hri : (fb : Int) % 4 = 3 := by omega
            clear hr
            go_wp2
            go_meet
            exact HEND.out 1 (by omega)
        case rest =>
        obtain ⟨x, f, rfl, hf, hdm, hlm⟩ := hcut
        have HDa := Lib.hid hdm; have HLa := Lib.hid hlm; have HFF := Lib.hid hf
        clear hdm hlm hf HLM HLM2 HOW HOW2
        go_upto_region 18 with fail
        have HNX := Lib.hid (next_any w.heap.size rb A0 n0 c0 z0 _ HLa.out.rd (by omega))
        go_wp2_with (go_at_call 4; (with_reducible refine (HNX.out).mono ?_))
        rintro e w18 ⟨v3, rfl, hv3, hrd, hgn⟩
        have HLb := Lib.hid (HLa.out.next hgn hrd)
        have HDb := Lib.hid (HDa.out.next HLa.out hgn)
        obtain ⟨mk, zk⟩ := HDb.out.cell 3
        have ck : w18.cell? ⟨x, 3, none⟩ = some (.int .i64 0) := mk
        have HDa := Lib.hid (HDb.out.set 3 (.int .i64 ((v3 : Int) % 3)) (p' := ⟨l2, (c2 : Int), f, (v3 : Int) % 3, 0, 0, 0⟩) rfl)
        have HLa := Lib.hid (HLb.out.set HDb.out.hx (HDb.out.xne HLb.out) 3 (.int .i64 ((v3 : Int) % 3)))
        clear mk hrd hgn HNX HLb HDb
        go_upto_region 19 with fail
        clear ck zk
        have HNX := Lib.hid (next_any w.heap.size rb A0 n0 c0 z0 _ HLa.out.rd (by omega))
        go_wp2_with (go_at_call 4; (with_reducible refine (HNX.out).mono ?_))
        rintro e w19 ⟨v4, rfl, hv4, hrd, hgn⟩
        have HLb := Lib.hid (HLa.out.next hgn hrd)
        have HDb := Lib.hid (HDa.out.next HLa.out hgn)
        obtain ⟨mk, zk⟩ := HDb.out.cell 4
        have ck : w19.cell? ⟨x, 4, none⟩ = some (.int .i64 0) := mk
        have HDa := Lib.hid (HDb.out.set 4 (.int .i64 ((v4 : Int))) (p' := ⟨l2, (c2 : Int), f, (v3 : Int) % 3, (v4 : Int), 0, 0⟩) rfl)
        have HLa := Lib.hid (HLb.out.set HDb.out.hx (HDb.out.xne HLb.out) 4 (.int .i64 ((v4 : Int))))
        clear mk hrd hgn HNX HLb HDb
        go_upto_region 20 with fail
        clear ck zk
        have HNX := Lib.hid (next_any w.heap.size rb A0 n0 c0 z0 _ HLa.out.rd (by omega))
        go_wp2_with (go_at_call 4; (with_reducible refine (HNX.out).mono ?_))
        rintro e w20 ⟨v5, rfl, hv5, hrd, hgn⟩
        have HLb := Lib.hid (HLa.out.next hgn hrd)
        have HDb := Lib.hid (HDa.out.next HLa.out hgn)
        obtain ⟨mk, zk⟩ := HDb.out.cell 5
        have ck : w20.cell? ⟨x, 5, none⟩ = some (.int .i64 0) := mk
        have HDa := Lib.hid (HDb.out.set 5 (.int .i64 ((v5 : Int))) (p' := ⟨l2, (c2 : Int), f, (v3 : Int) % 3, (v4 : Int), (v5 : Int), 0⟩) rfl)
        have HLa := Lib.hid (HLb.out.set HDb.out.hx (HDb.out.xne HLb.out) 5 (.int .i64 ((v5 : Int))))
        clear mk hrd hgn HNX HLb HDb
        go_upto_region 21 with fail
        clear ck zk
        have HNX := Lib.hid (next_any w.heap.size rb A0 n0 c0 z0 _ HLa.out.rd (by omega))
        go_wp2_with (go_at_call 4; (with_reducible refine (HNX.out).mono ?_))
        rintro e w21 ⟨v6, rfl, hv6, hrd, hgn⟩
        have HLb := Lib.hid (HLa.out.next hgn hrd)
        have HDb := Lib.hid (HDa.out.next HLa.out hgn)
        obtain ⟨mk, zk⟩ := HDb.out.cell 6
        have ck : w21.cell? ⟨x, 6, none⟩ = some (.int .i64 0) := mk
        have HDa := Lib.hid (HDb.out.set 6 (.int .i64 ((v6 : Int) % 5)) (p' := ⟨l2, (c2 : Int), f, (v3 : Int) % 3, (v4 : Int), (v5 : Int), (v6 : Int) % 5⟩) rfl)
        have HLa := Lib.hid (HLb.out.set HDb.out.hx (HDb.out.xne HLb.out) 6 (.int .i64 ((v6 : Int) % 5)))
        clear mk hrd hgn HNX HLb HDb
        go_upto_region 22 with fail
        clear ck zk
        obtain ⟨i0, hi0, hz0, hz1, hz2⟩ := info_parts seg_info
        obtain ⟨ol, hol⟩ : ∃ m, m = Q.length := ⟨_, rfl⟩
        obtain ⟨oxs, hoxs⟩ : ∃ m, m = sgsC Q := ⟨_, rfl⟩
        have HOW := Lib.hid HDa.out.own
        rw [← hol, ← hoxs] at HOW
        have holl : ol ≤ 14 := by omega
        have HSRC := Lib.hid (srcSg (w21.setCell ⟨x, 6, none⟩ (.int .i64 ((v6 : Int) % 5))) ⟨l2, (c2 : Int), f, (v3 : Int) % 3, (v4 : Int), (v5 : Int), (v6 : Int) % 5⟩)
        have HSZ : Hid (w.heap.size ≤ (w21.setCell ⟨x, 6, none⟩ (.int .i64 ((v6 : Int) % 5))).heap.size + 1) := Lib.hid (Nat.le_succ_of_le HLa.out.gr.size)
        have HPU : Hid (∀ (qv' : Value) (w5 : World), w5.ownsRow w.heap.size 30 7 qv' (ol + 1) (oxs ++ sgC ⟨l2, (c2 : Int), f, (v3 : Int) % 3, (v4 : Int), (v5 : Int), (v6 : Int) % 5⟩) → ((w21.setCell ⟨x, 6, none⟩ (.int .i64 ((v6 : Int) % 5))).alloc (.cells (sgC ⟨l2, (c2 : Int), f, (v3 : Int) % 3, (v4 : Int), (v5 : Int), (v6 : Int) % 5⟩).toArray 30)).grownBy w5 u.ownBlock → (qv'.ownBlock = u.ownBlock ∨ qv'.ownBlock = some ((w21.setCell ⟨x, 6, none⟩ (.int .i64 ((v6 : Int) % 5))).heap.size + 1)) → L1 w rb A0 n0 c0 z0 (k - 1) l2 c2 (Q ++ [⟨l2, (c2 : Int), f, (v3 : Int) % 3, (v4 : Int), (v5 : Int), (v6 : Int) % 5⟩]) qv' w5) := Lib.hid (fun qv' w5 h1 h2 h3 => by
          have hpu := HDa.out.push (by rw [← hol, ← hoxs]; exact h1) h2 h3
          have hlm := (HLa.out.grown (only_alloc (World.grownBy.refl _ _) (.cells (sgC ⟨l2, (c2 : Int), f, (v3 : Int) % 3, (v4 : Int), (v5 : Int), (v6 : Int) % 5⟩).toArray 30))).row h2 (fun g e => by
            have hb := HDa.out.own.lt _ e
            refine ⟨by omega, fun e2 => ?_⟩
            obtain ⟨cs, hbr⟩ := HLa.out.rd.next_
            exact own_blk_ne HDa.out.own hbr (by decide) (by rw [e, e2]))
          refine ⟨hlm, hpu.own, OrdTo.snoc (g := ⟨l2, (c2 : Int), f, (v3 : Int) % 3, (v4 : Int), (v5 : Int), (v6 : Int) % 5⟩) (OrdTo.mono HOR.out HLE.out), fun g hg => ?_, ?_, ?_, ?_⟩
          · rcases List.mem_append.1 hg with h | h
            · exact HQB.out g h
            · obtain rfl : g = ⟨l2, (c2 : Int), f, (v3 : Int) % 3, (v4 : Int), (v5 : Int), (v6 : Int) % 5⟩ := by simpa using h
              have := HFF.out
              exact ⟨by show l2 ≤ 1000; omega, by show (0 : Int) ≤ (c2 : Int) ∧ (c2 : Int) ≤ 1000; omega, this, by show (0 : Int) ≤ (v3 : Int) % 3 ∧ (v3 : Int) % 3 ≤ 1000; omega, by show (0 : Int) ≤ (v4 : Int) ∧ (v4 : Int) ≤ 1000; omega, by show (0 : Int) ≤ (v5 : Int) ∧ (v5 : Int) ≤ 1000; omega, by show (0 : Int) ≤ (v6 : Int) % 5 ∧ (v6 : Int) % 5 ≤ 1000; omega⟩
          · have := HCN.out; rw [List.length_append]; show _ + (_ + 1) ≤ _; omega
          · have := HLB.out; have := HLL.out; rw [List.length_append]; show _ ≤ 2 * (_ + 1); omega
          · have := HCB.out; have := HCC.out; rw [List.length_append]; show _ ≤ 40 * (_ + 1); omega)
        have e0 : (w21.setCell ⟨x, 6, none⟩ (.int .i64 ((v6 : Int) % 5))).cell? ⟨x, 0, none⟩ = some (.int .i64 (l2 : Int)) := (HDa.out.cell 0).1
        have e1 : (w21.setCell ⟨x, 6, none⟩ (.int .i64 ((v6 : Int) % 5))).cell? ⟨x, 1, none⟩ = some (.int .i64 (c2 : Int)) := (HDa.out.cell 1).1
        have e2 : (w21.setCell ⟨x, 6, none⟩ (.int .i64 ((v6 : Int) % 5))).cell? ⟨x, 2, none⟩ = some (.int .i64 f) := (HDa.out.cell 2).1
        have e3 : (w21.setCell ⟨x, 6, none⟩ (.int .i64 ((v6 : Int) % 5))).cell? ⟨x, 3, none⟩ = some (.int .i64 ((v3 : Int) % 3)) := (HDa.out.cell 3).1
        have e4 : (w21.setCell ⟨x, 6, none⟩ (.int .i64 ((v6 : Int) % 5))).cell? ⟨x, 4, none⟩ = some (.int .i64 (v4 : Int)) := (HDa.out.cell 4).1
        have e5 : (w21.setCell ⟨x, 6, none⟩ (.int .i64 ((v6 : Int) % 5))).cell? ⟨x, 5, none⟩ = some (.int .i64 (v5 : Int)) := (HDa.out.cell 5).1
        have e6 : (w21.setCell ⟨x, 6, none⟩ (.int .i64 ((v6 : Int) % 5))).cell? ⟨x, 6, none⟩ = some (.int .i64 ((v6 : Int) % 5)) := (HDa.out.cell 6).1
        obtain ⟨w22, hw22⟩ : ∃ W, W = w21.setCell ⟨x, 6, none⟩ (.int .i64 ((v6 : Int) % 5)) := ⟨_, rfl⟩
        rw [← hw22] at HSRC HSZ HPU e0 e1 e2 e3 e4 e5 e6 HOW
        first | rw [← hw22] | skip
        clear hol hoxs hw22
        go_wp2_with (at_builtin; refine wpList_append_own_src _ rfl (.tmp 83) (.tmp 85) 26 26 rfl w.heap.size 30 i0 _ 7 56 Tryd.underlying26 hi0 hz0 hz1 hz2 rfl u ol oxs rfl (HOW.out.alloc _) _ 1 _ rfl HSRC.out (by unfold maxLen; omega) (by omega) (by simp; exact HSZ.out) ?_)
        intro qv' w5 h1 h2 h3
        have HN5 := Lib.hid (HPU.out qv' w5 h1 h2 (by simpa using h3))
        have hwk : IntKind.i64.wrap ((k : Int) - 1) = ((k - 1 : Nat) : Int) := by rw [IntKind.wrap_i64]; have := HCN.out; omega
        clear h1 h2 h3
        go_wp2
        go_roundw
        case rel => exact ⟨k - 1, l2, c2, _, _, rfl, rfl, rfl, rfl, HN5.out⟩
        case measure => simp [intOf]; omega
    · have hk0' : ¬ ((0 : Int) < (k : Int)) := by omega
      have hQl : Q.length ≤ 15 := by omega
      clear h5 h6 h7
      obtain ⟨ws, hws⟩ : ∃ W, W = wa.alloc (.cells #[.int .i64 0, .int .i64 0, .int .i64 0, .int .i64 0] 34) := ⟨_, rfl⟩
      have hgs : wa.grownBy ws none := by rw [hws]; exact only_alloc (World.grownBy.refl _ _) _
      have HLS := Lib.hid (HLM.out.grown hgs)
      have HOS := Lib.hid (HOW.out.kept hgs (Classical.em _))
      have HSS : Hid (ws.ownsRow w.heap.size 34 4 (.slice (some ⟨wa.heap.size, 0, none⟩) 1 1) 1 (shsC [⟨0, 0, 0, 0⟩])) := Lib.hid (by
        rw [hws]
        exact ⟨rfl, .inr ⟨wa.heap.size, 1, _, rfl, HLM.out.gr.size, Blk.new _ _ _, Nat.le_refl _, by unfold maxLen; omega, rfl, rfl⟩⟩)
      subst hws
      clear hgs
      have HNX := Lib.hid (next_any w.heap.size rb A0 n0 c0 z0 _ HLS.out.rd (by omega))
      go_wp2_with (go_at_call 4; (with_reducible refine (HNX.out).mono ?_))
      rintro e wb ⟨nb, rfl, hnb, hrd, hgn⟩
      have HLT := Lib.hid (HLS.out.next hgn hrd)
      have HOT := Lib.hid (HLS.out.own HOS.out (by decide) hgn)
      have HST := Lib.hid (HLS.out.own HSS.out (by decide) hgn)
      clear hrd hgn HNX
      go_wp2
      go_loopw [5, 6, 11, 12, 13] (fun lv cv sv dv kv wr => ∃ (k l c : Nat) (dl : Int) (S : List Sh) (sv0 : Value), lv = .int .i64 (l : Int) ∧ cv = .int .i64 (c : Int) ∧ sv = sv0 ∧ dv = .int .i64 dl ∧ kv = .int .i64 (k : Int) ∧ L3 w rb A0 n0 c0 z0 Q u k l c dl S sv0 wr) (fun _ _ _ _ kv _ => (intOf kv).toNat)
      case atStart => exact ⟨nb % 8, 0, 0, 0, [⟨0, 0, 0, 0⟩], _, rfl, rfl, rfl, rfl, rfl, ⟨HLT.out, HOT.out, HST.out, SL.start, by show _ + 1 ≤ 8; omega, by simp, by simp, by simp⟩⟩
      case round =>
        obtain ⟨k, l, c, dl, S, sv, rfl, rfl, hsv, rfl, rfl, hl3⟩ := hrel
        obtain rfl := hsv.symm
        clear hsv
        obtain ⟨wa2, hwa2⟩ : ∃ W, W = wr := ⟨_, rfl⟩
        subst hwa2
        obtain ⟨h1, h2, h3, h4, h5, h6, h7, h8⟩ := hl3
        have HL3 := Lib.hid h1; have HO3 := Lib.hid h2; have HS3 := Lib.hid h3; have HSL := Lib.hid h4; have HCN3 := Lib.hid h5; have HLB3 := Lib.hid h6; have HCB3 := Lib.hid h7; have HDB3 := Lib.hid h8
        have hsl := h4.ne
        have HSN := Lib.hid hsl
        clear h1 h2 h3 h4 HLT HOT HST HLS HOS HSS
        by_cases hk3 : 0 < k
        · have hk3' : (0 : Int) < (k : Int) := by omega
          have hsl7 : S.length ≤ 7 := by omega
          have hl8 : l ≤ 8 := by omega
          have hc160 : c ≤ 160 := by omega
          have hd160 : -160 ≤ dl ∧ dl ≤ 48 := by omega
          obtain ⟨hd1, hd2⟩ := hd160
          clear h5 h6 h7 h8 hsl
          have HNX := Lib.hid (next_any w.heap.size rb A0 n0 c0 z0 _ HL3.out.rd (by omega))
          go_wp2_with (go_at_call 4; (with_reducible refine (HNX.out).mono ?_))
          rintro e wb3 ⟨cb3, rfl, hcb3, hrd, hgn⟩
          have HL4 := Lib.hid (HL3.out.next hgn hrd)
          have HO4 := Lib.hid (HL3.out.own HO3.out (by decide) hgn)
          have HS4 := Lib.hid (HL3.out.own HS3.out (by decide) hgn)
          clear hrd hgn HNX
          obtain ⟨bb, hbb⟩ : ∃ b, b = decide (cb3 % 3 = 2) := ⟨_, rfl⟩
          have hbb1 : ((cb3 : Int) % 3 == 2) = bb := by
            rw [hbb]
            by_cases h : cb3 % 3 = 2
            · have : (cb3 : Int) % 3 = 2 := by omega
              rw [this]; simp [h]
            · have : ¬ (cb3 : Int) % 3 = 2 := by omega
              rw [decide_eq_false h, beq_eq_false_iff_ne]; exact this
          clear hbb
          go_upto_if 100 with (fail)
          clear hbb1
          go_cut [5, 6, 12] from 101 to 102 (fun lv cv dv wx => ∃ (l2 c2 : Nat) (d2 : Int), lv = .int .i64 (l2 : Int) ∧ cv = .int .i64 (c2 : Int) ∧ dv = .int .i64 d2 ∧ (((l2 = l ∧ c2 = c) ∧ d2 = dl) ∨ ((l2 = l + 1 ∧ c2 = 0) ∧ d2 = 0)) ∧ wb3 = wx)
          case first =>
            have hwl : IntKind.i64.wrap ((l : Int) + 1) = (l : Int) + 1 := by rw [IntKind.wrap_i64]; omega
            cases bb with
            | true =>
              go_wp2
              go_meet
              exact ⟨l + 1, 0, 0, by simp, rfl, rfl, .inr ⟨⟨rfl, rfl⟩, rfl⟩, rfl⟩
            | false =>
              go_wp2
              go_meet
              exact ⟨l, c, dl, rfl, rfl, rfl, .inl ⟨⟨rfl, rfl⟩, rfl⟩, rfl⟩
          case rest =>
          obtain ⟨l2, c2, d2, rfl, rfl, rfl, hlcd, hwx⟩ := hcut
          subst hwx
          have hl9 : l2 ≤ 9 := by omega
          have hc9 : c2 ≤ 160 := by omega
          have hd9 : -160 ≤ d2 ∧ d2 ≤ 48 := by omega
          obtain ⟨hd91, hd92⟩ := hd9
          obtain ⟨c3, hc3⟩ : ∃ x, x = c2 + cb3 / 4 % 20 := ⟨_, rfl⟩
          have hw35 : IntKind.i64.wrap ((c2 : Int) + (cb3 : Int) / 4 % 20) = (c3 : Int) := by rw [IntKind.wrap_i64]; omega
          have hc3b : c3 ≤ 180 := by omega
          have HLE3 : Hid ((l : Int) < (l2 : Int) ∨ ((l : Int) = (l2 : Int) ∧ (c : Int) ≤ (c3 : Int))) := Lib.hid (by omega)
          have HB3 : Hid (l2 ≤ l + 1 ∧ c3 ≤ c + 20 ∧ -(c3 : Int) ≤ d2 ∧ d2 ≤ 6 * (S.length : Int)) := Lib.hid (by have := HDB3.out; omega)
          clear hlcd hc3
          have HNX := Lib.hid (next_any w.heap.size rb A0 n0 c0 z0 _ HL4.out.rd (by omega))
          go_wp2_with (go_at_call 4; (with_reducible refine (HNX.out).mono ?_))
          rintro e wc3 ⟨v9, rfl, hv9, hrd, hgn⟩
          have HL5 := Lib.hid (HL4.out.next hgn hrd)
          have HO5 := Lib.hid (HL4.out.own HO4.out (by decide) hgn)
          have HS5 := Lib.hid (HL4.out.own HS4.out (by decide) hgn)
          clear hrd hgn HNX
          have hw36 : IntKind.i64.wrap ((v9 : Int) % 9 - 3) = (v9 : Int) % 9 - 3 := by rw [IntKind.wrap_i64]; omega
          obtain ⟨d3, hd3⟩ : ∃ x, x = d2 + ((v9 : Int) % 9 - 3) := ⟨_, rfl⟩
          have hw37 : IntKind.i64.wrap (d2 + ((v9 : Int) % 9 - 3)) = d3 := by rw [IntKind.wrap_i64]; omega
          have hd3b : d2 - 3 ≤ d3 ∧ d3 ≤ d2 + 5 := by omega
          obtain ⟨hd31, hd32⟩ := hd3b
          have hw38 : IntKind.i64.wrap ((c3 : Int) + d3) = (c3 : Int) + d3 := by rw [IntKind.wrap_i64]; omega
          obtain ⟨b2, hb2⟩ : ∃ b, b = decide ((c3 : Int) + d3 < 0) := ⟨_, rfl⟩
          have hb21 : decide ((c3 : Int) + d3 < 0) = b2 := hb2.symm
          have HB2 := Lib.hid hb2
          clear hd3 hb2
          go_upto_if 117 with (fail)
          clear hb21
          go_cut [12] from 118 to 119 (fun dv wx => ∃ d4 : Int, dv = .int .i64 d4 ∧ -(c3 : Int) ≤ d4 ∧ (d4 ≤ d3 ∨ d4 ≤ 0) ∧ wc3 = wx)
          case first =>
            cases b2 with
            | true =>
              have hlt : (c3 : Int) + d3 < 0 := of_decide_eq_true HB2.out.symm
              go_wp2
              go_meet
              exact ⟨-(c3 : Int), rfl, by omega, .inr (by omega), rfl⟩
            | false =>
              have hlt : ¬ (c3 : Int) + d3 < 0 := of_decide_eq_false HB2.out.symm
              go_wp2
              go_meet
              exact ⟨d3, rfl, by omega, .inl (by omega), rfl⟩
          case rest =>
          obtain ⟨d4, rfl, hd41, hd42, hwx⟩ := hcut
          subst hwx
          have hd43 : d4 ≤ 53 := by omega
          have hw39 : IntKind.i64.wrap ((c3 : Int) + d4) = (c3 : Int) + d4 := by rw [IntKind.wrap_i64]; omega
          have hacb : -1000 ≤ (c3 : Int) + d4 ∧ (c3 : Int) + d4 ≤ 2000 := by omega
          obtain ⟨hacb1, hacb2⟩ := hacb
          obtain ⟨i0, hi0, hz0, hz1, hz2⟩ := info_parts sh_info
          obtain ⟨ol, hol⟩ : ∃ m, m = S.length := ⟨_, rfl⟩
          obtain ⟨oxs, hoxs⟩ : ∃ m, m = shsC S := ⟨_, rfl⟩
          have HOW3 := HS5
          rw [← hol, ← hoxs] at HOW3
          have holl : ol ≤ 7 := by omega
          have HSRC := Lib.hid (srcSh wc3 ⟨(l2 : Int), (c3 : Int), (l2 : Int), (c3 : Int) + d4⟩)
          have HSZ : Hid (w.heap.size ≤ wc3.heap.size + 1) := Lib.hid (Nat.le_succ_of_le HL5.out.gr.size)
          have HPU : Hid (∀ (qv' : Value) (w5 : World), w5.ownsRow w.heap.size 34 4 qv' (ol + 1) (oxs ++ shC ⟨(l2 : Int), (c3 : Int), (l2 : Int), (c3 : Int) + d4⟩) → (wc3.alloc (.cells (shC ⟨(l2 : Int), (c3 : Int), (l2 : Int), (c3 : Int) + d4⟩).toArray 34)).grownBy w5 sv.ownBlock → L3 w rb A0 n0 c0 z0 Q u (k - 1) l2 c3 d4 (S ++ [⟨(l2 : Int), (c3 : Int), (l2 : Int), (c3 : Int) + d4⟩]) qv' w5) := Lib.hid (fun qv' w5 h1 h2 => by
            have hga : wc3.grownBy (wc3.alloc (.cells (shC ⟨(l2 : Int), (c3 : Int), (l2 : Int), (c3 : Int) + d4⟩).toArray 34)) none := only_alloc (World.grownBy.refl _ _) _
            have hlm := (HL5.out.grown hga).row h2 (fun g e => by
              have hb := HS5.out.lt _ e
              refine ⟨by omega, fun e2 => ?_⟩
              obtain ⟨cs, hbr⟩ := HL5.out.rd.next_
              exact own_blk_ne HS5.out hbr (by decide) (by rw [e, e2]))
            have hoo := (HO5.out.kept hga (Classical.em _)).kept h2 (own_ne_own HO5.out HS5.out (by decide))
            have hb3 := HB3.out; have hcn := HCN3.out; have hlb := HLB3.out; have hcb := HCB3.out
            refine ⟨hlm, hoo, by rw [List.length_append, shsC_snoc, ← hol, ← hoxs]; exact h1, SL.snoc (SL.mono HSL.out HLE3.out) ⟨rfl, by show (0 : Int) ≤ (l2 : Int) ∧ (l2 : Int) ≤ 1000; omega, by show (0 : Int) ≤ (c3 : Int) ∧ (c3 : Int) ≤ 1000; omega, ⟨hacb1, hacb2⟩⟩, ?_, ?_, ?_, ?_⟩
            all_goals rw [List.length_append]
            · show _ + (_ + 1) ≤ _; omega
            · show _ ≤ _ + 1; omega
            · show _ ≤ 20 * (_ + 1); omega
            · show _ ∧ _ ≤ 6 * ((_ + 1 : Nat) : Int); omega)
          clear hol hoxs
          go_upto_region 39 with fail
          go_wp2_with (at_builtin; refine wpList_append_own_src _ rfl (.tmp 120) (.tmp 130) 35 35 rfl w.heap.size 34 i0 _ 4 32 Tryd.underlying35 hi0 hz0 hz1 hz2 rfl sv ol oxs rfl (HOW3.out.alloc _) _ 1 _ rfl HSRC.out (by unfold maxLen; omega) (by omega) (by simp; exact HSZ.out) ?_)
          intro qv' w5 h1 h2 h3
          have HN5 := Lib.hid (HPU.out qv' w5 h1 h2)
          have hwk3 : IntKind.i64.wrap ((k : Int) - 1) = ((k - 1 : Nat) : Int) := by rw [IntKind.wrap_i64]; have := HCN3.out; omega
          clear h1 h2 h3
          go_wp2
          go_roundw
          case rel => exact ⟨k - 1, l2, c3, d4, _, _, rfl, rfl, rfl, rfl, rfl, HN5.out⟩
          case measure => simp [intOf]; omega
        · have hk3' : ¬ ((0 : Int) < (k : Int)) := by omega
          clear h5 h6 h7 h8 hsl
          obtain ⟨AQ, cQ, rfl⟩ := own_sslice HO3.out
          obtain ⟨gS, cS, rfl, hcS⟩ : ∃ g c, sv = .slice (some ⟨g, 0, none⟩) S.length c ∧ S.length ≤ c := by
            rcases HS3.out.2 with ⟨e1, e2⟩ | ⟨g, cap, cur, e1, _, _, e3, _⟩
            · have := HSN.out; omega
            · exact ⟨g, cap, e1, e3⟩
          have hSl : S.length ≤ 8 := by have := HCN3.out; omega
          have hQ1 : ∀ g ∈ Q, PB g ∧ FB g := fun g hg => ⟨(HQB.out g hg).pb, (HQB.out g hg).f⟩
          have HQ1 := Lib.hid hQ1
          have HO := Lib.hid (OrdTo.ord HOR.out)
          have HEN := Lib.hid (encode_any AQ Q.length cQ Q wa2 (SgB.of_own HO3.out) (by omega) hQ1 HO.out)
          clear hQ1
          go_wp2_with (go_at_call 5; (with_reducible refine (HEN.out).mono ?_))
          rintro e wE ⟨tS, rfl, hts, hgE⟩
          have HTS := Lib.hid hts
          have htsz : tS.size ≤ 200000 := by
            have h1 := enc_len Q false zs PB.zs_ (fun g hg => (HQ1.out g hg).1)
            rw [size_list, hts]; omega
          have HLE := Lib.hid (HL3.out.grown hgE)
          have HSE := Lib.hid (HS3.out.kept hgE (Classical.em _))
          clear hts hgE HEN
          have s1 : (wE.alloc (.cells #[.int .u8 60] 5 (1, 2))).heap.size = wE.heap.size + 1 := by simp
          obtain ⟨cap, row, fr, hcap, hrow, hconv⟩ := conv_bytes tS (wE.alloc (.cells #[.int .u8 60] 5 (1, 2)))
          rw [s1] at hconv
          have e60 := conv_const wE 60
          have e62 := conv_const ((wE.alloc (.cells #[.int .u8 60] 5 (1, 2))).drew.alloc (.cells row 5 fr)) 62
          have s2 : ((wE.alloc (.cells #[.int .u8 60] 5 (1, 2))).drew.alloc (.cells row 5 fr)).heap.size = wE.heap.size + 1 + 1 := by simp
          rw [s2] at e62
          have e62' : (convert 22 22 (.slice (some ⟨wE.heap.size + 1 + 1, 0, none⟩) 1 1)).run Tryd.prog (((wE.alloc (.cells #[.int .u8 60] 5 (1, 2))).alloc (.cells row 5 fr)).alloc (.cells #[.int .u8 62] 5)).drew = .ok (.slice (some ⟨wE.heap.size + 1 + 1, 0, none⟩) 1 1) (((wE.alloc (.cells #[.int .u8 60] 5 (1, 2))).alloc (.cells row 5 fr)).alloc (.cells #[.int .u8 62] 5 (1, 2))).drew := e62
          clear e62
          obtain ⟨W4, hW4⟩ : ∃ W4, W4 = ((((wE.alloc (.cells #[.int .u8 60] 5 (1, 2))).alloc (.cells row 5 fr)).alloc (.cells #[.int .u8 62] 5 (1, 2))).alloc (.cells #[.slice (some ⟨wE.heap.size, 0, none⟩) 1 1, .slice (some ⟨wE.heap.size + 1, 0, none⟩) tS.size cap, .slice (some ⟨wE.heap.size + 1 + 1, 0, none⟩) 1 1] 38)).drew := ⟨_, rfl⟩
          obtain ⟨hg4, tx1, tx2, tx3, hb4⟩ := pieces_world hrow (W4 := W4) (by rw [hW4]; rfl)
          have HL4 := Lib.hid (HLE.out.grown hg4)
          have HS4 := Lib.hid (HSE.out.kept hg4 (Classical.em _))
          have HTX2 := Lib.hid tx2; have HPB4 := Lib.hid hb4
          obtain ⟨TQ, hTQ⟩ : ∃ T, T = enc false zs (Q.map (sh S)) := ⟨_, rfl⟩
          have hpbq : ∀ g ∈ Q.map (sh S), PB g ∧ FB g := fun g hg => by
            obtain ⟨g', hg', rfl⟩ := List.mem_map.1 hg
            exact sh_pb (HQB.out g' hg') HSL.out.sq
          have HPBQ := Lib.hid hpbq
          have hTQl : TQ.length ≤ 200000 := by
            have h1 := enc_len (Q.map (sh S)) false zs PB.zs_ (fun g hg => (hpbq g hg).1)
            rw [← hTQ, List.length_map] at h1
            omega
          have HTQ := Lib.hid hTQ
          have HFI : Hid (Calls Tryd.prog 6 #[.agg #[.slice (some ⟨wE.heap.size, 0, none⟩) 1 1, .slice (some ⟨wE.heap.size + 1, 0, none⟩) tS.size cap, .slice (some ⟨wE.heap.size + 1 + 1, 0, none⟩) 1 1], .slice (some ⟨gS, 0, none⟩) S.length cS] W4 (FinPost TQ W4)) := Lib.hid (by
            by_cases hone : S.length = 1
            · have hT : tS.data.toList = TQ := by rw [HTS.out, hTQ, map_sh_id hone]
              rw [hone]
              refine (fin_one _ _ _ tS.size cap 1 gS cS tS.data.toList W4 tx1 tx2 tx3 (by omega)).mono (fun e w' h => ?_)
              rw [hT] at h
              exact h
            · have hpos := HSN.out
              exact fin_many _ _ _ 1 tS.size cap 1 gS S.length cS tS.data.toList TQ Q S W4 tx1 tx2 tx3 (ShB.of_own HS4.out) (HB64.out.grown HL4.out.gr) HTS.out hTQ (fun g hg => HQ1.out g hg) (fun g hg => (HQB.out g hg).col.1) HO.out (by omega) rfl (by omega) (by omega) hcS HSL.out.srt (fun s hs => (HSL.out.sq s hs).sb) hcap (by omega))
          clear hrow hg4 tx1 tx2 tx3 hb4 hTQ hpbq s1 s2 HLE HSE
          go_upto_region 42 with fail
          first | rw [← hW4] | skip
          clear hW4 hconv e60 e62'
          have p0 : W4.cell? ⟨wE.heap.size + 1 + 1 + 1, 0, none⟩ = some (.slice (some ⟨wE.heap.size, 0, none⟩) 1 1) := HPB4.out.cell 0
          have p1 : W4.cell? ⟨wE.heap.size + 1 + 1 + 1, 1, none⟩ = some (.slice (some ⟨wE.heap.size + 1, 0, none⟩) tS.size cap) := HPB4.out.cell 1
          have p2 : W4.cell? ⟨wE.heap.size + 1 + 1 + 1, 2, none⟩ = some (.slice (some ⟨wE.heap.size + 1 + 1, 0, none⟩) 1 1) := HPB4.out.cell 2
          go_wp2_with (go_at_call 6; (with_reducible refine (HFI.out).mono ?_))
          rintro e wF ⟨AF, nF, cF, rfl, htF, hgF⟩
          have hcv := conv_back wF AF nF cF (60 :: (TQ ++ [62])) htF
          obtain ⟨DS, hDS⟩ : ∃ s : ByteArray, s = ⟨(60 :: (TQ ++ [62])).toArray⟩ := ⟨_, rfl⟩
          rw [← hDS] at hcv
          have hDL : DS.data.toList = 60 :: (TQ ++ [62]) := by rw [hDS]
          have HDL := Lib.hid hDL
          have hds2 : DS.size = TQ.length + 2 := by rw [size_list, hDL]; simp
          have hl0 : 0 < DS.size := by omega
          have hl1 : DS.size - 1 < DS.size := by omega
          have q60 : (((DS[0]'hl0).toNat : Int) != 60) = false := by
            have := (byte_at (s := DS) (pre := []) (c := 60) (post := TQ ++ [62]) (i := 0) hDL rfl).2
            rw [this]; rfl
          have q62 : (((DS[DS.size - 1]'hl1).toNat : Int) != 62) = false := by
            have := (byte_at (s := DS) (pre := 60 :: TQ) (c := 62) (post := []) (i := DS.size - 1) hDL (by simp; omega)).2
            rw [this]; rfl
          have hlt2 : ¬ (DS.size : Int) < 2 := by omega
          have hlt2n : ¬ DS.size < 2 := by omega
          have hwds : IntKind.i64.wrap ((DS.size : Int) - 1) = ((DS.size - 1 : Nat) : Int) := by rw [IntKind.wrap_i64]; omega
          have hdsb : DS.size ≤ 300000 := by omega
          have hdse : (DS.extract 1 (DS.size - 1)).data.toList = TQ := by
            rw [ByteArray.data_extract, Array.toList_extract, List.extract_eq_take_drop, hDL, hds2]
            simp
          have HLF := Lib.hid (HL4.out.grown hgF)
          have HSF := Lib.hid (HS4.out.kept hgF (Classical.em _))
          have HTXF := Lib.hid (HTX2.out.grown hgF); have HPBF := Lib.hid (HPB4.out.grown hgF (by simp))
          obtain ⟨qn, hqn⟩ : ∃ n, n = Q.length := ⟨_, rfl⟩
          have HQN := Lib.hid hqn
          have hqnb : qn ≤ 15 := by omega
          have HOL := Lib.hid (Ord.lines HO.out)
          have HDE1 : Hid (∀ W, Calls Tryd.prog 7 #[.string (DS.extract 1 (DS.size - 1))] W (DecP (states zs (Q.map (sh S))) qn W)) := Lib.hid (fun W => (decode_any (DS.extract 1 (DS.size - 1)) (Q.map (sh S)) W (by rw [hdse, HTQ.out]) (by rw [List.length_map]; omega) HPBQ.out (OrdL.sh_ S HOL.out)).mono (fun e w' h => decP h (by rw [states_len, List.length_map, hqn])))
          have HDE2 : Hid (∀ W, Calls Tryd.prog 7 #[.string tS] W (DecP (states zs Q) qn W)) := Lib.hid (fun W => (decode_any tS Q W HTS.out (by omega) HQ1.out HOL.out).mono (fun e w' h => decP h (by rw [states_len, hqn])))
          clear htF hgF hDS hDL hds2 hdse hqn HL4 HS4 p0 p1 p2 HFI
          go_wp2_with (go_at_call 7; (with_reducible refine (HDE1.out _).mono ?_))
          rintro e wG ⟨AG, cG, rfl, hsG, hgG⟩
          have HSG := Lib.hid hsG
          clear hcv hsG
          go_wp2_with (go_at_call 7; (with_reducible refine (HDE2.out _).mono ?_))
          rintro e wP ⟨AP, cP, rfl, hsP, hgP⟩
          have HSP := Lib.hid hsP
          have HSG := Lib.hid (HSG.out.grown hgP)
          have hgGP := grownBy_acc hgG hgP
          have HLP := Lib.hid (HLF.out.grown hgGP)
          have HSR := Lib.hid (ShB.of_own (HSF.out.kept hgGP (Classical.em _)))
          have HTXP := Lib.hid (HTXF.out.grown hgGP); have HPBP := Lib.hid (HPBF.out.grown hgGP (by simp))
          clear hsP hgG hgP hgGP HLF HSF
          obtain ⟨SA, hcut, hSA⟩ := cuts gS S.length cS HSN.out hcS
          obtain ⟨sn, hsn⟩ : ∃ n, n = S.length - 1 := ⟨_, rfl⟩
          obtain ⟨sc1, hsc1⟩ : ∃ n, n = cS - 1 := ⟨_, rfl⟩
          rw [← hsn, ← hsc1] at hcut
          have HSAX := Lib.hid hSA; have HSNN := Lib.hid hsn
          clear hSA hsn hsc1
          go_wp2
          go_loopw [22] (fun iv wr => ∃ k : Nat, iv = .int .i64 (k : Int) ∧ k ≤ qn ∧ wP.grownBy wr none) (fun iv _ => qn - (intOf iv).toNat)
          case atStart => exact ⟨0, rfl, Nat.zero_le _, World.grownBy.refl _ _⟩
          case round =>
            obtain ⟨k5, rfl, hk5, hgr5⟩ := hrel
            have HG5 := Lib.hid hgr5
            clear hgr5
            by_cases hlt5 : k5 < qn
            · have hlt5' : (k5 : Int) < (qn : Int) := by omega
              obtain ⟨wq, hwq⟩ : ∃ W, W = wr := ⟨_, rfl⟩
              subst hwq
              obtain ⟨gp, y, rfl, hy, hpc⟩ := (HSP.out.grown HG5.out).cells hlt5
              obtain ⟨gg, y2, rfl, hy2, hgc⟩ := (HSG.out.grown HG5.out).cells hlt5
              obtain rfl : sh S y = y2 := by have := states_get (S := S) hy; rw [this] at hy2; exact Option.some.inj hy2
              have hyb : PB y := states_pb PB.zs_ (fun g hg => (HQ1.out g hg).1) (List.mem_of_getElem? hy)
              have hmb := mv_bound (y.line : Int) y.col (S.drop 1) 0 (fun s h => HSL.out.sq s (List.mem_of_mem_drop h)) (by omega)
              obtain ⟨yl, yc, yf, ys, yo, yq, yn⟩ := y
              obtain ⟨mm, hmm⟩ : ∃ m, m = mv (S.drop 1) (yl : Int) yc := ⟨_, rfl⟩
              dsimp only at hmb
              have hmb2 : -5000 ≤ mm ∧ mm ≤ 5000 := by rw [hmm]; exact hmb
              obtain ⟨hmb3, hmb4⟩ := hmb2
              obtain ⟨yb1, ⟨yb2, yb3⟩, _, _, _, _⟩ := hyb
              dsimp only at yb1 yb2 yb3
              have k0 : wq.cell? ⟨gp, k5 * 7, none⟩ = some (.int .i64 (yl : Int)) := hpc 0 (by omega)
              have k1 : wq.cell? ⟨gp, k5 * 7 + 1, none⟩ = some (.int .i64 yc) := hpc 1 (by omega)
              have k2 : wq.cell? ⟨gp, k5 * 7 + 2, none⟩ = some (.int .i64 yf) := hpc 2 (by omega)
              have k3 : wq.cell? ⟨gp, k5 * 7 + 3, none⟩ = some (.int .i64 ys) := hpc 3 (by omega)
              have k4 : wq.cell? ⟨gp, k5 * 7 + 4, none⟩ = some (.int .i64 yo) := hpc 4 (by omega)
              have k5' : wq.cell? ⟨gp, k5 * 7 + 5, none⟩ = some (.int .i64 yq) := hpc 5 (by omega)
              have k6 : wq.cell? ⟨gp, k5 * 7 + 6, none⟩ = some (.int .i64 yn) := hpc 6 (by omega)
              have r1 : wq.cell? ⟨gg, k5 * 7 + 1, none⟩ = some (.int .i64 (yc + mm)) := by rw [hmm]; exact hgc 1 (by omega)
              have HR : Hid (wq.cell? ⟨gg, k5 * 7, none⟩ = some (.int .i64 (yl : Int)) ∧ wq.cell? ⟨gg, k5 * 7 + 1, none⟩ = some (.int .i64 (yc + mm)) ∧ wq.cell? ⟨gg, k5 * 7 + 2, none⟩ = some (.int .i64 yf) ∧ wq.cell? ⟨gg, k5 * 7 + 3, none⟩ = some (.int .i64 ys) ∧ wq.cell? ⟨gg, k5 * 7 + 4, none⟩ = some (.int .i64 yo) ∧ wq.cell? ⟨gg, k5 * 7 + 5, none⟩ = some (.int .i64 yq) ∧ wq.cell? ⟨gg, k5 * 7 + 6, none⟩ = some (.int .i64 yn)) := Lib.hid ⟨hgc 0 (by omega), r1, hgc 2 (by omega), hgc 3 (by omega), hgc 4 (by omega), hgc 5 (by omega), hgc 6 (by omega)⟩
              have HMM := Lib.hid hmm
              have hwy : IntKind.i64.wrap (yc + mm) = yc + mm := by rw [IntKind.wrap_i64]; omega
              have hwk5 : IntKind.i64.wrap ((k5 : Int) + 1) = (k5 : Int) + 1 := by rw [IntKind.wrap_i64]; omega
              obtain ⟨W6, hW6⟩ : ∃ W, W = wq.alloc (.cells #[.int .i64 (yl : Int), .int .i64 yc, .int .i64 yf, .int .i64 ys, .int .i64 yo, .int .i64 yq, .int .i64 yn] 30) := ⟨_, rfl⟩
              obtain ⟨X, hX⟩ : ∃ x, x = wq.heap.size := ⟨_, rfl⟩
              have HBX := Lib.hid (show Blk W6 X 30 #[.int .i64 (yl : Int), .int .i64 yc, .int .i64 yf, .int .i64 ys, .int .i64 yo, .int .i64 yq, .int .i64 yn] by rw [hW6, hX]; exact Blk.new _ _ _)
              have HG6 : Hid (wq.grownBy W6 none) := Lib.hid (by rw [hW6]; exact only_alloc (World.grownBy.refl _ _) _)
              have HXX := Lib.hid hX
              clear hmm hy hy2 hpc hgc r1 hmb hX
              go_upto_region 53 with fail
              first | rw [← hW6] | skip
              first | rw [← HXX.out] | skip
              clear hW6 k0 k1 k2 k3 k4 k5' k6
              go_wp2
              go_loopw [24, 201] (fun mv0 jv wr2 => ∃ (j : Nat) (m : Int), mv0 = .int .i64 m ∧ jv = .int .i64 (j : Int) ∧ j ≤ sn ∧ m = ((S.drop 1).take j).foldl (mvStep (yl : Int) yc) 0 ∧ W6.grownBy wr2 none) (fun _ jv _ => sn - (intOf jv).toNat)
              case atStart => exact ⟨0, 0, rfl, rfl, Nat.zero_le _, rfl, World.grownBy.refl _ _⟩
              case round =>
                obtain ⟨j, m, rfl, rfl, hj, hm, hgr⟩ := hrel
                have HMJ := Lib.hid hm; have HG7 := Lib.hid hgr
                clear hm hgr
                obtain ⟨w7, hw7⟩ : ∃ W, W = wr := ⟨_, rfl⟩
                subst hw7
                have HBX7 := Lib.hid (HBX.out.grown HG7.out (by simp))
                by_cases hjl : j < sn
                · have hjl' : (j : Int) < (sn : Int) := by omega
                  have hsn1 : 1 < S.length := by have := HSNN.out; omega
                  obtain rfl : SA = some ⟨gS, 4, none⟩ := HSAX.out hsn1
                  obtain ⟨s, hs⟩ : ∃ s, S[j + 1]? = some s := ⟨S[j + 1]'(by have := HSNN.out; omega), List.getElem?_eq_getElem _⟩
                  have hk := ((HSR.out.grown HG5.out).grown (grownBy_acc HG6.out HG7.out)).cells hs
                  have hsq := HSL.out.sq s (List.mem_of_getElem? hs)
                  have hst : mvStep (yl : Int) yc m s = ((S.drop 1).take (j + 1)).foldl (mvStep (yl : Int) yc) 0 := by
                    rw [fold_take (yl : Int) yc (S.drop 1) j s (by rw [List.getElem?_drop, Nat.add_comm]; exact hs), HMJ.out]
                  obtain ⟨sbl, sbo, sal, sac⟩ := s
                  obtain ⟨z1, z2, z3, z4⟩ := hsq
                  dsimp only at z1 z2 z3 z4
                  subst z1
                  have k0 : w7.cell? ⟨gS, 4 + j * 4, none⟩ = some (.int .i64 sal) := by have := hk 0 (by omega); rw [show (j + 1) * 4 + 0 = 4 + j * 4 by omega] at this; exact this
                  have k1 : w7.cell? ⟨gS, 4 + j * 4 + 1, none⟩ = some (.int .i64 sbo) := by have := hk 1 (by omega); rw [show (j + 1) * 4 + 1 = 4 + j * 4 + 1 by omega] at this; exact this
                  have k2 : w7.cell? ⟨gS, 4 + j * 4 + 2, none⟩ = some (.int .i64 sal) := by have := hk 2 (by omega); rw [show (j + 1) * 4 + 2 = 4 + j * 4 + 2 by omega] at this; exact this
                  have k3 : w7.cell? ⟨gS, 4 + j * 4 + 3, none⟩ = some (.int .i64 sac) := by have := hk 3 (by omega); rw [show (j + 1) * 4 + 3 = 4 + j * 4 + 3 by omega] at this; exact this
                  obtain ⟨W8, hW8⟩ : ∃ W, W = w7.alloc (.cells #[.int .i64 sal, .int .i64 sbo, .int .i64 sal, .int .i64 sac] 34) := ⟨_, rfl⟩
                  obtain ⟨Z, hZ⟩ : ∃ x, x = w7.heap.size := ⟨_, rfl⟩
                  have HBZ := Lib.hid (show Blk W8 Z 34 #[.int .i64 sal, .int .i64 sbo, .int .i64 sal, .int .i64 sac] by rw [hW8, hZ]; exact Blk.new _ _ _)
                  have HG8 : Hid (W6.grownBy W8 none) := Lib.hid (by rw [hW8]; exact only_alloc HG7.out _)
                  have HBX8 := Lib.hid (HBX.out.grown HG8.out (by simp))
                  have n0 : W8.cell? ⟨Z, 0, none⟩ = some (.int .i64 sal) := HBZ.out.cell 0
                  have n1 : W8.cell? ⟨Z, 1, none⟩ = some (.int .i64 sbo) := HBZ.out.cell 1
                  have n2 : W8.cell? ⟨Z, 2, none⟩ = some (.int .i64 sal) := HBZ.out.cell 2
                  have n3 : W8.cell? ⟨Z, 3, none⟩ = some (.int .i64 sac) := HBZ.out.cell 3
                  have x0 : W8.cell? ⟨X, 0, none⟩ = some (.int .i64 (yl : Int)) := HBX8.out.cell 0
                  have x1 : W8.cell? ⟨X, 1, none⟩ = some (.int .i64 yc) := HBX8.out.cell 1
                  have hwj : IntKind.i64.wrap ((j : Int) + 1) = (j : Int) + 1 := by rw [IntKind.wrap_i64]; have := HSNN.out; omega
                  have hwm : IntKind.i64.wrap (sac - sbo) = sac - sbo := by rw [IntKind.wrap_i64]; omega
                  have HST := Lib.hid hst
                  clear hk hs hst
                  go_upto_region 57 with fail
                  first | rw [← hW8] | skip
                  first | rw [← hZ] | skip
                  clear hW8 hZ k0 k1 k2 k3
                  by_cases c1 : sal < (yl : Int)
                  · have q1 : decide (sal < (yl : Int)) = true := by simp [c1]
                    have q4 : (sal == (yl : Int)) = false := by rw [beq_eq_false_iff_ne]; omega
                    have HE : Hid ((0 : Int) = ((S.drop 1).take (j + 1)).foldl (mvStep (yl : Int) yc) 0) := Lib.hid (by
                      rw [← HST.out, mv_a _ _ _ _ _ _ c1])
                    go_wp2
                    go_roundw
                    case rel => exact ⟨j + 1, 0, rfl, by simp, by omega, HE.out, HG8.out⟩
                    case measure => simp [intOf]; omega
                  have q1 : decide (sal < (yl : Int)) = false := by simp; omega
                  by_cases c2 : sal = (yl : Int)
                  · have q2 : (sal == (yl : Int)) = true := by rw [c2]; simp
                    by_cases c3 : sbo < yc
                    · have q3 : decide (sbo < yc) = true := by simp [c3]
                      have HE : Hid (sac - sbo = ((S.drop 1).take (j + 1)).foldl (mvStep (yl : Int) yc) 0) := Lib.hid (by
                        rw [← HST.out, mv_b _ _ _ _ _ _ c2 c3])
                      clear c2
                      go_wp2
                      go_roundw
                      case rel => exact ⟨j + 1, sac - sbo, rfl, by simp, by omega, HE.out, HG8.out⟩
                      case measure => simp [intOf]; omega
                    · have q3 : decide (sbo < yc) = false := by simp; omega
                      have HE : Hid (m = ((S.drop 1).take (j + 1)).foldl (mvStep (yl : Int) yc) 0) := Lib.hid (by
                        rw [← HST.out, mv_c _ _ _ _ _ _ (by omega)])
                      clear c2
                      go_wp2
                      go_roundw
                      case rel => exact ⟨j + 1, m, rfl, by simp, by omega, HE.out, HG8.out⟩
                      case measure => simp [intOf]; omega
                  · have q2 : (sal == (yl : Int)) = false := by rw [beq_eq_false_iff_ne]; exact c2
                    have HE : Hid (m = ((S.drop 1).take (j + 1)).foldl (mvStep (yl : Int) yc) 0) := Lib.hid (by
                      rw [← HST.out, mv_c _ _ _ _ _ _ (by omega)])
                    go_wp2
                    go_roundw
                    case rel => exact ⟨j + 1, m, rfl, by simp, by omega, HE.out, HG8.out⟩
                    case measure => simp [intOf]; omega
                · obtain rfl : j = sn := by omega
                  have hjl' : ¬ ((j : Int) < (j : Int)) := by omega
                  obtain rfl : m = mm := by
                    rw [HMJ.out, HMM.out, List.take_of_length_le (by rw [List.length_drop]; have := HSNN.out; omega)]; rfl
                  have x1 : w7.cell? ⟨X, 1, none⟩ = some (.int .i64 yc) := HBX7.out.cell 1
                  have zx := HBX7.out.frozen 1
                  obtain ⟨W9, hW9⟩ : ∃ W, W = w7.setCell ⟨X, 1, none⟩ (.int .i64 (yc + m)) := ⟨_, rfl⟩
                  have HBX9 : Hid (Blk W9 X 30 #[.int .i64 (yl : Int), .int .i64 (yc + m), .int .i64 yf, .int .i64 ys, .int .i64 yo, .int .i64 yq, .int .i64 yn]) := Lib.hid (by
                    have := HBX7.out.set_ 1 (.int .i64 (yc + m))
                    rw [hW9]; simpa using this)
                  have hgg : gg < wq.heap.size := World.block_lt_of_cell? _ _ HR.out.1
                  have HK9 : Hid (∀ i v, wq.cell? ⟨gg, i, none⟩ = some v → W9.cell? ⟨gg, i, none⟩ = some v) := Lib.hid (fun i v hv => by
                    have h1 : w7.cell? ⟨gg, i, none⟩ = wq.cell? ⟨gg, i, none⟩ := World.cell?_of_block ((grownBy_acc HG6.out HG7.out).block gg hgg (by simp))
                    rw [hW9, World.cell?_setCell_other w7 ⟨X, 1, none⟩ ⟨gg, i, none⟩ _ (fun e => by have := HXX.out; injection e with e1 e2; omega), h1]
                    exact hv)
                  have HG9 : Hid (wP.grownBy W9 none) := Lib.hid (by
                    have h1 := grownBy_acc HG5.out (grownBy_acc HG6.out HG7.out)
                    rw [hW9]
                    exact ⟨h1.os, h1.tape, h1.output, by rw [size_setCell]; exact h1.size, fun i hi hne => (Below.heap_setCell w7 ⟨X, 1, none⟩ _ i (by show i ≠ X; have := HXX.out; have := HG5.out.size; omega)).trans (h1.block i hi hne)⟩)
                  obtain ⟨a0, a1, a2, a3, a4, a5, a6⟩ := HR.out
                  have b0 := HK9.out _ _ a0; have b1 := HK9.out _ _ a1; have b2 := HK9.out _ _ a2; have b3 := HK9.out _ _ a3; have b4 := HK9.out _ _ a4; have b5 := HK9.out _ _ a5; have b6 := HK9.out _ _ a6
                  have y0 : W9.cell? ⟨X, 0, none⟩ = some (.int .i64 (yl : Int)) := HBX9.out.cell 0
                  have y1 : W9.cell? ⟨X, 1, none⟩ = some (.int .i64 (yc + m)) := HBX9.out.cell 1
                  have y2 : W9.cell? ⟨X, 2, none⟩ = some (.int .i64 yf) := HBX9.out.cell 2
                  have y3 : W9.cell? ⟨X, 3, none⟩ = some (.int .i64 ys) := HBX9.out.cell 3
                  have y4 : W9.cell? ⟨X, 4, none⟩ = some (.int .i64 yo) := HBX9.out.cell 4
                  have y5 : W9.cell? ⟨X, 5, none⟩ = some (.int .i64 yq) := HBX9.out.cell 5
                  have y6 : W9.cell? ⟨X, 6, none⟩ = some (.int .i64 yn) := HBX9.out.cell 6
                  clear a0 a1 a2 a3 a4 a5 a6 hgg
                  go_upto_region 63 with fail
                  first | rw [← hW9] | skip
                  clear hW9 x1 zx
                  go_quiet (fail)
                  go_wp2
                  go_roundw
                  case rel => exact ⟨k5 + 1, by simp, by omega, only_drewN HG9.out _⟩
                  case measure => simp [intOf]; omega
            · obtain rfl : k5 = qn := by omega
              have hlt5' : ¬ ((k5 : Int) < (k5 : Int)) := by omega
              have m1 : wr.cell? ⟨wE.heap.size + 1 + 1 + 1, 1, none⟩ = some (.slice (some ⟨wE.heap.size + 1, 0, none⟩) tS.size cap) := (HPBP.out.grown HG5.out (by simp)).cell 1
              have hcv := conv_back wr (some ⟨wE.heap.size + 1, 0, none⟩) tS.size cap tS.data.toList (HTXP.out.grown HG5.out)
              have hts2 : (⟨tS.data.toList.toArray⟩ : ByteArray) = tS := rfl
              rw [hts2] at hcv
              have HEND5 : Hid (Below w.heap.size w wr) := Lib.hid (by
                have h := (HLP.out.grown HG5.out).gr
                exact ⟨h.os, h.tape, h.output, h.size, fun i hi => h.block i hi (by simp)⟩)
              clear hts2
              go_wp2
              go_ret
              exact ⟨rfl, HEND5.out⟩
end Go.Proofs.YthbmffocgccniaaDoor
