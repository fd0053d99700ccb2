/- The walk of FnTLAValidationIsShortestStmtDistance. -/
import Derived.Test.YtecncdcfmmceeaaGreatTnq
import Derived.Deep.QuietTactic
namespace Go.Proofs.YtecncdcfmmceeaaGreat
open Go.RowKit
set_option linter.unusedVariables false
set_option linter.unusedSimpArgs false
theorem bfs_fl {n m : Nat} {ok aw : Nat → Bool} {fr ds kb : Nat → Nat} {d : Nat → Nat} {q : List Nat} {h : Nat} (hn : n ≤ 65536) (hb : BInv n (fun j => decide (j < n) && ok j) aw (edg m fr ds kb) d q h) (hq : q.length ≤ h) : BfsOK (grN n ok aw fr ds kb m) d := by
  have hG : ∀ j, (grN n ok aw fr ds kb m).ok j = true → j < n := fun j h => by
    have h' : (decide (j < n) && ok j) = true := h
    rw [Bool.and_eq_true] at h'
    exact of_decide_eq_true h'.1
  refine ⟨fun j => ?_, fun j k hj => ?_, fun j t hok ht hd => ?_⟩
  · rw [hb.i5 j]
    exact ⟨fun ⟨_, h1, h2⟩ => ⟨h1, h2⟩, fun ⟨h1, h2⟩ => ⟨hG j h1, h1, h2⟩⟩
  · obtain ⟨h1, t, h2, h3⟩ := hb.i6 j k hj
    have htn : t < n := (hb.i1 t (hb.i2 t (by omega))).1
    exact ⟨h1, t, (grN_edg n m ok aw fr ds kb hn j t).1 ⟨h2, htn⟩, h3⟩
  · obtain ⟨p, hp, he⟩ := List.mem_iff_getElem.1 (hb.i2 t hd)
    exact hb.i7 p t (by omega) (by rw [List.getElem?_eq_getElem hp, he]) j ((grN_edg n m ok aw fr ds kb hn j t).2 ht).1 hok
theorem any_eq {n m : Nat} {ok aw : Nat → Bool} {fr ds kb : Nat → Nat} {σ' : TS} {b c : Bool} (hs : Sound (grN n ok aw fr ds kb m) σ') (hset : ∀ k, Settled (grN n ok aw fr ds kb m) σ' k) (hf : Flag σ0 σ' false b)
    (hc : c = true ↔ ∃ t, t < n ∧ ok t = true ∧ aw t = true) : b = c := by
  have h := has_any hs hset hf
  have he : (∃ t, (grN n ok aw fr ds kb m).ok t = true ∧ (grN n ok aw fr ds kb m).aw t = true) ↔ ∃ t, t < n ∧ ok t = true ∧ aw t = true := by
    constructor
    · rintro ⟨t, h1, h2⟩
      have h' : (decide (t < n) && ok t) = true := h1
      rw [Bool.and_eq_true] at h'
      exact ⟨t, of_decide_eq_true h'.1, h'.2, h2⟩
    · rintro ⟨t, h1, h2, h3⟩
      exact ⟨t, by show (decide (t < n) && ok t) = true; rw [Bool.and_eq_true]; exact ⟨decide_eq_true h1, h2⟩, h3⟩
  rw [he, ← hc] at h
  exact Bool.eq_iff_iff.2 h
set_option maxHeartbeats 8000000 in
set_option maxRecDepth 100000 in
theorem law_walk (A0 A1 A2 A3 A4 : Option Addr) (n0 n1 n2 n3 n4 c0 c1 c2 c3 c4 : Nat) (z0 z1 : List Bool) (z2 z3 z4 : List Int) (w : World)
    (r0 : IsBools w A0 n0 c0 z0) (r1 : IsBools w A1 n1 c1 z1)
    (r2 : Reads w w.heap.size 1 A2 n2 (z2.map (Value.int .u16))) (r3 : Reads w w.heap.size 1 A3 n3 (z3.map (Value.int .u16))) (r4 : Reads w w.heap.size 1 A4 n4 (z4.map (Value.int .u8)))
    (e2 : A2 = none → n2 = 0) (e3 : A3 = none → n3 = 0) (e4 : A4 = none → n4 = 0) (b2 : n2 ≤ maxLen) (b3 : n3 ≤ maxLen) (b4 : n4 ≤ maxLen)
    (p2 : ∀ z ∈ z2, 0 ≤ z ∧ z ≤ 65535) (p3 : ∀ z ∈ z3, 0 ≤ z ∧ z ≤ 65535) (p4 : ∀ z ∈ z4, 0 ≤ z ∧ z ≤ 255) :
    Calls Tryz.prog 3 #[.slice A0 n0 c0, .slice A1 n1 c1, .slice A2 n2 c2, .slice A3 n3 c3, .slice A4 n4 c4] w fun e w' => e = .returned (.bool true) ∧ Below w.heap.size w w' := by
  obtain ⟨r0, e0, b0⟩ := r0
  obtain ⟨r1, e1, b1⟩ := r1
  have HZB := Lib.hid (zb_any A0 n0 c0 A1 n1 c1 A2 n2 c2 A3 n3 c3 A4 n4 c4 w b0 b1 b2 b3 b4)
  have HBIG := Lib.hid (big_any A0 A1 A2 A3 A4 n0 n1 n2 n3 n4 c0 c1 c2 c3 c4 w)
  have R0 := Lib.hid r0; have R1 := Lib.hid r1; have R2 := Lib.hid r2; have R3 := Lib.hid r3; have R4 := Lib.hid r4
  have E0 := Lib.hid e0; have E1 := Lib.hid e1; have E2 := Lib.hid e2; have E3 := Lib.hid e3; have E4 := Lib.hid e4
  have P2 := Lib.hid p2; have P3 := Lib.hid p3; have P4 := Lib.hid p4
  clear r0 r1 r2 r3 r4 e0 e1 e2 e3 e4 p2 p3 p4 b0 b1 b2 b3 b4
  go_enter Tryz.func3, Tryz.ntmps3
  go_wp2_with (go_at_call 4; (with_reducible refine (HZB.out).mono ?_))
  rintro e w' ⟨b, rfl, rfl⟩
  cases b with
  | false =>
    go_wp2
    go_ret
    exact ⟨rfl, Below.refl _ _⟩
  | true =>
  go_wp2_with (go_at_call 5; (with_reducible refine (HBIG.out).mono ?_))
  rintro e w' ⟨b, rfl, rfl, hsz⟩
  cases b with
  | true =>
    go_wp2
    go_ret
    exact ⟨rfl, Below.refl _ _⟩
  | false =>
    obtain ⟨b0, b1, b2, b3, b4⟩ := hsz rfl
    clear hsz HZB HBIG
    obtain ⟨n, hn⟩ : ∃ n, n = n0 := ⟨_, rfl⟩
    subst hn
    obtain ⟨lg, hlg⟩ : ∃ m, m = n1 := ⟨_, rfl⟩
    subst hlg
    obtain ⟨m, hm⟩ : ∃ m, m = min (min n2 n3) n4 := ⟨_, rfl⟩
    have hm2 : m ≤ n2 := by omega
    have hm3 : m ≤ n3 := by omega
    have hm4 : m ≤ n4 := by omega
    have hm5 : m ≤ 65536 := by omega
    have HM := Lib.hid hm
    clear hm
    have nb2 : ∀ j, natOf z2 j ≤ 65535 := fun j => by
      unfold natOf
      rcases Nat.lt_or_ge j z2.length with h | h
      · have := P2.out z2[j] (List.getElem_mem h)
        simp [List.getD_eq_getElem?_getD, List.getElem?_eq_getElem h]; omega
      · simp [List.getD_eq_getElem?_getD, List.getElem?_eq_none h]
    have nb3 : ∀ j, natOf z3 j ≤ 65535 := fun j => by
      unfold natOf
      rcases Nat.lt_or_ge j z3.length with h | h
      · have := P3.out z3[j] (List.getElem_mem h)
        simp [List.getD_eq_getElem?_getD, List.getElem?_eq_getElem h]; omega
      · simp [List.getD_eq_getElem?_getD, List.getElem?_eq_none h]
    have nb4 : ∀ j, natOf z4 j ≤ 255 := fun j => by
      unfold natOf
      rcases Nat.lt_or_ge j z4.length with h | h
      · have := P4.out z4[j] (List.getElem_mem h)
        simp [List.getD_eq_getElem?_getD, List.getElem?_eq_getElem h]; omega
      · simp [List.getD_eq_getElem?_getD, List.getElem?_eq_none h]
    have NB2 := Lib.hid nb2; have NB3 := Lib.hid nb3; have NB4 := Lib.hid nb4
    clear nb2 nb3 nb4
    have HC0 := Lib.hid (cop_o A0 n c0 z0 w R0.out E0.out (by omega))
    go_wp2_with (go_at_call 6; (with_reducible refine (HC0.out).mono ?_))
    rintro e w1 ⟨B0, d0, rfl, ha0, hb0⟩
    have X0 := Lib.hid ha0; have Y0 := Lib.hid hb0
    clear ha0 hb0 HC0
    have HC1 := Lib.hid (cop_o A1 lg c1 z1 w1 ((R1.out.below Y0.out).more Y0.out.size) E1.out (by omega))
    go_wp2_with (go_at_call 6; (with_reducible refine (HC1.out).mono ?_))
    rintro e w2 ⟨B1, d1, rfl, ha, hb⟩
    have X0 := Lib.hid (X0.out.below hb); have X1 := Lib.hid ha; have Y1 := Lib.hid (below_tr Y0.out hb)
    clear ha hb HC1 Y0
    have HC2 := Lib.hid (cop_w A2 n2 c2 z2 w2 ((R2.out.below Y1.out).more Y1.out.size) E2.out (by omega) (fun z hz => (P2.out z hz).1))
    go_wp2_with (go_at_call 7; (with_reducible refine (HC2.out).mono ?_))
    rintro e w3 ⟨B2, d2, rfl, ha, hb⟩
    have X0 := Lib.hid (X0.out.below hb); have X1 := Lib.hid (X1.out.below hb); have X2 := Lib.hid ha; have Y2 := Lib.hid (below_tr Y1.out hb)
    clear ha hb HC2 Y1
    have HC3 := Lib.hid (cop_w A3 n3 c3 z3 w3 ((R3.out.below Y2.out).more Y2.out.size) E3.out (by omega) (fun z hz => (P3.out z hz).1))
    go_wp2_with (go_at_call 7; (with_reducible refine (HC3.out).mono ?_))
    rintro e w4 ⟨B3, d3, rfl, ha, hb⟩
    have X0 := Lib.hid (X0.out.below hb); have X1 := Lib.hid (X1.out.below hb); have X2 := Lib.hid (X2.out.below hb); have X3 := Lib.hid ha; have Y3 := Lib.hid (below_tr Y2.out hb)
    clear ha hb HC3 Y2
    have HC4 := Lib.hid (cop_b A4 n4 c4 z4 w4 ((R4.out.below Y3.out).more Y3.out.size) E4.out (by omega) (fun z hz => (P4.out z hz).1))
    go_wp2_with (go_at_call 8; (with_reducible refine (HC4.out).mono ?_))
    rintro e w5 ⟨B4, d4, rfl, ha, hb⟩
    have X0 := Lib.hid (X0.out.below hb); have X1 := Lib.hid (X1.out.below hb); have X2 := Lib.hid (X2.out.below hb); have X3 := Lib.hid (X3.out.below hb); have X4 := Lib.hid ha; have Y4 := Lib.hid (below_tr Y3.out hb)
    clear ha hb HC4 Y3
    have HCN := Lib.hid (cnt_any B2 B3 B4 n2 n3 n4 d2 d3 d4 m w5 HM.out)
    go_wp2_with (go_at_call 9; (with_reducible refine (HCN.out).mono ?_))
    rintro e w' ⟨rfl, rfl⟩
    have HBD := Lib.hid (build_any n m lg n2 n3 n4 (boolOf z1) (boolOf z0) (natOf z2) (natOf z3) (natOf z4) B0 B1 B2 B3 B4 d0 d1 d2 d3 d4 w5 X0.out X1.out X2.out X3.out X4.out (by omega) (by omega) HM.out NB2.out NB3.out NB4.out)
    clear HCN
    go_wp2_with (go_at_call 10; (with_reducible refine (HBD.out).mono ?_))
    rintro e w8 ⟨rb, sb, jb, rfl, hrb, htw, hbl⟩
    have X0 := Lib.hid (X0.out.below hbl); have X1 := Lib.hid (X1.out.below hbl); have X2 := Lib.hid (X2.out.below hbl); have X3 := Lib.hid (X3.out.below hbl); have X4 := Lib.hid (X4.out.below hbl)
    have Y7 := Lib.hid (below_tr Y4.out hbl)
    have HRB := Lib.hid (Nat.le_trans Y4.out.size hrb)
    have HTW := Lib.hid htw
    have HGO := Lib.hid (grN_ok n m (okN lg (boolOf z1)) (boolOf z0) (natOf z2) (natOf z3) (natOf z4) (by omega) (by omega))
    have HIT := Lib.hid (ziter_any _ rb sb jb σ0 w8 HGO.out htw (sound0 _) (fun _ => rfl))
    clear hrb htw hbl HBD Y4
    go_wp2_with (go_at_call 11; (with_reducible refine (HIT.out).mono ?_))
    rintro e w9 ⟨σ, bb, rfl, htw, hsnd, hset, hflag, _, hgr⟩
    obtain ⟨csr, hbr, _⟩ := HTW.out.res
    have X0 := Lib.hid (X0.out.grownRow hgr hbr (by decide)); have X1 := Lib.hid (X1.out.grownRow hgr hbr (by decide)); have X2 := Lib.hid (X2.out.grownRow hgr hbr (by decide)); have X3 := Lib.hid (X3.out.grownRow hgr hbr (by decide)); have X4 := Lib.hid (X4.out.grownRow hgr hbr (by decide))
    have Y8 := Lib.hid (below_row Y7.out hgr (fun g e => by injection e with e; rw [← e]; exact HRB.out))
    have HTW := Lib.hid htw; have HSN := Lib.hid hsnd; have HST := Lib.hid hset; have HFG := Lib.hid hflag
    clear htw hsnd hset hflag hgr hbr HIT Y7
    have HDS := Lib.hid (dist_any n m lg n2 n3 n4 (boolOf z1) (boolOf z0) (natOf z2) (natOf z3) (natOf z4) B0 B1 B2 B3 B4 d0 d1 d2 d3 d4 w9 X0.out X1.out X2.out X3.out X4.out (by omega) (by omega) HM.out NB2.out NB3.out NB4.out)
    go_wp2_with (go_at_call 12; (with_reducible refine (HDS.out).mono ?_))
    rintro e w10 ⟨gd, d, q, h, rfl, hda, hbi, hqh, hdn, hgr⟩
    have X0 := Lib.hid (X0.out.grown hgr); have X1 := Lib.hid (X1.out.grown hgr); have X2 := Lib.hid (X2.out.grown hgr); have X3 := Lib.hid (X3.out.grown hgr); have X4 := Lib.hid (X4.out.grown hgr); have X7 := Lib.hid hda
    have Y9 := Lib.hid (below_grown Y8.out hgr)
    have HTW := Lib.hid (HTW.out.keep (fun i hi => hgr.block i hi (by simp)))
    have HFL := Lib.hid (fun i hi => fl_of (by omega) HSN.out HST.out (bfs_fl (by omega) hbi hqh) hdn i hi)
    have HDN := Lib.hid hdn
    have HANY : Hid (∀ c : Bool, (c = true ↔ ∃ t, t < n ∧ okN lg (boolOf z1) t = true ∧ boolOf z0 t = true) → bb = c) := Lib.hid (fun c hc => any_eq HSN.out HST.out HFG.out hc)
    clear hda hbi hqh hdn hgr HDS Y8
    go_wp2
    go_loopw [16, 17] (fun av iv wr => ∃ (i : Nat) (b : Bool), av = .bool b ∧ iv = .int .i64 (i : Int) ∧ i ≤ n ∧ w10.grownBy wr none ∧ (b = true ↔ ∃ t, t < i ∧ okN lg (boolOf z1) t = true ∧ boolOf z0 t = true)) (fun _ iv _ => n - (intOf iv).toNat)
    case atStart => exact ⟨0, false, rfl, rfl, Nat.zero_le _, World.grownBy.refl _ _, by simp⟩
    case round =>
      obtain ⟨i, b, rfl, rfl, hi, hgr, hb⟩ := hrel
      have HGR := Lib.hid hgr; have HB := Lib.hid hb
      clear hgr hb
      by_cases hlt : i < n
      · have hlt' : (i : Int) < (n : Int) := by omega
        have HFI := Lib.hid (file_any lg (boolOf z1) B1 d1 i wr (X1.out.grown HGR.out))
        obtain ⟨g0, rfl, c0'⟩ := (X0.out.grown HGR.out).at_ hlt
        obtain ⟨bo, hbo⟩ : ∃ b, b = okN lg (boolOf z1) i := ⟨_, rfl⟩
        obtain ⟨ba, hba⟩ : ∃ b, b = boolOf z0 i := ⟨_, rfl⟩
        rw [← hbo] at HFI
        rw [← hba] at c0'
        have hwe : IntKind.i64.wrap ((i : Int) + 1) = (i : Int) + 1 := by rw [IntKind.wrap_i64]; omega
        have HYES : Hid (bo = true ∧ ba = true → ((true : Bool) = true ↔ ∃ t, t < i + 1 ∧ okN lg (boolOf z1) t = true ∧ boolOf z0 t = true)) := Lib.hid (fun h => ⟨fun _ => ⟨i, by omega, by rw [← hbo]; exact h.1, by rw [← hba]; exact h.2⟩, fun _ => rfl⟩)
        have HNO : Hid (¬ (bo = true ∧ ba = true) → (b = true ↔ ∃ t, t < i + 1 ∧ okN lg (boolOf z1) t = true ∧ boolOf z0 t = true)) := Lib.hid (fun h => by
          rw [HB.out]
          constructor
          · rintro ⟨t, h1, h2⟩; exact ⟨t, by omega, h2⟩
          · rintro ⟨t, h1, h2, h3⟩
            rcases Nat.lt_or_ge t i with h4 | h4
            · exact ⟨t, h4, h2, h3⟩
            · obtain rfl : t = i := by omega
              exact absurd ⟨by rw [hbo]; exact h2, by rw [hba]; exact h3⟩ h)
        have HE0 := Lib.hid (show w10.grownBy wr none from HGR.out)
        clear hbo hba
        go_wp2_with (go_at_call 13; (with_reducible refine (HFI.out).mono ?_))
        rintro e w' ⟨rfl, rfl⟩
        clear HFI
        cases bo with
        | false =>
          have HN := Lib.hid (HNO.out (by simp))
          go_wp2
          go_roundw
          case rel => exact ⟨i + 1, b, rfl, by simp, by omega, HGR.out, HN.out⟩
          case measure => simp [intOf]; omega
        | true =>
          cases ba with
          | false =>
            have HN := Lib.hid (HNO.out (by simp))
            go_wp2
            go_roundw
            case rel => exact ⟨i + 1, b, rfl, by simp, by omega, HGR.out, HN.out⟩
            case measure => simp [intOf]; omega
          | true =>
            have HN := Lib.hid (HYES.out (by simp))
            go_wp2
            go_roundw
            case rel => exact ⟨i + 1, true, rfl, by simp, by omega, HGR.out, ⟨fun _ => HN.out.1 trivial, fun _ => rfl⟩⟩
            case measure => simp [intOf]; omega
      · obtain rfl : i = n := by omega
        have hlt' : ¬ ((i : Int) < (i : Int)) := by omega
        obtain rfl : bb = b := HANY.out b HB.out
        have hne : (bb != bb) = false := by cases bb <;> rfl
        obtain ⟨w11, hw11⟩ : ∃ x, x = wr := ⟨_, rfl⟩
        subst hw11
        clear HB HANY
        have X1' := X1
        have X7 := Lib.hid (X7.out.grown HGR.out)
        have X2 := Lib.hid (X2.out.grown HGR.out); have X3 := Lib.hid (X3.out.grown HGR.out); have X4 := Lib.hid (X4.out.grown HGR.out)
        have HTW := Lib.hid (HTW.out.keep (fun j hj => HGR.out.block j hj (by simp)))
        have Y9 := Lib.hid (below_grown Y9.out HGR.out)
        go_wp2
        go_loopw [18] (fun iv wr => ∃ j : Nat, iv = .int .i64 (j : Int) ∧ j ≤ i ∧ w11.grownBy wr none) (fun iv _ => i - (intOf iv).toNat)
        case atStart => exact ⟨0, rfl, Nat.zero_le _, World.grownBy.refl _ _⟩
        case round =>
          obtain ⟨j, rfl, hj, hgr⟩ := hrel
          have HGR := Lib.hid hgr
          clear hgr hi hlt hlt'
          by_cases hlt : j < i
          · have hlt2 : (j : Int) < (i : Int) := by omega
            have hfl := HFL.out j hlt
            have HCH := Lib.hid (chk_any _ rb sb jb σ j wr HGO.out (HTW.out.keep (fun k hk => HGR.out.block k hk (by simp))) hlt hfl.pI hfl.dI)
            have HF := Lib.hid hfl
            clear hfl
            go_wp2_with (go_at_call 14; (with_reducible refine (HCH.out).mono ?_))
            rintro e wg ⟨rfl, hg⟩
            have HG2 := Lib.hid (grownBy_acc HGR.out hg)
            clear hg HCH
            obtain ⟨gd', hgd, k1⟩ := (X7.out.grown HG2.out).at_ hlt
            obtain rfl : gd = gd' := by injection hgd with hgd; injection hgd
            clear hgd
            have hwe : IntKind.i64.wrap ((j : Int) + 1) = (j : Int) + 1 := by rw [IntKind.wrap_i64]; omega
            have hwj : IntKind.u32.wrap (j : Int) = (j : Int) := by rw [IntKind.wrap_u32]; omega
            obtain ⟨x, hx⟩ : ∃ x, x = σ.par j := ⟨_, rfl⟩
            obtain ⟨y, hy⟩ : ∃ y, y = σ.dep j := ⟨_, rfl⟩
            obtain ⟨rc, hrc⟩ : ∃ y, y = σ.ri j := ⟨_, rfl⟩
            rw [← hx, ← hy, ← hrc]
            obtain ⟨bv, hbv⟩ : ∃ b, b = decide (x ≠ INV) := ⟨_, rfl⟩
            rw [← hbv]
            have HX := Lib.hid hx; have HY := Lib.hid hy; have HBV := Lib.hid hbv; have HRC := Lib.hid hrc
            clear hx hy hbv hrc
            rcases Nat.eq_zero_or_pos (d j) with hd0 | hd0
            · have hv : bv = false := by rw [HBV.out, HX.out, HF.out.none_ hd0]; simp
              subst hv
              have k1' : wg.cell? ⟨gd, j, none⟩ = some (.int .i64 (-1)) := by rw [k1, hd0]; rfl
              clear k1 hd0
              go_wp2
              go_roundw
              case rel => exact ⟨j + 1, by simp, by omega, HG2.out⟩
              case measure => simp [intOf]; omega
            · obtain ⟨k, hk⟩ : ∃ k, d j = k + 1 := ⟨d j - 1, by omega⟩
              obtain ⟨f1, f2, f3, f4⟩ := HF.out.one k hk
              rw [← HX.out] at f2 f3 f4
              have hv : bv = true := by rw [HBV.out]; simp; unfold INV; omega
              subst hv
              have hyk : y = k + 1 := by rw [HY.out]; exact f1
              subst hyk
              have hkn : k ≤ i := by have := HDN.out j; omega
              have k1' : wg.cell? ⟨gd, j, none⟩ = some (.int .i64 (k : Int)) := by rw [k1, hk]; congr 2; omega
              have hw2 : IntKind.i64.wrap ((k : Int) + 1) = (k : Int) + 1 := by rw [IntKind.wrap_i64]; omega
              have hw3 : IntKind.u32.wrap ((k : Int) + 1) = (k : Int) + 1 := by rw [IntKind.wrap_u32]; omega
              have hk0' : ¬ (k : Int) < 0 := by omega
              have HK := Lib.hid hk
              clear k1 hd0 hk f1
              by_cases hk0 : k = 0
              · subst hk0
                obtain rfl : x = j := f3 rfl
                clear f3 f4 f2
                go_wp2
                go_roundw
                case rel => exact ⟨x + 1, by simp, by omega, HG2.out⟩
                case measure => simp [intOf]; omega
              · obtain ⟨g1, g2⟩ := f4 (by omega)
                have hkz : ¬ (k : Int) = 0 := by omega
                have hkz2 : ((k : Int) == 0) = false := by simp; omega
                have hk6 : k ≤ 65536 := by omega
                have HPA := Lib.hid (par_any i m j x rc k n2 n3 n4 (natOf z2) (natOf z3) (natOf z4) d gd B2 B3 B4 i d2 d3 d4 wg (X7.out.grown HG2.out) (X2.out.grown HG2.out) (X3.out.grown HG2.out) (X4.out.grown HG2.out) (by omega) hm5 hm2 hm3 hm4 NB2.out NB3.out NB4.out hlt f2 HK.out g1 hk6 (by rw [HRC.out]; exact g2))
                clear f3 f4 g1 g2
                go_wp2_with (go_at_call 15; (with_reducible refine (HPA.out).mono ?_))
                rintro e wp ⟨rfl, hg⟩
                have HG3 := Lib.hid (grownBy_acc HG2.out hg)
                clear hg HPA
                go_wp2
                go_roundw
                case rel => exact ⟨j + 1, by simp, by omega, HG3.out⟩
                case measure => simp [intOf]; omega
          · obtain rfl : j = i := by omega
            have hlt2 : ¬ ((j : Int) < (j : Int)) := by omega
            have HEND := Lib.hid (below_grown Y9.out HGR.out)
            go_wp2
            go_ret
            exact ⟨rfl, HEND.out⟩
end Go.Proofs.YtecncdcfmmceeaaGreat
