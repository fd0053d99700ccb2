/- The walk of FnIterativelyValidateTLAShortestStmtChain. -/
import Derived.Test.YtnekmljdipkepaaGreatTlb
import Derived.Deep.QuietTactic
namespace Go.Proofs.YtnekmljdipkepaaGreat
open Go.RowKit
set_option linter.unusedVariables false
set_option linter.unusedSimpArgs false
theorem str_info : (Tryz.prog.info? 9).map (fun i => (i.zero, i.size, i.bytes)) = some (some (.string ⟨#[]⟩), 1, 16) := by kernel_rfl
/-- What the law needs of one file. -/
structure FL (n m : Nat) (ok : Nat → Bool) (fr tg kb : Nat → Nat) (d : Nat → Nat) (σ : TS) (i : Nat) : Prop where
  pI : σ.par i ≤ INV
  dI : σ.dep i ≤ INV
  bad : ok i = false → σ.par i = INV
  none_ : d i = 0 → σ.par i = INV
  one : ∀ k, d i = k + 1 → σ.dep i = k + 1 ∧ σ.par i < n ∧ (k = 0 → σ.par i = i) ∧ (1 ≤ k → d (σ.par i) = k ∧ ok (σ.par i) = true ∧ ∃ x, x < m ∧ fr x = i ∧ tg x = σ.par i ∧ kb x % 3 = 0)
theorem fl_of {n m : Nat} {ok aw : Nat → Bool} {fr tg kb : Nat → Nat} {d : Nat → Nat} {q : List Nat} {h : Nat} {σ : TS} (hn : n ≤ 65536) (ht : ∀ j, j < m → tg j < n) (hs : Sound (gr n ok aw fr tg (fun j => kb j % 3) m) σ) (hset : ∀ k, Settled (gr n ok aw fr tg (fun j => kb j % 3) m) σ k)
    (hb : BInv n (fun j => decide (j < n) && ok j) aw (edg m fr tg kb) d q h) (hq : q.length ≤ h) (hd : ∀ u, d u ≤ n) (i : Nat) (hi : i < n) : FL n m ok fr tg kb d σ i := by
  have hG : ∀ j, (gr n ok aw fr tg (fun j => kb j % 3) m).ok j = true → j < n ∧ ok j = true := fun j h => by
    have h' : (decide (j < n) && ok j) = true := h
    rw [Bool.and_eq_true] at h'
    exact ⟨of_decide_eq_true h'.1, h'.2⟩
  have hbo : BfsOK (gr n ok aw fr tg (fun j => kb j % 3) m) d := BInv.ok_ (G := gr n ok aw fr tg (fun j => kb j % 3) m) hb hq (gr_edg n m ok aw fr tg kb ht) (fun j h => (hG j h).1)
  have hfix := fun j => fix_law hs hset hbo (fun j => by have := hd j; unfold INV; omega) j
  obtain ⟨f1, f2⟩ := hfix i
  have hpar : σ.par i ≤ INV := by
    rcases Nat.eq_zero_or_pos (d i) with h0 | h0
    · rw [(f1 h0).2]; exact Nat.le_refl _
    · obtain ⟨k, hk⟩ : ∃ k, d i = k + 1 := ⟨d i - 1, by omega⟩
      obtain ⟨_, _, _, h4, h5⟩ := f2 k hk
      have hn' : (gr n ok aw fr tg (fun j => kb j % 3) m).n = n := rfl
      rcases h5 with ⟨_, h6⟩ | ⟨_, _, h6, _⟩ <;> (unfold INV; omega)
  refine ⟨hpar, (hs.pos i).2, fun ho => ?_, fun h0 => (f1 h0).2, fun k hk => ?_⟩
  · rcases Nat.eq_zero_or_pos (d i) with h0 | h0
    · exact (f1 h0).2
    · obtain ⟨k, hk⟩ : ∃ k, d i = k + 1 := ⟨d i - 1, by omega⟩
      have := (hG i (f2 k hk).2.2.1).2
      rw [ho] at this; cases this
  · obtain ⟨h1, _, h3, h4, h5⟩ := f2 k hk
    rcases h5 with ⟨h6, h7⟩ | ⟨h6, h7, h8, h9⟩
    · exact ⟨h1, by rw [h7]; exact hi, fun _ => h7, fun h => by omega⟩
    · refine ⟨h1, h8, fun h => by omega, fun _ => ⟨h9, ?_, ?_⟩⟩
      · obtain ⟨k', hk'⟩ : ∃ k', k = k' + 1 := ⟨k - 1, by omega⟩
        exact (hG _ ((hfix (σ.par i)).2 k' (by omega)).2.2.1).2
      · obtain ⟨x, x1, x2, x3, x4⟩ := rlE_mem (List.mem_of_getElem? h7)
        exact ⟨x, x1, x2, x4, x3⟩
set_option maxHeartbeats 8000000 in
set_option maxRecDepth 100000 in
theorem law_walk (A0 A1 A2 A3 A4 : Option Addr) (n0 n1 n2 n3 n4 c0 c1 c2 c3 c4 : Nat) (z0 z1 : List Bool) (z2 z3 z4 : List Int) (w : World)
    (r0 : IsBools w A0 n0 c0 z0) (r1 : IsBools w A1 n1 c1 z1)
    (r2 : Reads w w.heap.size 1 A2 n2 (z2.map (Value.int .u32))) (r3 : Reads w w.heap.size 1 A3 n3 (z3.map (Value.int .u32))) (r4 : Reads w w.heap.size 1 A4 n4 (z4.map (Value.int .u8)))
    (e2 : A2 = none → n2 = 0) (e3 : A3 = none → n3 = 0) (e4 : A4 = none → n4 = 0) (b2 : n2 ≤ maxLen) (b3 : n3 ≤ maxLen) (b4 : n4 ≤ maxLen)
    (p2 : ∀ z ∈ z2, 0 ≤ z ∧ z ≤ 4294967295) (p3 : ∀ z ∈ z3, 0 ≤ z ∧ z ≤ 4294967295) (p4 : ∀ z ∈ z4, 0 ≤ z ∧ z ≤ 255) :
    Calls Tryz.prog 3 #[.slice A0 n0 c0, .slice A1 n1 c1, .slice A2 n2 c2, .slice A3 n3 c3, .slice A4 n4 c4] w fun e w' => e = .returned (.bool true) ∧ Below w.heap.size w w' := by
  obtain ⟨r0, e0, b0⟩ := r0
  obtain ⟨r1, e1, b1⟩ := r1
  have HZB := Lib.hid (zb_any A0 n0 c0 A1 n1 c1 A2 n2 c2 A3 n3 c3 A4 n4 c4 w b0 b1 b2 b3 b4)
  have R0 := Lib.hid r0; have R1 := Lib.hid r1; have R2 := Lib.hid r2; have R3 := Lib.hid r3; have R4 := Lib.hid r4
  have E0 := Lib.hid e0; have E1 := Lib.hid e1; have E2 := Lib.hid e2; have E3 := Lib.hid e3; have E4 := Lib.hid e4
  have P2 := Lib.hid p2; have P3 := Lib.hid p3; have P4 := Lib.hid p4
  unfold maxLen at b0 b1 b2 b3 b4
  clear r0 r1 r2 r3 r4 e0 e1 e2 e3 e4 p2 p3 p4
  go_enter Tryz.func3, Tryz.ntmps3
  go_wp2_with (go_at_call 4; (with_reducible refine (HZB.out).mono ?_))
  rintro e w' ⟨b, rfl, rfl⟩
  cases b with
  | false =>
    go_wp2
    go_ret
    exact ⟨rfl, Below.refl _ _⟩
  | true =>
    by_cases u0 : 256 < (n0 : Int)
    · go_wp2
      go_ret
      exact ⟨rfl, Below.refl _ _⟩
    by_cases u1 : 256 < (n1 : Int)
    · go_wp2
      go_ret
      exact ⟨rfl, Below.refl _ _⟩
    by_cases u2 : 4096 < (n2 : Int)
    · go_wp2
      go_ret
      exact ⟨rfl, Below.refl _ _⟩
    by_cases u3 : 4096 < (n3 : Int)
    · go_wp2
      go_ret
      exact ⟨rfl, Below.refl _ _⟩
    by_cases u4 : 4096 < (n4 : Int)
    · go_wp2
      go_ret
      exact ⟨rfl, Below.refl _ _⟩
    by_cases u5 : n1 = n0
    case neg =>
      have t1 : ((n1 : Int) != (n0 : Int)) = true := by simp; omega
      have t2 : (n1 != n0) = true := by simp; omega
      go_wp2
      go_ret
      exact ⟨rfl, Below.refl _ _⟩
    subst u5
    by_cases u6 : n3 = n2
    case neg =>
      have t1 : ((n3 : Int) != (n2 : Int)) = true := by simp; omega
      have t2 : (n3 != n2) = true := by simp; omega
      go_wp2
      go_ret
      exact ⟨rfl, Below.refl _ _⟩
    subst u6
    by_cases u7 : n4 = n3
    case neg =>
      have t1 : ((n4 : Int) != (n3 : Int)) = true := by simp; omega
      have t2 : (n4 != n3) = true := by simp; omega
      go_wp2
      go_ret
      exact ⟨rfl, Below.refl _ _⟩
    subst u7

    clear b0 b1 b2 b3 b4 HZB
    obtain ⟨n, hn⟩ : ∃ n, n = n1 := ⟨_, rfl⟩
    subst hn
    obtain ⟨m, hm⟩ : ∃ m, m = n4 := ⟨_, rfl⟩
    subst hm
    have hlen2 : z2.length = m := by have := R2.out.1; simpa using this
    have hlen3 : z3.length = m := by have := R3.out.1; simpa using this
    have hlen4 : z4.length = m := by have := R4.out.1; simpa using this
    have nb2 : ∀ j, natOf z2 j ≤ 4294967295 := fun j => by
      unfold natOf
      rcases Nat.lt_or_ge j z2.length with h | h
      · have := P2.out z2[j] (List.getElem_mem h)
        simp [List.getD_eq_getElem?_getD, List.getElem?_eq_getElem h]; omega
      · simp [List.getD_eq_getElem?_getD, List.getElem?_eq_none h]
    have nb3 : ∀ j, natOf z3 j ≤ 4294967295 := fun j => by
      unfold natOf
      rcases Nat.lt_or_ge j z3.length with h | h
      · have := P3.out z3[j] (List.getElem_mem h)
        simp [List.getD_eq_getElem?_getD, List.getElem?_eq_getElem h]; omega
      · simp [List.getD_eq_getElem?_getD, List.getElem?_eq_none h]
    have nb4 : ∀ j, natOf z4 j ≤ 255 := fun j => by
      unfold natOf
      rcases Nat.lt_or_ge j z4.length with h | h
      · have := P4.out z4[j] (List.getElem_mem h)
        simp [List.getD_eq_getElem?_getD, List.getElem?_eq_getElem h]; omega
      · simp [List.getD_eq_getElem?_getD, List.getElem?_eq_none h]
    have rd2 : ∀ j, j < m → ∃ ad, A2 = some ad ∧ w.cell? (ad.add j) = some (.int .u32 (natOf z2 j : Int)) := fun j hj => by
      obtain ⟨ad, u, h1, _, h2, h3⟩ := R2.out.at_ hj
      refine ⟨ad, h1, ?_⟩
      have h : j < z2.length := by omega
      rw [List.getElem?_map, List.getElem?_eq_getElem h] at h2
      have := P2.out z2[j] (List.getElem_mem h)
      rw [h3, ← h2]
      simp [natOf, List.getD_eq_getElem?_getD, List.getElem?_eq_getElem h]; omega
    have rd3 : ∀ j, j < m → ∃ ad, A3 = some ad ∧ w.cell? (ad.add j) = some (.int .u32 (natOf z3 j : Int)) := fun j hj => by
      obtain ⟨ad, u, h1, _, h2, h3⟩ := R3.out.at_ hj
      refine ⟨ad, h1, ?_⟩
      have h : j < z3.length := by omega
      rw [List.getElem?_map, List.getElem?_eq_getElem h] at h2
      have := P3.out z3[j] (List.getElem_mem h)
      rw [h3, ← h2]
      simp [natOf, List.getD_eq_getElem?_getD, List.getElem?_eq_getElem h]; omega
    have HRNG := Lib.hid (rng_any n m (natOf z2) (natOf z3) A2 A3 c2 c3 w rd2 rd3 (by omega) (by omega) (fun j _ => nb2 j) (fun j _ => nb3 j))
    have NB4 := Lib.hid nb4
    clear nb2 nb3 nb4 rd2 rd3
    go_wp2_with (go_at_call 5; (with_reducible refine (HRNG.out).mono ?_))
    rintro e w' ⟨b, rfl, rfl, hrg⟩
    cases b with
    | false =>
      go_wp2
      go_ret
      exact ⟨rfl, Below.refl _ _⟩
    | true =>
      have HIN := Lib.hid (hrg rfl)
      clear hrg HRNG
      have HC0 := Lib.hid (cop_o A0 n c0 z0 w R0.out E0.out (by omega))
      go_wp2_with (go_at_call 6; (with_reducible refine (HC0.out).mono ?_))
      rintro e w1 ⟨B0, d0, rfl, ha0, hb0⟩
      have X0 := Lib.hid ha0; have Y0 := Lib.hid hb0
      clear ha0 hb0 HC0
      have HC1 := Lib.hid (cop_o A1 n c1 z1 w1 ((R1.out.below Y0.out).more Y0.out.size) E1.out (by omega))
      go_wp2_with (go_at_call 6; (with_reducible refine (HC1.out).mono ?_))
      rintro e w2 ⟨B1, d1, rfl, ha, hb⟩
      have X0 := Lib.hid (X0.out.below hb); have X1 := Lib.hid ha; have Y1 := Lib.hid (below_tr Y0.out hb)
      clear ha hb HC1 Y0
      have HC2 := Lib.hid (cop_w A2 m c2 z2 w2 ((R2.out.below Y1.out).more Y1.out.size) E2.out (by omega) (fun z hz => (P2.out z hz).1))
      go_wp2_with (go_at_call 7; (with_reducible refine (HC2.out).mono ?_))
      rintro e w3 ⟨B2, d2, rfl, ha, hb⟩
      have X0 := Lib.hid (X0.out.below hb); have X1 := Lib.hid (X1.out.below hb); have X2 := Lib.hid ha; have Y2 := Lib.hid (below_tr Y1.out hb)
      clear ha hb HC2 Y1
      have HC3 := Lib.hid (cop_w A3 m c3 z3 w3 ((R3.out.below Y2.out).more Y2.out.size) E3.out (by omega) (fun z hz => (P3.out z hz).1))
      go_wp2_with (go_at_call 7; (with_reducible refine (HC3.out).mono ?_))
      rintro e w4 ⟨B3, d3, rfl, ha, hb⟩
      have X0 := Lib.hid (X0.out.below hb); have X1 := Lib.hid (X1.out.below hb); have X2 := Lib.hid (X2.out.below hb); have X3 := Lib.hid ha; have Y3 := Lib.hid (below_tr Y2.out hb)
      clear ha hb HC3 Y2
      have HC4 := Lib.hid (cop_b A4 m c4 z4 w4 ((R4.out.below Y3.out).more Y3.out.size) E4.out (by omega) (fun z hz => (P4.out z hz).1))
      go_wp2_with (go_at_call 8; (with_reducible refine (HC4.out).mono ?_))
      rintro e w5 ⟨B4, d4, rfl, ha, hb⟩
      have X0 := Lib.hid (X0.out.below hb); have X1 := Lib.hid (X1.out.below hb); have X2 := Lib.hid (X2.out.below hb); have X3 := Lib.hid (X3.out.below hb); have X4 := Lib.hid ha; have Y4 := Lib.hid (below_tr Y3.out hb)
      clear ha hb HC4 Y3
      obtain ⟨s0, hs0, hy0, hy1, hy2⟩ := info_parts str_info
      have hmk : ∀ W : World, (Instr.makeSlice 30 (.int .i64 (n : Int)) (.int .i64 (n : Int))).run Tryz.prog W = .ok (.slice (some ⟨W.heap.size, 0, none⟩) n n) (W.alloc (.cells (madeCells #[.string ⟨#[]⟩] n) 9)) := fun W => by
        have := run_make (P := Tryz.prog) W 30 9 s0 (.string ⟨#[]⟩) Tryz.underlying30 hs0 hy0 .i64 .i64 n n (by omega) (by omega) (by rw [hy2]; omega) (by omega)
        simpa [hy1, Value.cells] using this
      obtain ⟨w6, hw6⟩ : ∃ W, W = w5.alloc (.cells (madeCells #[Value.string ⟨#[]⟩] n) 9) := ⟨_, rfl⟩
      have hg6 : w5.grownBy w6 none := by rw [hw6]; exact only_alloc (World.grownBy.refl _ _) _
      have X5 : Hid (Arr w6 9 (some ⟨w5.heap.size, 0, none⟩) n (fun _ => .string ⟨#[]⟩)) := Lib.hid (by
        rw [hw6]
        exact Arr.of_blk (Blk.new _ _ _) (fun k hk => by simp [madeCells, hk, Nat.mod_one]))
      have X0 := Lib.hid (X0.out.grown hg6); have X1 := Lib.hid (X1.out.grown hg6); have X2 := Lib.hid (X2.out.grown hg6); have X3 := Lib.hid (X3.out.grown hg6); have X4 := Lib.hid (X4.out.grown hg6)
      have Y5 := Lib.hid (below_grown Y4.out hg6)
      clear hg6 hs0 hy0 hy1 hy2 Y4
      go_upto_region 15 with fail
      first | rw [← hw6] | skip
      clear hw6 hmk
      have HKN := Lib.hid (kinds_any m (natOf z4) B4 d4 w6 X4.out (by omega) (fun j _ => NB4.out j))
      go_wp2_with (go_at_call 10; (with_reducible refine (HKN.out).mono ?_))
      rintro e w7 ⟨gk, rfl, ha, hg⟩
      have X0 := Lib.hid (X0.out.grown hg); have X1 := Lib.hid (X1.out.grown hg); have X2 := Lib.hid (X2.out.grown hg); have X3 := Lib.hid (X3.out.grown hg); have X4 := Lib.hid (X4.out.grown hg); have X5 := Lib.hid (X5.out.grown hg); have X6 := Lib.hid ha
      have Y6 := Lib.hid (below_grown Y5.out hg)
      clear ha hg HKN Y5
      have HSC := Lib.hid (scan_any n m (boolOf z0) (boolOf z1) (natOf z2) (natOf z3) (fun j => natOf z4 j % 3) B0 B1 B2 B3 (some ⟨gk, 0, none⟩) (some ⟨w5.heap.size, 0, none⟩) d0 d1 d2 d3 m n w7 ⟨X0.out, X1.out, X2.out, X3.out, X6.out, X5.out⟩ (by omega) (by omega) (fun j hj => (HIN.out j hj).1) (fun j hj => (HIN.out j hj).2) (fun j => by show natOf z4 j % 3 ≤ 2; omega))
      go_wp2_with (go_at_call 9; (with_reducible refine (HSC.out).mono ?_))
      rintro e w8 ⟨rb, sb, jb, rfl, hrb, htw, hbl⟩
      have X0 := Lib.hid (X0.out.below hbl); have X1 := Lib.hid (X1.out.below hbl); have X2 := Lib.hid (X2.out.below hbl); have X3 := Lib.hid (X3.out.below hbl); have X4 := Lib.hid (X4.out.below hbl)
      have Y7 := Lib.hid (below_tr Y6.out hbl)
      have HRB := Lib.hid (Nat.le_trans Y6.out.size hrb)
      have HTW := Lib.hid htw
      have HGO := Lib.hid (gr_ok n m (boolOf z0) (boolOf z1) (natOf z2) (natOf z3) (natOf z4) (by omega) (by omega) (fun j hj => (HIN.out j hj).2))
      have HIT := Lib.hid (ziter_any _ rb sb jb σ0 w8 HGO.out htw (sound0 _) (fun _ => rfl))
      clear hrb htw hbl HSC X5 X6 Y6
      go_wp2_with (go_at_call 11; (with_reducible refine (HIT.out).mono ?_))
      rintro e w9 ⟨σ, bb, rfl, htw, hsnd, hset, _, _, hgr⟩
      obtain ⟨csr, hbr, _⟩ := HTW.out.res
      have X0 := Lib.hid (X0.out.grownRow hgr hbr (by decide)); have X1 := Lib.hid (X1.out.grownRow hgr hbr (by decide)); have X2 := Lib.hid (X2.out.grownRow hgr hbr (by decide)); have X3 := Lib.hid (X3.out.grownRow hgr hbr (by decide)); have X4 := Lib.hid (X4.out.grownRow hgr hbr (by decide))
      have Y8 := Lib.hid (below_row Y7.out hgr (fun g e => by injection e with e; rw [← e]; exact HRB.out))
      have HTW := Lib.hid htw; have HSN := Lib.hid hsnd; have HST := Lib.hid hset
      clear htw hsnd hset hgr hbr HIT Y7
      have HDS := Lib.hid (dist_any n m (fun j => decide (j < n) && boolOf z0 j) (boolOf z1) (natOf z2) (natOf z3) (natOf z4) B0 B1 B2 B3 B4 d0 d1 d2 d3 d4 w9 (X0.out.congr (fun j hj => by simp [hj])) X1.out X2.out X3.out X4.out (by omega) (by omega) (fun j hj => (HIN.out j hj).1) (fun j hj => (HIN.out j hj).2) (fun j _ => NB4.out j))
      go_wp2_with (go_at_call 12; (with_reducible refine (HDS.out).mono ?_))
      rintro e w10 ⟨gd, d, q, h, rfl, hda, hbi, hqh, hdn, hgr⟩
      have X0 := Lib.hid (X0.out.grown hgr); have X2 := Lib.hid (X2.out.grown hgr); have X3 := Lib.hid (X3.out.grown hgr); have X4 := Lib.hid (X4.out.grown hgr); have X7 := Lib.hid hda
      have Y9 := Lib.hid (below_grown Y8.out hgr)
      have HTW := Lib.hid (HTW.out.keep (fun i hi => hgr.block i hi (by simp)))
      have HFL := Lib.hid (fun i hi => fl_of (by omega) (fun j hj => (HIN.out j hj).2) HSN.out HST.out hbi hqh hdn i hi)
      have HDN := Lib.hid hdn
      clear hda hbi hqh hdn hgr HDS Y8 X1
      go_wp2
      go_loopw [14] (fun iv wr => ∃ i : Nat, iv = .int .i64 (i : Int) ∧ i ≤ n ∧ w10.grownBy wr none) (fun iv _ => n - (intOf iv).toNat)
      case atStart => exact ⟨0, rfl, Nat.zero_le _, World.grownBy.refl _ _⟩
      case round =>
        obtain ⟨i, rfl, hi, hgr⟩ := hrel
        have HGR := Lib.hid hgr
        clear hgr
        by_cases hlt : i < n
        · have hlt2 : (i : Int) < (n : Int) := by omega
          have hfl := HFL.out i hlt
          have HCH := Lib.hid (chk_any _ rb sb jb σ i wr HGO.out (HTW.out.keep (fun j hj => HGR.out.block j hj (by simp))) hlt hfl.pI hfl.dI)
          have HF := Lib.hid hfl
          clear hfl
          go_wp2_with (go_at_call 13; (with_reducible refine (HCH.out).mono ?_))
          rintro e wg ⟨rfl, hg⟩
          have HG2 := Lib.hid (grownBy_acc HGR.out hg)
          clear hg HCH
          obtain ⟨go, rfl, k0⟩ := (X0.out.grown HG2.out).at_ hlt
          obtain ⟨gd', hgd, k1⟩ := (X7.out.grown HG2.out).at_ hlt
          obtain rfl : gd = gd' := by injection hgd with hgd; injection hgd
          clear hgd
          have hwe : IntKind.i64.wrap ((i : Int) + 1) = (i : Int) + 1 := by rw [IntKind.wrap_i64]; omega
          obtain ⟨bo, hbo⟩ : ∃ b, b = boolOf z0 i := ⟨_, rfl⟩
          rw [← hbo] at k0
          obtain ⟨x, hx⟩ : ∃ x, x = σ.par i := ⟨_, rfl⟩
          obtain ⟨y, hy⟩ : ∃ y, y = σ.dep i := ⟨_, rfl⟩
          rw [← hx, ← hy]
          obtain ⟨bv, hbv⟩ : ∃ b, b = decide (x ≠ INV) := ⟨_, rfl⟩
          rw [← hbv]
          have HBO := Lib.hid hbo; have HX := Lib.hid hx; have HY := Lib.hid hy; have HBV := Lib.hid hbv
          clear hbo hx hy hbv
          cases bo with
          | false =>
            have hv : bv = false := by rw [HBV.out, HX.out, HF.out.bad HBO.out.symm]; simp
            subst hv
            go_wp2
            go_roundw
            case rel => exact ⟨i + 1, by simp, by omega, HG2.out⟩
            case measure => simp [intOf]; omega
          | true =>
            rcases Nat.eq_zero_or_pos (d i) with hd0 | hd0
            · have hv : bv = false := by rw [HBV.out, HX.out, HF.out.none_ hd0]; simp
              subst hv
              have k1' : wg.cell? ⟨gd, i, none⟩ = some (.int .i64 (-1)) := by rw [k1, hd0]; rfl
              clear k1 hd0
              go_wp2
              go_roundw
              case rel => exact ⟨i + 1, by simp, by omega, HG2.out⟩
              case measure => simp [intOf]; omega
            · obtain ⟨k, hk⟩ : ∃ k, d i = k + 1 := ⟨d i - 1, by omega⟩
              obtain ⟨f1, f2, f3, f4⟩ := HF.out.one k hk
              rw [← HX.out] at f2 f3 f4
              have hv : bv = true := by rw [HBV.out]; simp; unfold INV; omega
              subst hv
              have hyk : y = k + 1 := by rw [HY.out]; exact f1
              subst hyk
              have hkn : k ≤ n := by have := HDN.out i; omega
              have k1' : wg.cell? ⟨gd, i, none⟩ = some (.int .i64 (k : Int)) := by rw [k1, hk]; congr 2; omega
              have hw1 : IntKind.i64.wrap (((k + 1 : Nat) : Int)) = (k : Int) + 1 := by rw [IntKind.wrap_i64]; omega
              have hw2 : IntKind.i64.wrap ((k : Int) + 1) = (k : Int) + 1 := by rw [IntKind.wrap_i64]; omega
              have hw3 : IntKind.i64.wrap (x : Int) = (x : Int) := by rw [IntKind.wrap_i64]; omega
              have hk0' : ¬ (k : Int) < 0 := by omega
              have HK := Lib.hid hk
              clear k1 hd0 hk f1
              by_cases hk0 : k = 0
              · subst hk0
                obtain rfl : x = i := f3 rfl
                clear f3 f4 f2
                go_wp2
                go_roundw
                case rel => exact ⟨x + 1, by simp, by omega, HG2.out⟩
                case measure => simp [intOf]; omega
              · obtain ⟨g1, g2, e0, g3, g4, g5, g6⟩ := f4 (by omega)
                have hkz : ¬ (k : Int) = 0 := by omega
                have hkz2 : ((k : Int) == 0) = false := by simp; omega
                obtain ⟨go2, hgo2, k2⟩ := (X0.out.grown HG2.out).at_ f2
                obtain rfl : go = go2 := by injection hgo2 with hgo2; injection hgo2
                obtain ⟨gd2, hgd2, k3⟩ := (X7.out.grown HG2.out).at_ f2
                obtain rfl : gd = gd2 := by injection hgd2 with hgd2; injection hgd2
                have k2' : wg.cell? ⟨go, x, none⟩ = some (.bool true) := by rw [k2, g2]
                have k3' : wg.cell? ⟨gd, x, none⟩ = some (.int .i64 ((k : Int) - 1)) := by rw [k3, g1]
                have hxn : (x : Int) < (n : Int) := by omega
                have hwk : IntKind.i64.wrap ((k : Int) - 1) = (k : Int) - 1 := by rw [IntKind.wrap_i64]; omega
                have G1 := Lib.hid g1; have G2 := Lib.hid g2; have G4 := Lib.hid g4; have G5 := Lib.hid g5; have G6 := Lib.hid g6
                clear f3 f4 k2 k3 hgo2 hgd2 g1 g2 g4 g5 g6
                go_wp2
                clear k0 k1' k2' k3'
                go_loopw [18, 19] (fun fv ev wr => ∃ (e : Nat) (fb : Bool), fv = .bool fb ∧ ev = .int .i64 (e : Int) ∧ e ≤ m ∧ w10.grownBy wr none ∧ (e0 < e → fb = true)) (fun _ ev _ => m - (intOf ev).toNat)
                case atStart => exact ⟨0, false, rfl, rfl, Nat.zero_le _, HG2.out, fun h => by omega⟩
                case round =>
                  obtain ⟨e, fb, rfl, rfl, hem, hgr3, hfb⟩ := hrel
                  have H3 := Lib.hid hgr3; have HFB := Lib.hid hfb
                  clear hgr3 hfb
                  by_cases hle : e < m
                  · have hle2 : (e : Int) < (m : Int) := by omega
                    obtain ⟨g2, rfl, j2⟩ := (X2.out.grown H3.out).at_ hle
                    obtain ⟨g3, rfl, j3⟩ := (X3.out.grown H3.out).at_ hle
                    obtain ⟨g4, rfl, j4⟩ := (X4.out.grown H3.out).at_ hle
                    obtain ⟨u, hu⟩ : ∃ u, u = natOf z2 e := ⟨_, rfl⟩
                    obtain ⟨t, ht⟩ : ∃ t, t = natOf z3 e := ⟨_, rfl⟩
                    obtain ⟨v, hv⟩ : ∃ v, v = natOf z4 e := ⟨_, rfl⟩
                    have hun := (HIN.out e hle).1
                    have htn := (HIN.out e hle).2
                    have hvb := NB4.out e
                    rw [← hu] at j2 hun
                    rw [← ht] at j3 htn
                    rw [← hv] at j4 hvb
                    have hmod : (v : Int).tmod 3 = ((v % 3 : Nat) : Int) := by rw [Int.tmod_eq_emod_of_nonneg (by omega)]; omega
                    obtain ⟨r, hr⟩ : ∃ r, r = v % 3 := ⟨_, rfl⟩
                    have hr3 : r < 3 := by omega
                    rw [← hr] at hmod
                    have hwr : IntKind.u8.wrap (r : Int) = (r : Int) := by rw [IntKind.wrap_u8']; omega
                    have hwu : IntKind.i64.wrap (u : Int) = (u : Int) := by rw [IntKind.wrap_i64]; omega
                    have hwe3 : IntKind.i64.wrap ((e : Int) + 1) = (e : Int) + 1 := by rw [IntKind.wrap_i64]; omega
                    obtain ⟨go3, hgo3, k2⟩ := (X0.out.grown H3.out).at_ f2
                    obtain rfl : go = go3 := by injection hgo3 with hgo3; injection hgo3
                    obtain ⟨gd3, hgd3, k3⟩ := (X7.out.grown H3.out).at_ f2
                    obtain rfl : gd = gd3 := by injection hgd3 with hgd3; injection hgd3
                    obtain ⟨gd4, hgd4, k4⟩ := (X7.out.grown H3.out).at_ hlt
                    obtain rfl : gd = gd4 := by injection hgd4 with hgd4; injection hgd4
                    have k2' : wr.cell? ⟨go, x, none⟩ = some (.bool true) := by rw [k2, G2.out]
                    have k3' : wr.cell? ⟨gd, x, none⟩ = some (.int .i64 ((k : Int) - 1)) := by rw [k3, G1.out]
                    have k4' : wr.cell? ⟨gd, i, none⟩ = some (.int .i64 (k : Int)) := by rw [k4, HK.out]; congr 2; omega
                    have HU := Lib.hid hu; have HT3 := Lib.hid ht; have HV3 := Lib.hid hv; have HR3 := Lib.hid hr
                    have HN : Hid (¬ (u = i ∧ t = x ∧ r = 0) → e0 < e + 1 → fb = true) := Lib.hid (fun hne hl => by
                      rcases Nat.lt_or_ge e0 e with h1 | h1
                      · exact HFB.out h1
                      · obtain rfl : e0 = e := by omega
                        exact absurd ⟨by rw [HU.out]; exact G4.out, by rw [HT3.out]; exact G5.out, by rw [HR3.out, HV3.out]; exact G6.out⟩ hne)
                    clear k2 k3 k4 hgo3 hgd3 hgd4 hu ht hv hr hun htn hvb hr3
                    by_cases q1 : u = i
                    · subst q1
                      by_cases q2 : t = x
                      · subst q2
                        by_cases q3 : r = 0
                        · subst q3
                          go_wp2
                          go_quiet (fail)
                          go_wp2
                          go_roundw
                          case rel => exact ⟨e + 1, true, rfl, by simp, by omega, only_drewN H3.out _, fun _ => rfl⟩
                          case measure => simp [intOf]; omega
                        · have HN2 := Lib.hid (HN.out (fun h => q3 h.2.2))
                          have s1 : ((r : Int) == 0) = false := by simp; omega
                          have s2 : ¬ (r : Int) = 0 := by omega
                          go_wp2
                          go_quiet (fail)
                          go_wp2
                          go_roundw
                          case rel => exact ⟨e + 1, fb, rfl, by simp, by omega, only_drewN H3.out _, HN2.out⟩
                          case measure => simp [intOf]; omega
                      · have HN2 := Lib.hid (HN.out (fun h => q2 h.2.1))
                        have s1 : ((t : Int) == (x : Int)) = false := by simp; omega
                        have s2 : ¬ (t : Int) = (x : Int) := by omega
                        go_wp2
                        go_quiet (fail)
                        go_wp2
                        go_roundw
                        case rel => exact ⟨e + 1, fb, rfl, by simp, by omega, only_drewN H3.out _, HN2.out⟩
                        case measure => simp [intOf]; omega
                    · have HN2 := Lib.hid (HN.out (fun h => q1 h.1))
                      have s1 : ((u : Int) == (i : Int)) = false := by simp; omega
                      have s2 : ¬ (u : Int) = (i : Int) := by omega
                      go_wp2
                      go_quiet (fail)
                      go_wp2
                      go_roundw
                      case rel => exact ⟨e + 1, fb, rfl, by simp, by omega, only_drewN H3.out _, HN2.out⟩
                      case measure => simp [intOf]; omega
                  · obtain rfl : e = m := by omega
                    have hle2 : ¬ ((e : Int) < (e : Int)) := by omega
                    obtain rfl : fb = true := HFB.out g3
                    go_wp2
                    go_roundw
                    case rel => exact ⟨i + 1, by simp, by omega, H3.out⟩
                    case measure => simp [intOf]; omega
        · obtain rfl : i = n := by omega
          have hlt2 : ¬ ((i : Int) < (i : Int)) := by omega
          have HEND := Lib.hid (below_grown Y9.out HGR.out)
          go_wp2
          go_ret
          exact ⟨rfl, HEND.out⟩
end Go.Proofs.YtnekmljdipkepaaGreat
