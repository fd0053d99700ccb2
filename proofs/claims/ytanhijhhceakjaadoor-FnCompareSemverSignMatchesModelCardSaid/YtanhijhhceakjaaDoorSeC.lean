/- CompareSemver, walked (written by gen_sec.py). -/
import Derived.Test.YtanhijhhceakjaaDoorSem
namespace Go.Proofs.YtanhijhhceakjaaDoor
open Go.RowKit
set_option linter.unusedVariables false
set_option linter.unusedSimpArgs false
def strSize : Value → Nat
  | .string s => s.size
  | _ => 0
set_option maxHeartbeats 4000000 in
set_option maxRecDepth 100000 in
theorem cmp_any (A : Option Addr) (n ca : Nat) (zs : List Int) (a : ByteArray) (B : Option Addr) (m cb : Nat) (ys : List Int) (b : ByteArray) (w : World)
    (hra : Reads w w.heap.size 1 A n (zs.map (Value.int .i64))) (hrb : Reads w w.heap.size 1 B m (ys.map (Value.int .i64))) (hn : n ≤ 1048576) (hm : m ≤ 1048576) (ha : a.size ≤ 1048576) (hb : b.size ≤ 1048576)
    (pa : okPart zs) (pb : okPart ys) (hE : Errs w) :
    Calls Tryd.prog 11 #[.agg #[.slice A n ca, .string a], .agg #[.slice B m cb, .string b]] w (SemPost zs ys a b w) := by
  have LA := Lib.hid (show zs.length = n by have := hra.1; simpa using this)
  have LB := Lib.hid (show ys.length = m by have := hrb.1; simpa using this)
  have PA := Lib.hid pa; have PB := Lib.hid pb
  obtain ⟨W, hW⟩ : ∃ W, W = (w.alloc (.cells #[.slice A n ca, .string a] 29)).alloc (.cells #[.slice B m cb, .string b] 29) := ⟨_, rfl⟩
  have HBW : Hid (Below w.heap.size w W) := Lib.hid (by rw [hW]; exact ((Below.refl _ _).alloc (Nat.le_refl _) _).alloc (by simp) _)
  have RA : Hid (Reads W w.heap.size 1 A n (zs.map (Value.int .i64))) := Lib.hid (hra.below HBW.out)
  have RB : Hid (Reads W w.heap.size 1 B m (ys.map (Value.int .i64))) := Lib.hid (hrb.below HBW.out)
  have HE := Lib.hid (hE.below HBW.out)
  have b1 := (((Blk.new w 29 #[.slice A n ca, .string a]).alloc (.cells #[.slice B m cb, .string b] 29)))
  have b2 := Blk.new (w.alloc (.cells #[.slice A n ca, .string a] 29)) 29 #[.slice B m cb, .string b]
  rw [← hW] at b1 b2
  have hsz : (w.alloc (.cells #[.slice A n ca, .string a] 29)).heap.size = w.heap.size + 1 := by simp
  rw [hsz] at b2
  have d0 : W.cell? ⟨w.heap.size, 0, none⟩ = some (.slice A n ca) := b1.cell 0
  have d1 : W.cell? ⟨w.heap.size, 1, none⟩ = some (.string a) := b1.cell 1
  have d2 : W.cell? ⟨w.heap.size + 1, 0, none⟩ = some (.slice B m cb) := b2.cell 0
  have d3 : W.cell? ⟨w.heap.size + 1, 1, none⟩ = some (.string b) := b2.cell 1
  clear b1 b2 hsz pa pb hra hrb hE
  by_cases hmn : n < m
  · go_enter Tryd.func11, Tryd.ntmps11
    go_wp2
    rw [← hW]
    clear hW
    go_loop [8] (fun i => ∃ k : Nat, i = .int .i64 k ∧ k ≤ m ∧ ∀ j, j < k → zs.getD j 0 = ys.getD j 0) (fun i => m - (intOf i).toNat)
    case atStart => exact ⟨0, rfl, by omega, fun j hj => by omega⟩
    case round =>
      obtain ⟨k, rfl, hk, hall⟩ := hrel
      have HALL := Lib.hid hall
      clear hall
      by_cases hlt : k < m
      · by_cases hka : k < n
        · obtain ⟨ba, oa, rfl, hba, hca⟩ := reads_cell RA.out (by omega)
          have ca := hca k (by omega)
          clear hca
          obtain ⟨bb, ob, rfl, hbb, hcb⟩ := reads_cell RB.out (by omega)
          have cb := hcb k (by omega)
          clear hcb
          have hxa := PA.out k
          have hxb := PB.out k
          generalize ex : zs.getD k 0 = x at *
          generalize ey : ys.getD k 0 = y at *
          have EX := Lib.hid ex; have EY := Lib.hid ey
          clear ex ey
          by_cases hxy : x = y
          · have hne : ((x : Int) != y) = false := by simpa using hxy
            have HXY := Lib.hid hxy
            clear hxy
            go_wp2
            go_round
            case rel =>
              refine ⟨k + 1, by go_num, by omega, fun j hj => ?_⟩
              by_cases e : j = k
              · rw [e, EX.out, EY.out]; exact HXY.out
              · exact HALL.out j (by omega)
            case measure => simp [intOf]; omega
          · have hne : ((x : Int) != y) = true := by simpa using hxy
            have HF := Lib.hid (semC_parts zs ys a.data.toList b.data.toList k (by have := LA.out; have := LB.out; omega) HALL.out (by rw [EX.out, EY.out]; exact hxy))
            clear hxy
            go_wp2
            go_ret
            exact ⟨ret_int (by rw [HF.out, EX.out, EY.out]; (try omega)), HBW.out⟩
        · have hza := getD_past zs k (by have := LA.out; omega)
          obtain ⟨bb, ob, rfl, hbb, hcb⟩ := reads_cell RB.out (by omega)
          have cb := hcb k (by omega)
          clear hcb
          have hxa := PA.out k
          have hxb := PB.out k
          generalize ex : zs.getD k 0 = x at *
          generalize ey : ys.getD k 0 = y at *
          have EX := Lib.hid ex; have EY := Lib.hid ey
          clear ex ey
          subst hza
          by_cases hxy : 0 = y
          · have hne : ((0 : Int) != y) = false := by simpa using hxy
            have HXY := Lib.hid hxy
            clear hxy
            go_wp2
            go_round
            case rel =>
              refine ⟨k + 1, by go_num, by omega, fun j hj => ?_⟩
              by_cases e : j = k
              · rw [e, EX.out, EY.out]; exact HXY.out
              · exact HALL.out j (by omega)
            case measure => simp [intOf]; omega
          · have hne : ((0 : Int) != y) = true := by simpa using hxy
            have HF := Lib.hid (semC_parts zs ys a.data.toList b.data.toList k (by have := LA.out; have := LB.out; omega) HALL.out (by rw [EX.out, EY.out]; exact hxy))
            clear hxy
            go_wp2
            go_ret
            exact ⟨ret_int (by rw [HF.out, EX.out, EY.out]; (try omega)), HBW.out⟩
      · have HRS := Lib.hid (semC_rest zs ys a.data.toList b.data.toList (fun j hj => HALL.out j (by have := LA.out; have := LB.out; omega)))
        cases hea : a.toList.isEmpty with
        | true =>
          cases heb : b.toList.isEmpty with
          | true =>
            have HFN := Lib.hid (show semC zs ys a.data.toList b.data.toList = tlC (stripP a.data.toList) (stripP b.data.toList) by rw [HRS.out, ← ByteArray.toList_eq a, ← ByteArray.toList_eq b, hea, heb, if_neg (by decide)])
            go_wp2_with (go_at_call 21; refine (trim_any a (by omega) _).mono ?_)
            rintro e w1 ⟨ta, rfl, hta, hts, rfl⟩
            have HTA := Lib.hid hta
            clear hta
            go_wp2_with (go_at_call 21; refine (trim_any b (by omega) _).mono ?_)
            rintro e w1 ⟨tb, rfl, htb, htbs, rfl⟩
            have HTB := Lib.hid htb
            clear htb hea heb
            go_wp2
            go_loopw [11, 12] (fun u v wr => TailRel w (semC zs ys a.data.toList b.data.toList) 1048576 u v wr) (fun u _ _ => strSize u)
            case atStart => exact ⟨ta, tb, rfl, rfl, by omega, by omega, by rw [HFN.out, HTA.out, HTB.out], HBW.out, HE.out⟩
            case round =>
              obtain ⟨xa, xb, rfl, rfl, hxa, hxb, hT, hbw, her⟩ := hrel
              have HT := Lib.hid hT; have HBR := Lib.hid hbw; have HER := Lib.hid her
              clear hT hbw her
              cases hna : xa.toList.isEmpty with
              | true =>
                have HEN : Hid (semC zs ys a.data.toList b.data.toList = (xa.size : Int) - xb.size) := Lib.hid (by
                  have h0 : xa.data.toList = [] := by rw [ByteArray.toList_eq] at hna; simpa using hna
                  rw [← HT.out, tlC_end _ _ (.inl h0), size_list, size_list])
                go_wp2
                go_ret
                exact ⟨ret_int HEN.out.symm, HBR.out⟩
              | false =>
                cases hnb : xb.toList.isEmpty with
                | true =>
                  have HEN : Hid (semC zs ys a.data.toList b.data.toList = (xa.size : Int) - xb.size) := Lib.hid (by
                    have h0 : xb.data.toList = [] := by rw [ByteArray.toList_eq] at hnb; simpa using hnb
                    rw [← HT.out, tlC_end _ _ (.inr h0), size_list, size_list])
                  go_wp2
                  go_ret
                  exact ⟨ret_int HEN.out.symm, HBR.out⟩
                | false =>
                  have na : xa.data.toList ≠ [] := by rw [ByteArray.toList_eq] at hna; simpa using hna
                  have nb : xb.data.toList ≠ [] := by rw [ByteArray.toList_eq] at hnb; simpa using hnb
                  have NA := Lib.hid na; have NB := Lib.hid nb
                  clear na nb
                  go_wp2_with (go_at_call 22; refine (split_any xa (by omega) _).mono ?_)
                  rintro e w3 ⟨ha1, ta1, rfl, hha, hta1, hsa, hsta, q1, rfl⟩
                  have HHA := Lib.hid hha; have HTA1 := Lib.hid hta1
                  clear hha hta1
                  go_wp2_with (go_at_call 22; refine (split_any xb (by omega) _).mono ?_)
                  rintro e w3 ⟨hb1, tb1, rfl, hhb, htb1, hsb, hstb, q2, rfl⟩
                  have HHB := Lib.hid hhb; have HTB1 := Lib.hid htb1
                  clear hhb htb1
                  have HB2 : Hid (Below w.heap.size w (wr.drewN (q1 + q2))) := Lib.hid (below_drewN HBR.out _)
                  have HER2 : Hid (Errs (wr.drewN (q1 + q2))) := Lib.hid HER.out
                  cases heq : (ha1.toList == hb1.toList) with
                  | true =>
                    have HNX : Hid (tlC ta1.data.toList tb1.data.toList = semC zs ys a.data.toList b.data.toList) := Lib.hid (by
                      rw [ByteArray.toList_eq, ByteArray.toList_eq] at heq
                      rw [← HT.out, tlC_next _ _ NA.out NB.out (by rw [← HHA.out, ← HHB.out]; simpa using heq), HTA1.out, HTB1.out])
                    have hlt2 : ta1.size < xa.size := by have := tlP_lt _ NA.out; rw [← HTA1.out, size_list, size_list] at this; exact this
                    go_wp2
                    go_roundw
                    case rel => exact ⟨ta1, tb1, rfl, rfl, by omega, by omega, HNX.out, HB2.out, HER2.out⟩
                    case measure => simp [strSize]; omega
                  | false =>
                    have HST : Hid (semC zs ys a.data.toList b.data.toList = headCmp ha1.data.toList hb1.data.toList) := Lib.hid (by
                      rw [ByteArray.toList_eq, ByteArray.toList_eq] at heq
                      rw [← HT.out, tlC_stop _ _ NA.out NB.out (by rw [← HHA.out, ← HHB.out]; simpa using heq), HHA.out, HHB.out])
                    have hbn1 := prN_bounds ha1.data.toList
                    have hbn2 := prN_bounds hb1.data.toList
                    cases hp1 : prB ha1.data.toList with
                    | false =>
                      cases hp2 : prB hb1.data.toList with
                      | false =>
                        have HP1 := Lib.hid hp1; have HP2 := Lib.hid hp2
                        cases hls : Op.bytesLess ha1.toList hb1.toList with
                        | true =>
                          have HV : Hid (semC zs ys a.data.toList b.data.toList = -1) := Lib.hid (by rw [HST.out]; unfold headCmp; rw [if_pos ⟨hp1, hp2⟩, ← ByteArray.toList_eq ha1, ← ByteArray.toList_eq hb1, hls]; rfl)
                          clear hp1 hp2
                          go_wp2_with (go_at_call 23; refine (pre_any ha1 (by omega) _ HER2.out).mono ?_)
                          rintro e w4 ⟨rfl, hb4⟩
                          rw [HP1.out]
                          have HB4 := Lib.hid (HB2.out.trans (hb4.mono (HB2.out.size)))
                          have HER4 := Lib.hid (HER2.out.below hb4)
                          clear hb4
                          go_wp2_with (go_at_call 23; refine (pre_any hb1 (by omega) _ HER4.out).mono ?_)
                          rintro e w5 ⟨rfl, hb5⟩
                          rw [HP2.out]
                          have HB5 := Lib.hid (HB4.out.trans (hb5.mono (HB4.out.size)))
                          clear hb5
                          go_wp2
                          go_ret
                          exact ⟨ret_int HV.out.symm, HB5.out⟩
                        | false =>
                          have HV : Hid (semC zs ys a.data.toList b.data.toList = 1) := Lib.hid (by rw [HST.out]; unfold headCmp; rw [if_pos ⟨hp1, hp2⟩, ← ByteArray.toList_eq ha1, ← ByteArray.toList_eq hb1, hls]; rfl)
                          clear hp1 hp2
                          go_wp2_with (go_at_call 23; refine (pre_any ha1 (by omega) _ HER2.out).mono ?_)
                          rintro e w4 ⟨rfl, hb4⟩
                          rw [HP1.out]
                          have HB4 := Lib.hid (HB2.out.trans (hb4.mono (HB2.out.size)))
                          have HER4 := Lib.hid (HER2.out.below hb4)
                          clear hb4
                          go_wp2_with (go_at_call 23; refine (pre_any hb1 (by omega) _ HER4.out).mono ?_)
                          rintro e w5 ⟨rfl, hb5⟩
                          rw [HP2.out]
                          have HB5 := Lib.hid (HB4.out.trans (hb5.mono (HB4.out.size)))
                          clear hb5
                          go_wp2
                          go_ret
                          exact ⟨ret_int HV.out.symm, HB5.out⟩
                      | true =>
                        have HP1 := Lib.hid hp1; have HP2 := Lib.hid hp2
                        have HV : Hid (semC zs ys a.data.toList b.data.toList = 1) := Lib.hid (by rw [HST.out]; unfold headCmp; rw [hp1, hp2]; simp)
                        clear hp1 hp2
                        go_wp2_with (go_at_call 23; refine (pre_any ha1 (by omega) _ HER2.out).mono ?_)
                        rintro e w4 ⟨rfl, hb4⟩
                        rw [HP1.out]
                        have HB4 := Lib.hid (HB2.out.trans (hb4.mono (HB2.out.size)))
                        have HER4 := Lib.hid (HER2.out.below hb4)
                        clear hb4
                        go_wp2_with (go_at_call 23; refine (pre_any hb1 (by omega) _ HER4.out).mono ?_)
                        rintro e w5 ⟨rfl, hb5⟩
                        rw [HP2.out]
                        have HB5 := Lib.hid (HB4.out.trans (hb5.mono (HB4.out.size)))
                        clear hb5
                        go_wp2
                        go_ret
                        exact ⟨ret_int HV.out.symm, HB5.out⟩
                    | true =>
                      cases hp2 : prB hb1.data.toList with
                      | false =>
                        have HP1 := Lib.hid hp1; have HP2 := Lib.hid hp2
                        have HV : Hid (semC zs ys a.data.toList b.data.toList = -1) := Lib.hid (by rw [HST.out]; unfold headCmp; rw [hp1, hp2]; simp)
                        clear hp1 hp2
                        go_wp2_with (go_at_call 23; refine (pre_any ha1 (by omega) _ HER2.out).mono ?_)
                        rintro e w4 ⟨rfl, hb4⟩
                        rw [HP1.out]
                        have HB4 := Lib.hid (HB2.out.trans (hb4.mono (HB2.out.size)))
                        have HER4 := Lib.hid (HER2.out.below hb4)
                        clear hb4
                        go_wp2_with (go_at_call 23; refine (pre_any hb1 (by omega) _ HER4.out).mono ?_)
                        rintro e w5 ⟨rfl, hb5⟩
                        rw [HP2.out]
                        have HB5 := Lib.hid (HB4.out.trans (hb5.mono (HB4.out.size)))
                        clear hb5
                        go_wp2
                        go_ret
                        exact ⟨ret_int HV.out.symm, HB5.out⟩
                      | true =>
                        have HP1 := Lib.hid hp1; have HP2 := Lib.hid hp2
                        by_cases hnn : prN ha1.data.toList = prN hb1.data.toList
                        · have HV : Hid (semC zs ys a.data.toList b.data.toList = (ha1.size : Int) - hb1.size) := Lib.hid (by rw [HST.out]; unfold headCmp; rw [if_neg (by rw [hp1]; simp), if_pos ⟨hp1, hp2⟩, if_pos hnn, size_list, size_list])
                          have hd1 : (prN ha1.data.toList != prN hb1.data.toList) = false := by simpa using hnn
                          clear hp1 hp2 hnn
                          go_wp2_with (go_at_call 23; refine (pre_any ha1 (by omega) _ HER2.out).mono ?_)
                          rintro e w4 ⟨rfl, hb4⟩
                          rw [HP1.out]
                          have HB4 := Lib.hid (HB2.out.trans (hb4.mono (HB2.out.size)))
                          have HER4 := Lib.hid (HER2.out.below hb4)
                          clear hb4
                          go_wp2_with (go_at_call 23; refine (pre_any hb1 (by omega) _ HER4.out).mono ?_)
                          rintro e w5 ⟨rfl, hb5⟩
                          rw [HP2.out]
                          have HB5 := Lib.hid (HB4.out.trans (hb5.mono (HB4.out.size)))
                          clear hb5
                          go_wp2
                          go_ret
                          exact ⟨ret_int HV.out.symm, HB5.out⟩
                        · have HV : Hid (semC zs ys a.data.toList b.data.toList = prN ha1.data.toList - prN hb1.data.toList) := Lib.hid (by rw [HST.out]; unfold headCmp; rw [if_neg (by rw [hp1]; simp), if_pos ⟨hp1, hp2⟩, if_neg hnn])
                          have hd1 : (prN ha1.data.toList != prN hb1.data.toList) = true := by simpa using hnn
                          clear hp1 hp2 hnn
                          go_wp2_with (go_at_call 23; refine (pre_any ha1 (by omega) _ HER2.out).mono ?_)
                          rintro e w4 ⟨rfl, hb4⟩
                          rw [HP1.out]
                          have HB4 := Lib.hid (HB2.out.trans (hb4.mono (HB2.out.size)))
                          have HER4 := Lib.hid (HER2.out.below hb4)
                          clear hb4
                          go_wp2_with (go_at_call 23; refine (pre_any hb1 (by omega) _ HER4.out).mono ?_)
                          rintro e w5 ⟨rfl, hb5⟩
                          rw [HP2.out]
                          have HB5 := Lib.hid (HB4.out.trans (hb5.mono (HB4.out.size)))
                          clear hb5
                          go_wp2
                          go_ret
                          exact ⟨ret_int HV.out.symm, HB5.out⟩
          | false =>
            have HFN := Lib.hid (show semC zs ys a.data.toList b.data.toList = (b.size : Int) - a.size by rw [HRS.out, ← ByteArray.toList_eq a, ← ByteArray.toList_eq b, hea, heb, if_pos (by decide), ByteArray.toList_eq, ByteArray.toList_eq, size_list, size_list])
            go_wp2
            go_ret
            exact ⟨ret_int HFN.out.symm, HBW.out⟩
        | false =>
          cases heb : b.toList.isEmpty with
          | true =>
            have HFN := Lib.hid (show semC zs ys a.data.toList b.data.toList = (b.size : Int) - a.size by rw [HRS.out, ← ByteArray.toList_eq a, ← ByteArray.toList_eq b, hea, heb, if_pos (by decide), ByteArray.toList_eq, ByteArray.toList_eq, size_list, size_list])
            go_wp2
            go_ret
            exact ⟨ret_int HFN.out.symm, HBW.out⟩
          | false =>
            have HFN := Lib.hid (show semC zs ys a.data.toList b.data.toList = tlC (stripP a.data.toList) (stripP b.data.toList) by rw [HRS.out, ← ByteArray.toList_eq a, ← ByteArray.toList_eq b, hea, heb, if_neg (by decide)])
            go_wp2_with (go_at_call 21; refine (trim_any a (by omega) _).mono ?_)
            rintro e w1 ⟨ta, rfl, hta, hts, rfl⟩
            have HTA := Lib.hid hta
            clear hta
            go_wp2_with (go_at_call 21; refine (trim_any b (by omega) _).mono ?_)
            rintro e w1 ⟨tb, rfl, htb, htbs, rfl⟩
            have HTB := Lib.hid htb
            clear htb hea heb
            go_wp2
            go_loopw [11, 12] (fun u v wr => TailRel w (semC zs ys a.data.toList b.data.toList) 1048576 u v wr) (fun u _ _ => strSize u)
            case atStart => exact ⟨ta, tb, rfl, rfl, by omega, by omega, by rw [HFN.out, HTA.out, HTB.out], HBW.out, HE.out⟩
            case round =>
              obtain ⟨xa, xb, rfl, rfl, hxa, hxb, hT, hbw, her⟩ := hrel
              have HT := Lib.hid hT; have HBR := Lib.hid hbw; have HER := Lib.hid her
              clear hT hbw her
              cases hna : xa.toList.isEmpty with
              | true =>
                have HEN : Hid (semC zs ys a.data.toList b.data.toList = (xa.size : Int) - xb.size) := Lib.hid (by
                  have h0 : xa.data.toList = [] := by rw [ByteArray.toList_eq] at hna; simpa using hna
                  rw [← HT.out, tlC_end _ _ (.inl h0), size_list, size_list])
                go_wp2
                go_ret
                exact ⟨ret_int HEN.out.symm, HBR.out⟩
              | false =>
                cases hnb : xb.toList.isEmpty with
                | true =>
                  have HEN : Hid (semC zs ys a.data.toList b.data.toList = (xa.size : Int) - xb.size) := Lib.hid (by
                    have h0 : xb.data.toList = [] := by rw [ByteArray.toList_eq] at hnb; simpa using hnb
                    rw [← HT.out, tlC_end _ _ (.inr h0), size_list, size_list])
                  go_wp2
                  go_ret
                  exact ⟨ret_int HEN.out.symm, HBR.out⟩
                | false =>
                  have na : xa.data.toList ≠ [] := by rw [ByteArray.toList_eq] at hna; simpa using hna
                  have nb : xb.data.toList ≠ [] := by rw [ByteArray.toList_eq] at hnb; simpa using hnb
                  have NA := Lib.hid na; have NB := Lib.hid nb
                  clear na nb
                  go_wp2_with (go_at_call 22; refine (split_any xa (by omega) _).mono ?_)
                  rintro e w3 ⟨ha1, ta1, rfl, hha, hta1, hsa, hsta, q1, rfl⟩
                  have HHA := Lib.hid hha; have HTA1 := Lib.hid hta1
                  clear hha hta1
                  go_wp2_with (go_at_call 22; refine (split_any xb (by omega) _).mono ?_)
                  rintro e w3 ⟨hb1, tb1, rfl, hhb, htb1, hsb, hstb, q2, rfl⟩
                  have HHB := Lib.hid hhb; have HTB1 := Lib.hid htb1
                  clear hhb htb1
                  have HB2 : Hid (Below w.heap.size w (wr.drewN (q1 + q2))) := Lib.hid (below_drewN HBR.out _)
                  have HER2 : Hid (Errs (wr.drewN (q1 + q2))) := Lib.hid HER.out
                  cases heq : (ha1.toList == hb1.toList) with
                  | true =>
                    have HNX : Hid (tlC ta1.data.toList tb1.data.toList = semC zs ys a.data.toList b.data.toList) := Lib.hid (by
                      rw [ByteArray.toList_eq, ByteArray.toList_eq] at heq
                      rw [← HT.out, tlC_next _ _ NA.out NB.out (by rw [← HHA.out, ← HHB.out]; simpa using heq), HTA1.out, HTB1.out])
                    have hlt2 : ta1.size < xa.size := by have := tlP_lt _ NA.out; rw [← HTA1.out, size_list, size_list] at this; exact this
                    go_wp2
                    go_roundw
                    case rel => exact ⟨ta1, tb1, rfl, rfl, by omega, by omega, HNX.out, HB2.out, HER2.out⟩
                    case measure => simp [strSize]; omega
                  | false =>
                    have HST : Hid (semC zs ys a.data.toList b.data.toList = headCmp ha1.data.toList hb1.data.toList) := Lib.hid (by
                      rw [ByteArray.toList_eq, ByteArray.toList_eq] at heq
                      rw [← HT.out, tlC_stop _ _ NA.out NB.out (by rw [← HHA.out, ← HHB.out]; simpa using heq), HHA.out, HHB.out])
                    have hbn1 := prN_bounds ha1.data.toList
                    have hbn2 := prN_bounds hb1.data.toList
                    cases hp1 : prB ha1.data.toList with
                    | false =>
                      cases hp2 : prB hb1.data.toList with
                      | false =>
                        have HP1 := Lib.hid hp1; have HP2 := Lib.hid hp2
                        cases hls : Op.bytesLess ha1.toList hb1.toList with
                        | true =>
                          have HV : Hid (semC zs ys a.data.toList b.data.toList = -1) := Lib.hid (by rw [HST.out]; unfold headCmp; rw [if_pos ⟨hp1, hp2⟩, ← ByteArray.toList_eq ha1, ← ByteArray.toList_eq hb1, hls]; rfl)
                          clear hp1 hp2
                          go_wp2_with (go_at_call 23; refine (pre_any ha1 (by omega) _ HER2.out).mono ?_)
                          rintro e w4 ⟨rfl, hb4⟩
                          rw [HP1.out]
                          have HB4 := Lib.hid (HB2.out.trans (hb4.mono (HB2.out.size)))
                          have HER4 := Lib.hid (HER2.out.below hb4)
                          clear hb4
                          go_wp2_with (go_at_call 23; refine (pre_any hb1 (by omega) _ HER4.out).mono ?_)
                          rintro e w5 ⟨rfl, hb5⟩
                          rw [HP2.out]
                          have HB5 := Lib.hid (HB4.out.trans (hb5.mono (HB4.out.size)))
                          clear hb5
                          go_wp2
                          go_ret
                          exact ⟨ret_int HV.out.symm, HB5.out⟩
                        | false =>
                          have HV : Hid (semC zs ys a.data.toList b.data.toList = 1) := Lib.hid (by rw [HST.out]; unfold headCmp; rw [if_pos ⟨hp1, hp2⟩, ← ByteArray.toList_eq ha1, ← ByteArray.toList_eq hb1, hls]; rfl)
                          clear hp1 hp2
                          go_wp2_with (go_at_call 23; refine (pre_any ha1 (by omega) _ HER2.out).mono ?_)
                          rintro e w4 ⟨rfl, hb4⟩
                          rw [HP1.out]
                          have HB4 := Lib.hid (HB2.out.trans (hb4.mono (HB2.out.size)))
                          have HER4 := Lib.hid (HER2.out.below hb4)
                          clear hb4
                          go_wp2_with (go_at_call 23; refine (pre_any hb1 (by omega) _ HER4.out).mono ?_)
                          rintro e w5 ⟨rfl, hb5⟩
                          rw [HP2.out]
                          have HB5 := Lib.hid (HB4.out.trans (hb5.mono (HB4.out.size)))
                          clear hb5
                          go_wp2
                          go_ret
                          exact ⟨ret_int HV.out.symm, HB5.out⟩
                      | true =>
                        have HP1 := Lib.hid hp1; have HP2 := Lib.hid hp2
                        have HV : Hid (semC zs ys a.data.toList b.data.toList = 1) := Lib.hid (by rw [HST.out]; unfold headCmp; rw [hp1, hp2]; simp)
                        clear hp1 hp2
                        go_wp2_with (go_at_call 23; refine (pre_any ha1 (by omega) _ HER2.out).mono ?_)
                        rintro e w4 ⟨rfl, hb4⟩
                        rw [HP1.out]
                        have HB4 := Lib.hid (HB2.out.trans (hb4.mono (HB2.out.size)))
                        have HER4 := Lib.hid (HER2.out.below hb4)
                        clear hb4
                        go_wp2_with (go_at_call 23; refine (pre_any hb1 (by omega) _ HER4.out).mono ?_)
                        rintro e w5 ⟨rfl, hb5⟩
                        rw [HP2.out]
                        have HB5 := Lib.hid (HB4.out.trans (hb5.mono (HB4.out.size)))
                        clear hb5
                        go_wp2
                        go_ret
                        exact ⟨ret_int HV.out.symm, HB5.out⟩
                    | true =>
                      cases hp2 : prB hb1.data.toList with
                      | false =>
                        have HP1 := Lib.hid hp1; have HP2 := Lib.hid hp2
                        have HV : Hid (semC zs ys a.data.toList b.data.toList = -1) := Lib.hid (by rw [HST.out]; unfold headCmp; rw [hp1, hp2]; simp)
                        clear hp1 hp2
                        go_wp2_with (go_at_call 23; refine (pre_any ha1 (by omega) _ HER2.out).mono ?_)
                        rintro e w4 ⟨rfl, hb4⟩
                        rw [HP1.out]
                        have HB4 := Lib.hid (HB2.out.trans (hb4.mono (HB2.out.size)))
                        have HER4 := Lib.hid (HER2.out.below hb4)
                        clear hb4
                        go_wp2_with (go_at_call 23; refine (pre_any hb1 (by omega) _ HER4.out).mono ?_)
                        rintro e w5 ⟨rfl, hb5⟩
                        rw [HP2.out]
                        have HB5 := Lib.hid (HB4.out.trans (hb5.mono (HB4.out.size)))
                        clear hb5
                        go_wp2
                        go_ret
                        exact ⟨ret_int HV.out.symm, HB5.out⟩
                      | true =>
                        have HP1 := Lib.hid hp1; have HP2 := Lib.hid hp2
                        by_cases hnn : prN ha1.data.toList = prN hb1.data.toList
                        · have HV : Hid (semC zs ys a.data.toList b.data.toList = (ha1.size : Int) - hb1.size) := Lib.hid (by rw [HST.out]; unfold headCmp; rw [if_neg (by rw [hp1]; simp), if_pos ⟨hp1, hp2⟩, if_pos hnn, size_list, size_list])
                          have hd1 : (prN ha1.data.toList != prN hb1.data.toList) = false := by simpa using hnn
                          clear hp1 hp2 hnn
                          go_wp2_with (go_at_call 23; refine (pre_any ha1 (by omega) _ HER2.out).mono ?_)
                          rintro e w4 ⟨rfl, hb4⟩
                          rw [HP1.out]
                          have HB4 := Lib.hid (HB2.out.trans (hb4.mono (HB2.out.size)))
                          have HER4 := Lib.hid (HER2.out.below hb4)
                          clear hb4
                          go_wp2_with (go_at_call 23; refine (pre_any hb1 (by omega) _ HER4.out).mono ?_)
                          rintro e w5 ⟨rfl, hb5⟩
                          rw [HP2.out]
                          have HB5 := Lib.hid (HB4.out.trans (hb5.mono (HB4.out.size)))
                          clear hb5
                          go_wp2
                          go_ret
                          exact ⟨ret_int HV.out.symm, HB5.out⟩
                        · have HV : Hid (semC zs ys a.data.toList b.data.toList = prN ha1.data.toList - prN hb1.data.toList) := Lib.hid (by rw [HST.out]; unfold headCmp; rw [if_neg (by rw [hp1]; simp), if_pos ⟨hp1, hp2⟩, if_neg hnn])
                          have hd1 : (prN ha1.data.toList != prN hb1.data.toList) = true := by simpa using hnn
                          clear hp1 hp2 hnn
                          go_wp2_with (go_at_call 23; refine (pre_any ha1 (by omega) _ HER2.out).mono ?_)
                          rintro e w4 ⟨rfl, hb4⟩
                          rw [HP1.out]
                          have HB4 := Lib.hid (HB2.out.trans (hb4.mono (HB2.out.size)))
                          have HER4 := Lib.hid (HER2.out.below hb4)
                          clear hb4
                          go_wp2_with (go_at_call 23; refine (pre_any hb1 (by omega) _ HER4.out).mono ?_)
                          rintro e w5 ⟨rfl, hb5⟩
                          rw [HP2.out]
                          have HB5 := Lib.hid (HB4.out.trans (hb5.mono (HB4.out.size)))
                          clear hb5
                          go_wp2
                          go_ret
                          exact ⟨ret_int HV.out.symm, HB5.out⟩
  · go_enter Tryd.func11, Tryd.ntmps11
    go_wp2
    rw [← hW]
    clear hW
    go_loop [8] (fun i => ∃ k : Nat, i = .int .i64 k ∧ k ≤ n ∧ ∀ j, j < k → zs.getD j 0 = ys.getD j 0) (fun i => n - (intOf i).toNat)
    case atStart => exact ⟨0, rfl, by omega, fun j hj => by omega⟩
    case round =>
      obtain ⟨k, rfl, hk, hall⟩ := hrel
      have HALL := Lib.hid hall
      clear hall
      by_cases hlt : k < n
      · by_cases hkb : k < m
        · obtain ⟨ba, oa, rfl, hba, hca⟩ := reads_cell RA.out (by omega)
          have ca := hca k (by omega)
          clear hca
          obtain ⟨bb, ob, rfl, hbb, hcb⟩ := reads_cell RB.out (by omega)
          have cb := hcb k (by omega)
          clear hcb
          have hxa := PA.out k
          have hxb := PB.out k
          generalize ex : zs.getD k 0 = x at *
          generalize ey : ys.getD k 0 = y at *
          have EX := Lib.hid ex; have EY := Lib.hid ey
          clear ex ey
          by_cases hxy : x = y
          · have hne : ((x : Int) != y) = false := by simpa using hxy
            have HXY := Lib.hid hxy
            clear hxy
            go_wp2
            go_round
            case rel =>
              refine ⟨k + 1, by go_num, by omega, fun j hj => ?_⟩
              by_cases e : j = k
              · rw [e, EX.out, EY.out]; exact HXY.out
              · exact HALL.out j (by omega)
            case measure => simp [intOf]; omega
          · have hne : ((x : Int) != y) = true := by simpa using hxy
            have HF := Lib.hid (semC_parts zs ys a.data.toList b.data.toList k (by have := LA.out; have := LB.out; omega) HALL.out (by rw [EX.out, EY.out]; exact hxy))
            clear hxy
            go_wp2
            go_ret
            exact ⟨ret_int (by rw [HF.out, EX.out, EY.out]; (try omega)), HBW.out⟩
        · obtain ⟨ba, oa, rfl, hba, hca⟩ := reads_cell RA.out (by omega)
          have ca := hca k (by omega)
          clear hca
          have hzb := getD_past ys k (by have := LB.out; omega)
          have hxa := PA.out k
          have hxb := PB.out k
          generalize ex : zs.getD k 0 = x at *
          generalize ey : ys.getD k 0 = y at *
          have EX := Lib.hid ex; have EY := Lib.hid ey
          clear ex ey
          subst hzb
          by_cases hxy : x = 0
          · have hne : ((x : Int) != 0) = false := by simpa using hxy
            have HXY := Lib.hid hxy
            clear hxy
            go_wp2
            go_round
            case rel =>
              refine ⟨k + 1, by go_num, by omega, fun j hj => ?_⟩
              by_cases e : j = k
              · rw [e, EX.out, EY.out]; exact HXY.out
              · exact HALL.out j (by omega)
            case measure => simp [intOf]; omega
          · have hne : ((x : Int) != 0) = true := by simpa using hxy
            have HF := Lib.hid (semC_parts zs ys a.data.toList b.data.toList k (by have := LA.out; have := LB.out; omega) HALL.out (by rw [EX.out, EY.out]; exact hxy))
            clear hxy
            go_wp2
            go_ret
            exact ⟨ret_int (by rw [HF.out, EX.out, EY.out]; (try omega)), HBW.out⟩
      · have HRS := Lib.hid (semC_rest zs ys a.data.toList b.data.toList (fun j hj => HALL.out j (by have := LA.out; have := LB.out; omega)))
        cases hea : a.toList.isEmpty with
        | true =>
          cases heb : b.toList.isEmpty with
          | true =>
            have HFN := Lib.hid (show semC zs ys a.data.toList b.data.toList = tlC (stripP a.data.toList) (stripP b.data.toList) by rw [HRS.out, ← ByteArray.toList_eq a, ← ByteArray.toList_eq b, hea, heb, if_neg (by decide)])
            go_wp2_with (go_at_call 21; refine (trim_any a (by omega) _).mono ?_)
            rintro e w1 ⟨ta, rfl, hta, hts, rfl⟩
            have HTA := Lib.hid hta
            clear hta
            go_wp2_with (go_at_call 21; refine (trim_any b (by omega) _).mono ?_)
            rintro e w1 ⟨tb, rfl, htb, htbs, rfl⟩
            have HTB := Lib.hid htb
            clear htb hea heb
            go_wp2
            go_loopw [11, 12] (fun u v wr => TailRel w (semC zs ys a.data.toList b.data.toList) 1048576 u v wr) (fun u _ _ => strSize u)
            case atStart => exact ⟨ta, tb, rfl, rfl, by omega, by omega, by rw [HFN.out, HTA.out, HTB.out], HBW.out, HE.out⟩
            case round =>
              obtain ⟨xa, xb, rfl, rfl, hxa, hxb, hT, hbw, her⟩ := hrel
              have HT := Lib.hid hT; have HBR := Lib.hid hbw; have HER := Lib.hid her
              clear hT hbw her
              cases hna : xa.toList.isEmpty with
              | true =>
                have HEN : Hid (semC zs ys a.data.toList b.data.toList = (xa.size : Int) - xb.size) := Lib.hid (by
                  have h0 : xa.data.toList = [] := by rw [ByteArray.toList_eq] at hna; simpa using hna
                  rw [← HT.out, tlC_end _ _ (.inl h0), size_list, size_list])
                go_wp2
                go_ret
                exact ⟨ret_int HEN.out.symm, HBR.out⟩
              | false =>
                cases hnb : xb.toList.isEmpty with
                | true =>
                  have HEN : Hid (semC zs ys a.data.toList b.data.toList = (xa.size : Int) - xb.size) := Lib.hid (by
                    have h0 : xb.data.toList = [] := by rw [ByteArray.toList_eq] at hnb; simpa using hnb
                    rw [← HT.out, tlC_end _ _ (.inr h0), size_list, size_list])
                  go_wp2
                  go_ret
                  exact ⟨ret_int HEN.out.symm, HBR.out⟩
                | false =>
                  have na : xa.data.toList ≠ [] := by rw [ByteArray.toList_eq] at hna; simpa using hna
                  have nb : xb.data.toList ≠ [] := by rw [ByteArray.toList_eq] at hnb; simpa using hnb
                  have NA := Lib.hid na; have NB := Lib.hid nb
                  clear na nb
                  go_wp2_with (go_at_call 22; refine (split_any xa (by omega) _).mono ?_)
                  rintro e w3 ⟨ha1, ta1, rfl, hha, hta1, hsa, hsta, q1, rfl⟩
                  have HHA := Lib.hid hha; have HTA1 := Lib.hid hta1
                  clear hha hta1
                  go_wp2_with (go_at_call 22; refine (split_any xb (by omega) _).mono ?_)
                  rintro e w3 ⟨hb1, tb1, rfl, hhb, htb1, hsb, hstb, q2, rfl⟩
                  have HHB := Lib.hid hhb; have HTB1 := Lib.hid htb1
                  clear hhb htb1
                  have HB2 : Hid (Below w.heap.size w (wr.drewN (q1 + q2))) := Lib.hid (below_drewN HBR.out _)
                  have HER2 : Hid (Errs (wr.drewN (q1 + q2))) := Lib.hid HER.out
                  cases heq : (ha1.toList == hb1.toList) with
                  | true =>
                    have HNX : Hid (tlC ta1.data.toList tb1.data.toList = semC zs ys a.data.toList b.data.toList) := Lib.hid (by
                      rw [ByteArray.toList_eq, ByteArray.toList_eq] at heq
                      rw [← HT.out, tlC_next _ _ NA.out NB.out (by rw [← HHA.out, ← HHB.out]; simpa using heq), HTA1.out, HTB1.out])
                    have hlt2 : ta1.size < xa.size := by have := tlP_lt _ NA.out; rw [← HTA1.out, size_list, size_list] at this; exact this
                    go_wp2
                    go_roundw
                    case rel => exact ⟨ta1, tb1, rfl, rfl, by omega, by omega, HNX.out, HB2.out, HER2.out⟩
                    case measure => simp [strSize]; omega
                  | false =>
                    have HST : Hid (semC zs ys a.data.toList b.data.toList = headCmp ha1.data.toList hb1.data.toList) := Lib.hid (by
                      rw [ByteArray.toList_eq, ByteArray.toList_eq] at heq
                      rw [← HT.out, tlC_stop _ _ NA.out NB.out (by rw [← HHA.out, ← HHB.out]; simpa using heq), HHA.out, HHB.out])
                    have hbn1 := prN_bounds ha1.data.toList
                    have hbn2 := prN_bounds hb1.data.toList
                    cases hp1 : prB ha1.data.toList with
                    | false =>
                      cases hp2 : prB hb1.data.toList with
                      | false =>
                        have HP1 := Lib.hid hp1; have HP2 := Lib.hid hp2
                        cases hls : Op.bytesLess ha1.toList hb1.toList with
                        | true =>
                          have HV : Hid (semC zs ys a.data.toList b.data.toList = -1) := Lib.hid (by rw [HST.out]; unfold headCmp; rw [if_pos ⟨hp1, hp2⟩, ← ByteArray.toList_eq ha1, ← ByteArray.toList_eq hb1, hls]; rfl)
                          clear hp1 hp2
                          go_wp2_with (go_at_call 23; refine (pre_any ha1 (by omega) _ HER2.out).mono ?_)
                          rintro e w4 ⟨rfl, hb4⟩
                          rw [HP1.out]
                          have HB4 := Lib.hid (HB2.out.trans (hb4.mono (HB2.out.size)))
                          have HER4 := Lib.hid (HER2.out.below hb4)
                          clear hb4
                          go_wp2_with (go_at_call 23; refine (pre_any hb1 (by omega) _ HER4.out).mono ?_)
                          rintro e w5 ⟨rfl, hb5⟩
                          rw [HP2.out]
                          have HB5 := Lib.hid (HB4.out.trans (hb5.mono (HB4.out.size)))
                          clear hb5
                          go_wp2
                          go_ret
                          exact ⟨ret_int HV.out.symm, HB5.out⟩
                        | false =>
                          have HV : Hid (semC zs ys a.data.toList b.data.toList = 1) := Lib.hid (by rw [HST.out]; unfold headCmp; rw [if_pos ⟨hp1, hp2⟩, ← ByteArray.toList_eq ha1, ← ByteArray.toList_eq hb1, hls]; rfl)
                          clear hp1 hp2
                          go_wp2_with (go_at_call 23; refine (pre_any ha1 (by omega) _ HER2.out).mono ?_)
                          rintro e w4 ⟨rfl, hb4⟩
                          rw [HP1.out]
                          have HB4 := Lib.hid (HB2.out.trans (hb4.mono (HB2.out.size)))
                          have HER4 := Lib.hid (HER2.out.below hb4)
                          clear hb4
                          go_wp2_with (go_at_call 23; refine (pre_any hb1 (by omega) _ HER4.out).mono ?_)
                          rintro e w5 ⟨rfl, hb5⟩
                          rw [HP2.out]
                          have HB5 := Lib.hid (HB4.out.trans (hb5.mono (HB4.out.size)))
                          clear hb5
                          go_wp2
                          go_ret
                          exact ⟨ret_int HV.out.symm, HB5.out⟩
                      | true =>
                        have HP1 := Lib.hid hp1; have HP2 := Lib.hid hp2
                        have HV : Hid (semC zs ys a.data.toList b.data.toList = 1) := Lib.hid (by rw [HST.out]; unfold headCmp; rw [hp1, hp2]; simp)
                        clear hp1 hp2
                        go_wp2_with (go_at_call 23; refine (pre_any ha1 (by omega) _ HER2.out).mono ?_)
                        rintro e w4 ⟨rfl, hb4⟩
                        rw [HP1.out]
                        have HB4 := Lib.hid (HB2.out.trans (hb4.mono (HB2.out.size)))
                        have HER4 := Lib.hid (HER2.out.below hb4)
                        clear hb4
                        go_wp2_with (go_at_call 23; refine (pre_any hb1 (by omega) _ HER4.out).mono ?_)
                        rintro e w5 ⟨rfl, hb5⟩
                        rw [HP2.out]
                        have HB5 := Lib.hid (HB4.out.trans (hb5.mono (HB4.out.size)))
                        clear hb5
                        go_wp2
                        go_ret
                        exact ⟨ret_int HV.out.symm, HB5.out⟩
                    | true =>
                      cases hp2 : prB hb1.data.toList with
                      | false =>
                        have HP1 := Lib.hid hp1; have HP2 := Lib.hid hp2
                        have HV : Hid (semC zs ys a.data.toList b.data.toList = -1) := Lib.hid (by rw [HST.out]; unfold headCmp; rw [hp1, hp2]; simp)
                        clear hp1 hp2
                        go_wp2_with (go_at_call 23; refine (pre_any ha1 (by omega) _ HER2.out).mono ?_)
                        rintro e w4 ⟨rfl, hb4⟩
                        rw [HP1.out]
                        have HB4 := Lib.hid (HB2.out.trans (hb4.mono (HB2.out.size)))
                        have HER4 := Lib.hid (HER2.out.below hb4)
                        clear hb4
                        go_wp2_with (go_at_call 23; refine (pre_any hb1 (by omega) _ HER4.out).mono ?_)
                        rintro e w5 ⟨rfl, hb5⟩
                        rw [HP2.out]
                        have HB5 := Lib.hid (HB4.out.trans (hb5.mono (HB4.out.size)))
                        clear hb5
                        go_wp2
                        go_ret
                        exact ⟨ret_int HV.out.symm, HB5.out⟩
                      | true =>
                        have HP1 := Lib.hid hp1; have HP2 := Lib.hid hp2
                        by_cases hnn : prN ha1.data.toList = prN hb1.data.toList
                        · have HV : Hid (semC zs ys a.data.toList b.data.toList = (ha1.size : Int) - hb1.size) := Lib.hid (by rw [HST.out]; unfold headCmp; rw [if_neg (by rw [hp1]; simp), if_pos ⟨hp1, hp2⟩, if_pos hnn, size_list, size_list])
                          have hd1 : (prN ha1.data.toList != prN hb1.data.toList) = false := by simpa using hnn
                          clear hp1 hp2 hnn
                          go_wp2_with (go_at_call 23; refine (pre_any ha1 (by omega) _ HER2.out).mono ?_)
                          rintro e w4 ⟨rfl, hb4⟩
                          rw [HP1.out]
                          have HB4 := Lib.hid (HB2.out.trans (hb4.mono (HB2.out.size)))
                          have HER4 := Lib.hid (HER2.out.below hb4)
                          clear hb4
                          go_wp2_with (go_at_call 23; refine (pre_any hb1 (by omega) _ HER4.out).mono ?_)
                          rintro e w5 ⟨rfl, hb5⟩
                          rw [HP2.out]
                          have HB5 := Lib.hid (HB4.out.trans (hb5.mono (HB4.out.size)))
                          clear hb5
                          go_wp2
                          go_ret
                          exact ⟨ret_int HV.out.symm, HB5.out⟩
                        · have HV : Hid (semC zs ys a.data.toList b.data.toList = prN ha1.data.toList - prN hb1.data.toList) := Lib.hid (by rw [HST.out]; unfold headCmp; rw [if_neg (by rw [hp1]; simp), if_pos ⟨hp1, hp2⟩, if_neg hnn])
                          have hd1 : (prN ha1.data.toList != prN hb1.data.toList) = true := by simpa using hnn
                          clear hp1 hp2 hnn
                          go_wp2_with (go_at_call 23; refine (pre_any ha1 (by omega) _ HER2.out).mono ?_)
                          rintro e w4 ⟨rfl, hb4⟩
                          rw [HP1.out]
                          have HB4 := Lib.hid (HB2.out.trans (hb4.mono (HB2.out.size)))
                          have HER4 := Lib.hid (HER2.out.below hb4)
                          clear hb4
                          go_wp2_with (go_at_call 23; refine (pre_any hb1 (by omega) _ HER4.out).mono ?_)
                          rintro e w5 ⟨rfl, hb5⟩
                          rw [HP2.out]
                          have HB5 := Lib.hid (HB4.out.trans (hb5.mono (HB4.out.size)))
                          clear hb5
                          go_wp2
                          go_ret
                          exact ⟨ret_int HV.out.symm, HB5.out⟩
          | false =>
            have HFN := Lib.hid (show semC zs ys a.data.toList b.data.toList = (b.size : Int) - a.size by rw [HRS.out, ← ByteArray.toList_eq a, ← ByteArray.toList_eq b, hea, heb, if_pos (by decide), ByteArray.toList_eq, ByteArray.toList_eq, size_list, size_list])
            go_wp2
            go_ret
            exact ⟨ret_int HFN.out.symm, HBW.out⟩
        | false =>
          cases heb : b.toList.isEmpty with
          | true =>
            have HFN := Lib.hid (show semC zs ys a.data.toList b.data.toList = (b.size : Int) - a.size by rw [HRS.out, ← ByteArray.toList_eq a, ← ByteArray.toList_eq b, hea, heb, if_pos (by decide), ByteArray.toList_eq, ByteArray.toList_eq, size_list, size_list])
            go_wp2
            go_ret
            exact ⟨ret_int HFN.out.symm, HBW.out⟩
          | false =>
            have HFN := Lib.hid (show semC zs ys a.data.toList b.data.toList = tlC (stripP a.data.toList) (stripP b.data.toList) by rw [HRS.out, ← ByteArray.toList_eq a, ← ByteArray.toList_eq b, hea, heb, if_neg (by decide)])
            go_wp2_with (go_at_call 21; refine (trim_any a (by omega) _).mono ?_)
            rintro e w1 ⟨ta, rfl, hta, hts, rfl⟩
            have HTA := Lib.hid hta
            clear hta
            go_wp2_with (go_at_call 21; refine (trim_any b (by omega) _).mono ?_)
            rintro e w1 ⟨tb, rfl, htb, htbs, rfl⟩
            have HTB := Lib.hid htb
            clear htb hea heb
            go_wp2
            go_loopw [11, 12] (fun u v wr => TailRel w (semC zs ys a.data.toList b.data.toList) 1048576 u v wr) (fun u _ _ => strSize u)
            case atStart => exact ⟨ta, tb, rfl, rfl, by omega, by omega, by rw [HFN.out, HTA.out, HTB.out], HBW.out, HE.out⟩
            case round =>
              obtain ⟨xa, xb, rfl, rfl, hxa, hxb, hT, hbw, her⟩ := hrel
              have HT := Lib.hid hT; have HBR := Lib.hid hbw; have HER := Lib.hid her
              clear hT hbw her
              cases hna : xa.toList.isEmpty with
              | true =>
                have HEN : Hid (semC zs ys a.data.toList b.data.toList = (xa.size : Int) - xb.size) := Lib.hid (by
                  have h0 : xa.data.toList = [] := by rw [ByteArray.toList_eq] at hna; simpa using hna
                  rw [← HT.out, tlC_end _ _ (.inl h0), size_list, size_list])
                go_wp2
                go_ret
                exact ⟨ret_int HEN.out.symm, HBR.out⟩
              | false =>
                cases hnb : xb.toList.isEmpty with
                | true =>
                  have HEN : Hid (semC zs ys a.data.toList b.data.toList = (xa.size : Int) - xb.size) := Lib.hid (by
                    have h0 : xb.data.toList = [] := by rw [ByteArray.toList_eq] at hnb; simpa using hnb
                    rw [← HT.out, tlC_end _ _ (.inr h0), size_list, size_list])
                  go_wp2
                  go_ret
                  exact ⟨ret_int HEN.out.symm, HBR.out⟩
                | false =>
                  have na : xa.data.toList ≠ [] := by rw [ByteArray.toList_eq] at hna; simpa using hna
                  have nb : xb.data.toList ≠ [] := by rw [ByteArray.toList_eq] at hnb; simpa using hnb
                  have NA := Lib.hid na; have NB := Lib.hid nb
                  clear na nb
                  go_wp2_with (go_at_call 22; refine (split_any xa (by omega) _).mono ?_)
                  rintro e w3 ⟨ha1, ta1, rfl, hha, hta1, hsa, hsta, q1, rfl⟩
                  have HHA := Lib.hid hha; have HTA1 := Lib.hid hta1
                  clear hha hta1
                  go_wp2_with (go_at_call 22; refine (split_any xb (by omega) _).mono ?_)
                  rintro e w3 ⟨hb1, tb1, rfl, hhb, htb1, hsb, hstb, q2, rfl⟩
                  have HHB := Lib.hid hhb; have HTB1 := Lib.hid htb1
                  clear hhb htb1
                  have HB2 : Hid (Below w.heap.size w (wr.drewN (q1 + q2))) := Lib.hid (below_drewN HBR.out _)
                  have HER2 : Hid (Errs (wr.drewN (q1 + q2))) := Lib.hid HER.out
                  cases heq : (ha1.toList == hb1.toList) with
                  | true =>
                    have HNX : Hid (tlC ta1.data.toList tb1.data.toList = semC zs ys a.data.toList b.data.toList) := Lib.hid (by
                      rw [ByteArray.toList_eq, ByteArray.toList_eq] at heq
                      rw [← HT.out, tlC_next _ _ NA.out NB.out (by rw [← HHA.out, ← HHB.out]; simpa using heq), HTA1.out, HTB1.out])
                    have hlt2 : ta1.size < xa.size := by have := tlP_lt _ NA.out; rw [← HTA1.out, size_list, size_list] at this; exact this
                    go_wp2
                    go_roundw
                    case rel => exact ⟨ta1, tb1, rfl, rfl, by omega, by omega, HNX.out, HB2.out, HER2.out⟩
                    case measure => simp [strSize]; omega
                  | false =>
                    have HST : Hid (semC zs ys a.data.toList b.data.toList = headCmp ha1.data.toList hb1.data.toList) := Lib.hid (by
                      rw [ByteArray.toList_eq, ByteArray.toList_eq] at heq
                      rw [← HT.out, tlC_stop _ _ NA.out NB.out (by rw [← HHA.out, ← HHB.out]; simpa using heq), HHA.out, HHB.out])
                    have hbn1 := prN_bounds ha1.data.toList
                    have hbn2 := prN_bounds hb1.data.toList
                    cases hp1 : prB ha1.data.toList with
                    | false =>
                      cases hp2 : prB hb1.data.toList with
                      | false =>
                        have HP1 := Lib.hid hp1; have HP2 := Lib.hid hp2
                        cases hls : Op.bytesLess ha1.toList hb1.toList with
                        | true =>
                          have HV : Hid (semC zs ys a.data.toList b.data.toList = -1) := Lib.hid (by rw [HST.out]; unfold headCmp; rw [if_pos ⟨hp1, hp2⟩, ← ByteArray.toList_eq ha1, ← ByteArray.toList_eq hb1, hls]; rfl)
                          clear hp1 hp2
                          go_wp2_with (go_at_call 23; refine (pre_any ha1 (by omega) _ HER2.out).mono ?_)
                          rintro e w4 ⟨rfl, hb4⟩
                          rw [HP1.out]
                          have HB4 := Lib.hid (HB2.out.trans (hb4.mono (HB2.out.size)))
                          have HER4 := Lib.hid (HER2.out.below hb4)
                          clear hb4
                          go_wp2_with (go_at_call 23; refine (pre_any hb1 (by omega) _ HER4.out).mono ?_)
                          rintro e w5 ⟨rfl, hb5⟩
                          rw [HP2.out]
                          have HB5 := Lib.hid (HB4.out.trans (hb5.mono (HB4.out.size)))
                          clear hb5
                          go_wp2
                          go_ret
                          exact ⟨ret_int HV.out.symm, HB5.out⟩
                        | false =>
                          have HV : Hid (semC zs ys a.data.toList b.data.toList = 1) := Lib.hid (by rw [HST.out]; unfold headCmp; rw [if_pos ⟨hp1, hp2⟩, ← ByteArray.toList_eq ha1, ← ByteArray.toList_eq hb1, hls]; rfl)
                          clear hp1 hp2
                          go_wp2_with (go_at_call 23; refine (pre_any ha1 (by omega) _ HER2.out).mono ?_)
                          rintro e w4 ⟨rfl, hb4⟩
                          rw [HP1.out]
                          have HB4 := Lib.hid (HB2.out.trans (hb4.mono (HB2.out.size)))
                          have HER4 := Lib.hid (HER2.out.below hb4)
                          clear hb4
                          go_wp2_with (go_at_call 23; refine (pre_any hb1 (by omega) _ HER4.out).mono ?_)
                          rintro e w5 ⟨rfl, hb5⟩
                          rw [HP2.out]
                          have HB5 := Lib.hid (HB4.out.trans (hb5.mono (HB4.out.size)))
                          clear hb5
                          go_wp2
                          go_ret
                          exact ⟨ret_int HV.out.symm, HB5.out⟩
                      | true =>
                        have HP1 := Lib.hid hp1; have HP2 := Lib.hid hp2
                        have HV : Hid (semC zs ys a.data.toList b.data.toList = 1) := Lib.hid (by rw [HST.out]; unfold headCmp; rw [hp1, hp2]; simp)
                        clear hp1 hp2
                        go_wp2_with (go_at_call 23; refine (pre_any ha1 (by omega) _ HER2.out).mono ?_)
                        rintro e w4 ⟨rfl, hb4⟩
                        rw [HP1.out]
                        have HB4 := Lib.hid (HB2.out.trans (hb4.mono (HB2.out.size)))
                        have HER4 := Lib.hid (HER2.out.below hb4)
                        clear hb4
                        go_wp2_with (go_at_call 23; refine (pre_any hb1 (by omega) _ HER4.out).mono ?_)
                        rintro e w5 ⟨rfl, hb5⟩
                        rw [HP2.out]
                        have HB5 := Lib.hid (HB4.out.trans (hb5.mono (HB4.out.size)))
                        clear hb5
                        go_wp2
                        go_ret
                        exact ⟨ret_int HV.out.symm, HB5.out⟩
                    | true =>
                      cases hp2 : prB hb1.data.toList with
                      | false =>
                        have HP1 := Lib.hid hp1; have HP2 := Lib.hid hp2
                        have HV : Hid (semC zs ys a.data.toList b.data.toList = -1) := Lib.hid (by rw [HST.out]; unfold headCmp; rw [hp1, hp2]; simp)
                        clear hp1 hp2
                        go_wp2_with (go_at_call 23; refine (pre_any ha1 (by omega) _ HER2.out).mono ?_)
                        rintro e w4 ⟨rfl, hb4⟩
                        rw [HP1.out]
                        have HB4 := Lib.hid (HB2.out.trans (hb4.mono (HB2.out.size)))
                        have HER4 := Lib.hid (HER2.out.below hb4)
                        clear hb4
                        go_wp2_with (go_at_call 23; refine (pre_any hb1 (by omega) _ HER4.out).mono ?_)
                        rintro e w5 ⟨rfl, hb5⟩
                        rw [HP2.out]
                        have HB5 := Lib.hid (HB4.out.trans (hb5.mono (HB4.out.size)))
                        clear hb5
                        go_wp2
                        go_ret
                        exact ⟨ret_int HV.out.symm, HB5.out⟩
                      | true =>
                        have HP1 := Lib.hid hp1; have HP2 := Lib.hid hp2
                        by_cases hnn : prN ha1.data.toList = prN hb1.data.toList
                        · have HV : Hid (semC zs ys a.data.toList b.data.toList = (ha1.size : Int) - hb1.size) := Lib.hid (by rw [HST.out]; unfold headCmp; rw [if_neg (by rw [hp1]; simp), if_pos ⟨hp1, hp2⟩, if_pos hnn, size_list, size_list])
                          have hd1 : (prN ha1.data.toList != prN hb1.data.toList) = false := by simpa using hnn
                          clear hp1 hp2 hnn
                          go_wp2_with (go_at_call 23; refine (pre_any ha1 (by omega) _ HER2.out).mono ?_)
                          rintro e w4 ⟨rfl, hb4⟩
                          rw [HP1.out]
                          have HB4 := Lib.hid (HB2.out.trans (hb4.mono (HB2.out.size)))
                          have HER4 := Lib.hid (HER2.out.below hb4)
                          clear hb4
                          go_wp2_with (go_at_call 23; refine (pre_any hb1 (by omega) _ HER4.out).mono ?_)
                          rintro e w5 ⟨rfl, hb5⟩
                          rw [HP2.out]
                          have HB5 := Lib.hid (HB4.out.trans (hb5.mono (HB4.out.size)))
                          clear hb5
                          go_wp2
                          go_ret
                          exact ⟨ret_int HV.out.symm, HB5.out⟩
                        · have HV : Hid (semC zs ys a.data.toList b.data.toList = prN ha1.data.toList - prN hb1.data.toList) := Lib.hid (by rw [HST.out]; unfold headCmp; rw [if_neg (by rw [hp1]; simp), if_pos ⟨hp1, hp2⟩, if_neg hnn])
                          have hd1 : (prN ha1.data.toList != prN hb1.data.toList) = true := by simpa using hnn
                          clear hp1 hp2 hnn
                          go_wp2_with (go_at_call 23; refine (pre_any ha1 (by omega) _ HER2.out).mono ?_)
                          rintro e w4 ⟨rfl, hb4⟩
                          rw [HP1.out]
                          have HB4 := Lib.hid (HB2.out.trans (hb4.mono (HB2.out.size)))
                          have HER4 := Lib.hid (HER2.out.below hb4)
                          clear hb4
                          go_wp2_with (go_at_call 23; refine (pre_any hb1 (by omega) _ HER4.out).mono ?_)
                          rintro e w5 ⟨rfl, hb5⟩
                          rw [HP2.out]
                          have HB5 := Lib.hid (HB4.out.trans (hb5.mono (HB4.out.size)))
                          clear hb5
                          go_wp2
                          go_ret
                          exact ⟨ret_int HV.out.symm, HB5.out⟩
end Go.Proofs.YtanhijhhceakjaaDoor
