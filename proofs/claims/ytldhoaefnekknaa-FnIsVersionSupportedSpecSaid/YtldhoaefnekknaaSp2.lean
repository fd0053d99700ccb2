/- The walk, one case of the number of parts. -/
import Derived.Test.YtldhoaefnekknaaRows
import Derived.WalkKit
import Derived.ProofKit
import Derived.Outline
import Derived.LoopTactic
import Derived.WalkSpells
import Derived.Deep.CutBlock
import Derived.Deep.DeepCutAuto
import Derived.Deep.Light
import Derived.Test.YtldhoaefnekknaaCli
import Derived.Test.YtldhoaefnekknaaRngW
import Derived.Test.YtldhoaefnekknaaSup
import Derived.OpenShut
import Derived.ShutString
import Derived.ChangeOld
import Derived.Below
import Derived.Carry
import Derived.Test.YtldhoaefnekknaaSpH
namespace Go.Proofs.Ytldhoaefnekknaa.fnIsVersionSupportedSpec
open Go.ChangeShapes Go.WideShapes Go.ChangeAt Go.RowKit
open Go.ChangeMaps (open_string shut_string)
set_option linter.unusedVariables false
set_option linter.unusedSimpArgs false

set_option maxHeartbeats 4000000 in
set_option maxRecDepth 100000 in
theorem walk2_ (a0 : Option Addr) (len0 cap0 : Nat) (z0 : List Rng) (a1 : Option Addr) (len1 cap1 : Nat) (z1 : List Int) (a2 : ByteArray) (w : World) (w0 : IsRngs w a0 len0 z0) (w1 : IsRow .i64 w a1 len1 cap1 z1) (w2 : a2.size ≤ maxLen)  (hq : len1 = 2) :
    Calls Try.prog 4 #[.slice a0 len0 cap0, .slice a1 len1 cap1, .string a2] w fun e w' => e = .returned (.bool true) ∧ Below w.heap.size w w' := by
  subst hq
  obtain ⟨hr0, hA0, hl0, hz0, ho0⟩ := w0
  obtain ⟨hr1, hA1, hl1⟩ := isrow_reads w1
  obtain ⟨zs, hzs⟩ : ∃ zs, zs = z1.take 2 := ⟨_, rfl⟩
  rw [← hzs] at hr1
  clear w1 hzs
  have HR0 := Lib.hid hr0; have HR1 := Lib.hid hr1
  have HA0 := Lib.hid hA0; have HA1 := Lib.hid hA1
  have HZ0 := Lib.hid hz0; have HO0 := Lib.hid ho0
  have HL0 := Lib.hid hl0; have HL1 := Lib.hid hl1; have HL2 := Lib.hid w2
  have HZL := Lib.hid (show zs.length = 2 by have := hr1.1; simpa using this)
  clear hr0 hr1 hA0 hA1 hz0 ho0
  unfold maxLen at hl0 hl1 w2
  go_enter Try.func4, Try.ntmps4
  go_wp2_with (go_at_call 11; refine (zb a0 len0 cap0 a1 2 cap1 a2 _ HL0.out HL1.out HL2.out).mono ?_)
  rintro e wz ⟨bz, rfl, rfl⟩
  cases bz
  · go_wp2
    go_ret
    exact ⟨rfl, Below.refl _ _⟩
  by_cases hbad : 32768 < len0 ∨ 32768 < 2 ∨ 524288 < a2.size
  · have HBAD := Lib.hid hbad
    clear hbad
    go_wp2
    all_goals first | (go_ret; exact ⟨rfl, Below.refl _ _⟩) | (exfalso; have hq := HBAD.out; go_light; omega)
  have hn0 : len0 ≤ 32768 := by omega
  have hn1 : 2 ≤ 32768 := by omega
  have hn2 : a2.size ≤ 524288 := by omega
  clear hbad hl0 hl1 w2
  go_wp2
  go_loopw [7] (fun t wr => ∃ k : Nat, t = .int .i64 k ∧ k ≤ 2 ∧ k ≤ 3 ∧ (∀ i, i < k → -1073741824 ≤ zs.getD i 0 ∧ zs.getD i 0 ≤ 1073741824) ∧ w = wr) (fun t _ => 3 - (intOf t).toNat)
  case atStart => exact ⟨0, rfl, by omega, by omega, fun i hi => by omega, rfl⟩
  case round =>
    obtain ⟨k, rfl, hk, hk3, hz, rfl⟩ := hrel
    have HZS := Lib.hid hz
    clear hz
    by_cases hlt : k < 2 ∧ k < 3
    · obtain ⟨hlt1, hlt2⟩ := hlt
      obtain ⟨b, off, rfl, hbk, hc⟩ := reads_cell HR1.out (by omega)
      have c0 := hc k hlt1
      have HNX : Hid (-1073741824 ≤ zs.getD k 0 ∧ zs.getD k 0 ≤ 1073741824 → ∀ i, i < k + 1 → -1073741824 ≤ zs.getD i 0 ∧ zs.getD i 0 ≤ 1073741824) := Lib.hid (fun h i hi => by
        by_cases e : i = k
        · subst e; exact h
        · exact HZS.out i (by omega))
      generalize zs.getD k 0 = x at c0 HNX
      clear hc
      by_cases hx : x < -1073741824 ∨ 1073741824 < x
      · have HX := Lib.hid hx
        clear hx
        go_wp2
        all_goals first | (go_ret; exact ⟨rfl, Below.refl _ _⟩) | (exfalso; have hq := HX.out; go_light; omega)
      · have hx1 : ¬ x < -1073741824 := by omega
        have hx2 : ¬ 1073741824 < x := by omega
        clear hx
        go_wp2
        go_roundw
        case rel => exact ⟨k + 1, by go_num, by omega, by omega, HNX.out (by omega), by first | rfl | trivial⟩
        case measure => simp [intOf]; omega
    · have HZB : Hid (∀ i, i < 3 → -1073741824 ≤ zs.getD i 0 ∧ zs.getD i 0 ≤ 1073741824) := Lib.hid (fun i hi => by
        by_cases e : i < k
        · exact HZS.out i e
        · rw [getD_past zs i (by rw [HZL.out]; omega)]; omega)
      clear HZS
      by_cases hk1 : k < 2
      · exfalso; omega
      · obtain rfl : k = 2 := by omega
        clear hlt
        go_wp2_with (go_at_call 6; refine (cloneR a0 len0 cap0 z0 w HR0.out HA0.out (by omega)).mono ?_)
        rintro e wa ⟨A1, c1, rfl, hR, hB⟩
        have RA := Lib.hid hR; have BA := Lib.hid hB
        clear hR hB
        go_wp2_with (go_at_call 7; refine (cloneIR a1 _ cap1 zs wa ((HR1.out.below BA.out).more BA.out.size) HA1.out (by omega)).mono ?_)
        rintro e wB ⟨A3, c3, rfl, hR, hB⟩
        have RA3 := Lib.hid ((RA.out.below hB).more hB.size); have RC := Lib.hid hR; have BC := Lib.hid (BA.out.trans (hB.mono BA.out.size))
        clear hR hB RA BA
        obtain ⟨B, hBB⟩ : ∃ B, B = wB.heap.size := ⟨_, rfl⟩
        rw [← hBB] at RA3 RC
        go_wp2_with (go_at_call 8; refine (noR _).mono ?_)
        rintro e wz ⟨rfl, rfl⟩
        go_wp2
        go_loopw [8, 9] (fun v t wr => ∃ k : Nat, t = .int .i64 k ∧ k ≤ len0 ∧ Own3 wr B v (z0.take k) (.slice none 0 0) [] (.slice none 0 0) [] ∧ Below B wB wr) (fun _ t _ => len0 - (intOf t).toNat)
        case atStart => exact ⟨0, rfl, by omega, Own3.nil _ _, Below.refl _ _⟩
        case round =>
          obtain ⟨k, rfl, hk, hown, hb⟩ := hrel
          have hsz : B ≤ wr.heap.size := by rw [hBB]; exact hb.size
          have HOW := Lib.hid hown; have HBW := Lib.hid hb
          clear hown hb
          by_cases hlt : k < len0
          · obtain ⟨b, off, rfl, hbk, hx⟩ := reads6 (RA3.out.below HBW.out) (by omega)
            obtain ⟨r, hr⟩ : ∃ r, z0[k]? = some r := ⟨_, List.getElem?_eq_getElem (by have := HZ0.out; omega)⟩
            obtain ⟨q0, q1, q2, q3, q4, q5⟩ := hx k r hr
            have HTS := Lib.hid (take_step hr)
            clear hx hr
            have hW : ∀ W : World, W = wr.alloc (.cells (cells6 r).toArray 31) → Own3 W B u8 (z0.take k) (.slice none 0 0) [] (.slice none 0 0) [] ∧ Below B wB W ∧ B ≤ W.heap.size := fun W hW => by
              subst hW
              exact ⟨HOW.out.only (only_alloc (World.grownBy.refl _ _) _), HBW.out.alloc hsz _, by simp; omega⟩
            have HW := Lib.hid hW
            clear hW
            go_wp2_with (go_at_call 9; refine (appR B u8 (z0.take k) r _ (HW.out _ rfl).1.o1 (by simp; omega) (HW.out _ rfl).2.2).mono ?_)
            rintro e w1 ⟨v1', rfl, ho, hg, hv⟩
            obtain ⟨hW1, hW2, hW3⟩ := HW.out _ rfl
            have OW := Lib.hid (hW1.step ho hg hv)
            have BW := Lib.hid (hW1.below hg hW2 hW3)
            clear hW1 hW2 hW3 ho hg hv
            go_wp2
            go_roundw
            case rel => exact ⟨k + 1, by go_num, by omega, by rw [HTS.out]; exact OW.out, BW.out⟩
            case measure => simp [intOf]; omega
          obtain rfl : len0 = k := by omega
          have h3 := HOW.out
          rw [List.take_of_length_le (by rw [HZ0.out]; exact Nat.le_refl _)] at h3
          obtain ⟨V1, C1, rfl, g1⟩ := own_slice h3.o1
          have G1 := Lib.hid g1
          have HN0 := Lib.hid (show z0.length ≤ 16777216 by rw [HZ0.out]; omega)
          have RCW := Lib.hid ((RC.out.below HBW.out).more hsz)
          clear h3 g1 HOW
          obtain ⟨g, hg⟩ : ∃ g, z0.any (holds1 zs a2.size) = g := ⟨_, rfl⟩
          have HG := Lib.hid hg
          clear hg
          go_wp2_with (go_at_call 10; refine (supW V1 _ C1 z0 A3 _ c3 zs a2 _ G1.out HO0.out RCW.out HN0.out (by omega) g HG.out).mono ?_)
          rintro e w1 ⟨rfl, hb⟩
          have RC1 := Lib.hid ((RCW.out.below hb).more hb.size)
          have BB1 := Lib.hid (HBW.out.trans (hb.mono hsz))
          have RA1 := Lib.hid ((RA3.out.below BB1.out).more (show B ≤ w1.heap.size by rw [hBB]; exact BB1.out.size))
          have BW1 := Lib.hid (BC.out.trans (BB1.out.mono (by rw [hBB]; exact BC.out.size)))
          clear hb
          obtain ⟨x0, hx0⟩ : ∃ x, zs.getD 0 0 = x := ⟨_, rfl⟩
          obtain ⟨x1, hx1⟩ : ∃ x, zs.getD 1 0 = x := ⟨_, rfl⟩
          have HS : Hid (z0.any (spec1 x0 x1 0 a2.size) = g) := Lib.hid (by
            have h : ∀ r ∈ z0, holds1 zs a2.size r = spec1 (zs.getD 0 0) (zs.getD 1 0) (zs.getD 2 0) a2.size r := fun r hr => spec1_eq zs a2.size HZB.out r (HO0.out r hr)
            rw [hx0] at h
            rw [hx1] at h
            rw [getD_past zs 2 (by rw [HZL.out]; omega)] at h
            rw [← HG.out]; exact (any_congr h).symm)
          obtain ⟨b0, off0, rfl, hbk0, hc0⟩ := reads_cell RC1.out (by omega)
          have p0 : w1.cell? ⟨b0, off0, none⟩ = some (.int .i64 (zs.getD 0 0)) := hc0 0 (by omega)
          have p1 : w1.cell? ⟨b0, off0 + 1, none⟩ = some (.int .i64 (zs.getD 1 0)) := hc0 1 (by omega)
          clear hc0
          rw [hx0] at p0
          rw [hx1] at p1
          obtain ⟨hp, hhp⟩ : ∃ hp, decide (a2.size ≠ 0) = hp := ⟨_, rfl⟩
          have HHP := Lib.hid hhp
          clear HZB RC1 RCW RC G1 HG hx0 hx1 hhp
          go_upto_region 28 with fail
          go_cut [15] (fun v wx => v = .bool hp ∧ w1 = wx)
          case first =>
            have HB := HHP.out
            clear HHP
            by_cases h : a2.size = 0
            · have tz : ((a2.size : Int) != 0) = false := by rw [h]; rfl
              have : hp = false := by rw [← HB]; simp [h]
              subst this
              clear HB
              go_wp2
              go_meet
              case rel => exact ⟨rfl, rfl⟩
            · have tz : ((a2.size : Int) != 0) = true := by rw [bne_iff_ne]; omega
              have : hp = true := by rw [← HB]; simp [h]
              subst this
              clear HB
              go_wp2
              go_meet
              case rel => exact ⟨rfl, rfl⟩
          case rest =>
          obtain ⟨rfl, rfl⟩ := hcut
          go_wp2
          go_loopw [16, 17] (fun v t wr => ∃ k : Nat, v = .bool ((z0.take k).any (spec1 x0 x1 0 a2.size)) ∧ t = .int .i64 k ∧ k ≤ len0 ∧ Below w1.heap.size w1 wr) (fun _ t _ => len0 - (intOf t).toNat)
          case atStart => exact ⟨0, rfl, rfl, by omega, Below.refl _ _⟩
          case round =>
            obtain ⟨k, rfl, rfl, hk, hb⟩ := hrel
            have hsz2 := hb.size
            have HBW := Lib.hid hb
            clear hb
            by_cases hlt : k < len0
            · obtain ⟨b, off, rfl, hbk, hx⟩ := reads6 (RA1.out.below HBW.out) (by omega)
              obtain ⟨r, hr⟩ : ∃ r, z0[k]? = some r := ⟨_, List.getElem?_eq_getElem (by have := HZ0.out; omega)⟩
              have HRO := Lib.hid (HO0.out r (List.mem_of_getElem? hr))
              obtain ⟨q0, q1, q2, q3, q4, q5⟩ := hx k r hr
              have HTS := Lib.hid (any_take (p := spec1 x0 x1 0 a2.size) (take_step hr))
              clear hx hr
              obtain ⟨s1, hs1⟩ : ∃ s, sg3 r.a r.b r.c x0 x1 0 = s := ⟨_, rfl⟩
              obtain ⟨s2, hs2⟩ : ∃ s, sg3 r.d r.e r.f x0 x1 0 = s := ⟨_, rfl⟩
              have HS1 := Lib.hid hs1; have HS2 := Lib.hid hs2
              clear hs1 hs2
              have HSP : Hid (spec1 x0 x1 0 a2.size r = ((decide (s1 < 0) || (s1 == 0 && !hp)) && (openEnd r || decide (0 < s2) || (s2 == 0 && hp)))) := Lib.hid (by
                unfold spec1; rw [HS1.out, HS2.out, ← HHP.out]; by_cases h : a2.size = 0 <;> simp [h])
              have hW : ∀ W : World, W = wr.alloc (.cells (cells6 r).toArray 31) → Below w1.heap.size w1 W ∧ Blk W wr.heap.size 31 (cells6 r).toArray := fun W hW => by
                subst hW
                exact ⟨HBW.out.alloc hsz2 _, Blk.new _ _ _⟩
              have HW := Lib.hid hW
              clear hW
              obtain ⟨o, ho⟩ : ∃ o, (z0.take k).any (spec1 x0 x1 0 a2.size) = o := ⟨_, rfl⟩
              have HTS' := Lib.hid (show (z0.take (k + 1)).any (spec1 x0 x1 0 a2.size) = (o || spec1 x0 x1 0 a2.size r) by rw [HTS.out, ho])
              rw [ho]
              clear ho HTS
              go_wp2_with (go_at_call 12; refine (cmpB r.a r.b r.c x0 x1 0 ⟨HRO.out.1, HRO.out.2.1, HRO.out.2.2.1⟩ _ s1 HS1.out).mono ?_)
              rintro e wz ⟨rfl, hwz⟩
              obtain ⟨hW1, hW2⟩ := HW.out _ hwz.symm
              have d3 : wz.cell? ⟨wr.heap.size, 3, none⟩ = some (.int .u16 r.d) := hW2.cell 3
              have d4 : wz.cell? ⟨wr.heap.size, 4, none⟩ = some (.int .u8 r.e) := hW2.cell 4
              have d5 : wz.cell? ⟨wr.heap.size, 5, none⟩ = some (.int .u8 r.f) := hW2.cell 5
              have HBZ := Lib.hid hW1
              clear hW1 hW2 hwz HW
              go_upto_region 35 with fail
              go_cut [20] (fun v wx => v = .bool (decide (s1 < 0) || (s1 == 0 && !hp)) ∧ wz = wx)
              case first =>
                by_cases h1 : s1 < 0
                · have e1 : (decide (s1 < 0) || (s1 == 0 && !hp)) = true := by simp [h1]
                  have E1 := Lib.hid e1
                  clear e1
                  go_wp2
                  all_goals (go_meet; rw [E1.out]; exact ⟨rfl, rfl⟩)
                · by_cases h2 : s1 = 0
                  · subst h2
                    go_wp2
                    all_goals (go_meet; exact ⟨by cases hp <;> rfl, rfl⟩)
                  · have h3 : (s1 == 0) = false := by simpa using h2
                    have e1 : (decide (s1 < 0) || (s1 == 0 && !hp)) = false := by rw [h3]; simp [h1]
                    have E1 := Lib.hid e1
                    clear e1
                    go_wp2
                    all_goals (go_meet; rw [E1.out]; exact ⟨rfl, rfl⟩)
              case rest =>
              obtain ⟨rfl, rfl⟩ := hcut
              generalize (decide (s1 < 0) || (s1 == 0 && !hp)) = so at HSP ⊢
              go_upto_region 36 with fail
              go_cut [21] (fun v wx => v = .bool (openEnd r) ∧ wz = wx)
              case first =>
                have HOE : Hid (openEnd r = ((r.d == 0) && ((r.e == 0) && (r.f == 0)))) := Lib.hid rfl
                cases t1 : (r.d == 0) <;> cases t2 : (r.e == 0) <;> cases t3 : (r.f == 0) <;> rw [t1, t2, t3] at HOE
                all_goals
                  go_wp2
                  all_goals (go_meet; rw [HOE.out]; exact ⟨rfl, rfl⟩)
              case rest =>
              obtain ⟨rfl, rfl⟩ := hcut
              generalize openEnd r = oe at HSP ⊢
              go_wp2_with (go_at_call 12; refine (cmpB r.d r.e r.f x0 x1 0 HRO.out.2.2.2 _ s2 HS2.out).mono ?_)
              rintro e wy ⟨rfl, rfl⟩
              go_upto_region 38 with fail
              go_cut [23] (fun v wx => v = .bool (oe || decide (0 < s2) || (s2 == 0 && hp)) ∧ wz = wx)
              case first =>
                cases oe
                · by_cases h1 : 0 < s2
                  · have E1 := Lib.hid (show (false || decide (0 < s2) || (s2 == 0 && hp)) = true by simp [h1])
                    go_wp2
                    all_goals (go_meet; rw [E1.out]; exact ⟨rfl, rfl⟩)
                  · by_cases h2 : s2 = 0
                    · subst h2
                      go_wp2
                      all_goals (go_meet; exact ⟨by cases hp <;> rfl, rfl⟩)
                    · have h3 : (s2 == 0) = false := by simpa using h2
                      have E1 := Lib.hid (show (false || decide (0 < s2) || (s2 == 0 && hp)) = false by rw [h3]; simp [h1])
                      go_wp2
                      all_goals (go_meet; rw [E1.out]; exact ⟨rfl, rfl⟩)
                · go_wp2
                  all_goals (go_meet; exact ⟨by simp, rfl⟩)
              case rest =>
              obtain ⟨rfl, rfl⟩ := hcut
              generalize (oe || decide (0 < s2) || (s2 == 0 && hp)) = eo at HSP ⊢
              cases so <;> cases eo
              all_goals
                go_wp2
                go_roundw
                case rel =>
                  exact ⟨k + 1, by rw [HTS'.out, HSP.out]; simp, by go_num, by omega, HBZ.out⟩
                case measure => simp [intOf]; omega
            · obtain rfl : len0 = k := by omega
              have HBF := Lib.hid (BW1.out.trans (HBW.out.mono BW1.out.size))
              have HF := Lib.hid (show (z0.take len0).any (spec1 x0 x1 0 a2.size) = g by rw [List.take_of_length_le (by rw [HZ0.out]; exact Nat.le_refl _)]; exact HS.out)
              rw [HF.out]
              cases g
              all_goals
                go_wp2
                go_ret
                exact ⟨rfl, HBF.out⟩

end Go.Proofs.Ytldhoaefnekknaa.fnIsVersionSupportedSpec
