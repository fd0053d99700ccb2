/- n011_104: zzLowerASCII, zzOpensClosingStyleTag, zzReachesHexEscape. -/
import Derived.Test.YtachkgmngahpoaaFmtRows
import Derived.Test.YtachkgmngahpoaaFmtWords
import Derived.Test.YtachkgmngahpoaaFmtQpl
import Derived.WalkKit
import Derived.WalkSpells
import Derived.LoopTactic
import Derived.Outline
import Derived.IntWalk
import Derived.BigQuiet
import Derived.Deep.QuietTactic
import Derived.Deep.DeepCutAuto
import Derived.Deep.Cut
namespace Go.Proofs.YtachkgmngahpoaaFmt
open Go.RowKit
set_option linter.unusedVariables false
set_option linter.unusedSimpArgs false

theorem qget (s : ByteArray) (k : Nat) (h : k < s.size) : s[k]'h = s.data.toList.getD k 0 := by
  rw [List.getD_eq_getElem?_getD, List.getElem?_eq_getElem (by simpa using h)]
  rfl
theorem tb_lt (t : List UInt8) (k : Nat) : tb t k < 256 := by unfold tb; exact (t.getD k 0).toNat_lt
theorem qsize (s : ByteArray) : s.data.toList.length = s.size := by rw [Array.length_toList]; rfl
set_option maxRecDepth 100000 in
theorem low_any (b : Nat) (hb : b < 256) (w : World) : Calls Tryf.prog 15 #[.int .u8 (b : Int)] w fun e w' => e = .returned (.int .u8 (lowA b : Nat)) ∧ w' = w := by
  have hw : 65 ≤ b → b ≤ 90 → IntKind.u8.wrap ((b : Int) + 32) = (b : Int) + 32 := fun h1 h2 => by rw [IntKind.wrap_u8]; omega
  by_cases h1 : 65 ≤ b
  · by_cases h2 : b ≤ 90
    · have e1 : (65 : Int) ≤ (b : Int) := by omega
      have e2 : (b : Int) ≤ 90 := by omega
      have hw := hw h1 h2
      have HL : Hid (((lowA b : Nat) : Int) = (b : Int) + 32) := Lib.hid (by unfold lowA; rw [if_pos ⟨h1, h2⟩]; omega)
      clear h1 h2
      go_enter Tryf.func15, Tryf.ntmps15
      go_wp2
      go_ret
      exact ⟨by rw [HL.out]; rfl, rfl⟩
    · have e1 : (65 : Int) ≤ (b : Int) := by omega
      have e2 : ¬ (b : Int) ≤ 90 := by omega
      have HL : Hid (lowA b = b) := Lib.hid (by unfold lowA; rw [if_neg (by omega)])
      clear h1 h2 hw
      go_enter Tryf.func15, Tryf.ntmps15
      go_wp2
      go_ret
      exact ⟨by rw [HL.out]; rfl, rfl⟩
  · have e1 : ¬ (65 : Int) ≤ (b : Int) := by omega
    have HL : Hid (lowA b = b) := Lib.hid (by unfold lowA; rw [if_neg (by omega)])
    clear h1 hw
    go_enter Tryf.func15, Tryf.ntmps15
    go_wp2
    go_ret
    exact ⟨by rw [HL.out]; rfl, rfl⟩
def opens (t : List UInt8) (i : Nat) : Bool := decide (1 ≤ i ∧ tb t (i - 1) = 60 ∧ styleFrom t (i + 1))
def OcPost (b : Bool) (w : World) (e : Ending) (w' : World) : Prop := e = .returned (.bool b) ∧ ∃ q, w' = w.drewN q
def stB (j : Nat) : Nat := if j = 0 then 115 else if j = 1 then 116 else if j = 2 then 121 else if j = 3 then 108 else 101
set_option maxHeartbeats 4000000 in
set_option maxRecDepth 100000 in
theorem oc_any (s : ByteArray) (i : Nat) (hi : i < s.size) (hs : s.size ≤ 16777216) (w : World) : Calls Tryf.prog 13 #[.string s, .int .i64 (i : Int)] w (OcPost (opens s.data.toList i) w) := by
  obtain ⟨t, ht⟩ : ∃ t, t = s.data.toList := ⟨_, rfl⟩
  have HT := Lib.hid ht
  have HL : Hid (t.length = s.size) := Lib.hid (by rw [ht]; exact qsize s)
  rw [← ht]
  clear ht
  by_cases h1 : 1 ≤ i
  · obtain ⟨i, rfl⟩ : ∃ i', i = i' + 1 := ⟨i - 1, by omega⟩
    have hp : s[i]'(by omega) = t.getD i 0 := by rw [HT.out]; exact qget s _ _
    obtain ⟨c, hc⟩ : ∃ c, c = t.getD i 0 := ⟨_, rfl⟩
    have hx : c.toNat = tb t i := by rw [hc]; rfl
    rw [← hc] at hp
    have HX := Lib.hid hx
    have hcl := c.toNat_lt
    clear hc hx
    by_cases h60 : c.toNat = 60
    · have e60 : ((c.toNat : Int) != 60) = false := by rw [h60]; rfl
      by_cases h6 : i + 1 + 6 ≤ s.size
      · have n6 : ¬ (s.size : Int) < (i : Int) + 1 + 6 := by omega
        go_enter Tryf.func13, Tryf.ntmps13
        go_wp2
        go_loopw [6] (fun j wr => ∃ k M : Nat, j = .int .i64 k ∧ k ≤ 5 ∧ wr = w.drewN M ∧ ∀ m, m < k → lowA (tb t (i + 2 + m)) = stB m) (fun j _ => 5 - (intOf j).toNat)
        case atStart => exact ⟨0, 0, rfl, by omega, rfl, fun m hm => by omega⟩
        case round =>
          obtain ⟨k, M, rfl, hk, hw, hall⟩ := hrel
          have HALL := Lib.hid hall; have HW := Lib.hid hw
          clear hall hw
          by_cases hlt : k < 5
          · have hd : s[i + 2 + k]'(by omega) = t.getD (i + 2 + k) 0 := by rw [HT.out]; exact qget s _ _
            obtain ⟨d, hdd⟩ : ∃ d, d = t.getD (i + 2 + k) 0 := ⟨_, rfl⟩
            have hdx : d.toNat = tb t (i + 2 + k) := by rw [hdd]; rfl
            rw [← hdd] at hd
            have HDX := Lib.hid hdx
            have hdl := d.toNat_lt
            clear hdd hdx
            have HQ : Hid (∀ M' : Nat, Calls Tryf.prog 15 #[.int .u8 (d.toNat : Int)] (wr.drewN M') fun e w' => e = .returned (.int .u8 (lowA d.toNat : Nat)) ∧ w' = wr.drewN M') := Lib.hid (fun M' => low_any d.toNat hdl _)
            by_cases hm : lowA d.toNat = stB k
            · have HALN : Hid (∀ m, m < k + 1 → lowA (tb t (i + 2 + m)) = stB m) := Lib.hid (fun m hm' => by
                rcases Nat.lt_or_ge m k with h | h
                · exact HALL.out m h
                · obtain rfl : m = k := by omega
                  rw [← HDX.out]; exact hm)
              rw [hm] at HQ
              clear hm
              have HM : Hid (∀ q, wr.drewN q = w.drewN (M + q)) := Lib.hid (fun q => by rw [HW.out, World.drewN_drewN])
              rcases (by omega : k = 0 ∨ k = 1 ∨ k = 2 ∨ k = 3 ∨ k = 4) with rfl | rfl | rfl | rfl | rfl
              · have hw1 : IntKind.i64.wrap ((i : Int) + 1 + 1) = (i : Int) + 1 + 1 := by rw [IntKind.wrap_i64]; omega
                have hw2 : IntKind.i64.wrap ((i : Int) + 1 + 1) = (i : Int) + 1 + 1 := by rw [IntKind.wrap_i64]; omega
                have i1 : (0 : Int) ≤ (i : Int) + 1 + 1 := by omega
                have i2 : (i : Int) + 1 + 1 < (s.size : Int) := by omega
                have i3 : ((i : Int) + 1 + 1).toNat = i + 2 := by omega
                simp only [stB] at HQ
                go_upto_region 7 with fail
                go_quiet ((go_at_call 15; exact Calls.quiet_of_same (HQ.out _)))
                go_wp2_with fail
                all_goals exact ⟨⟨0 + 1, M + nq, rfl, by omega, HM.out nq, HALN.out⟩, by simp [intOf]⟩
              · have hw1 : IntKind.i64.wrap ((i : Int) + 1 + 1) = (i : Int) + 1 + 1 := by rw [IntKind.wrap_i64]; omega
                have hw2 : IntKind.i64.wrap ((i : Int) + 1 + 1 + 1) = (i : Int) + 1 + 1 + 1 := by rw [IntKind.wrap_i64]; omega
                have i1 : (0 : Int) ≤ (i : Int) + 1 + 1 + 1 := by omega
                have i2 : (i : Int) + 1 + 1 + 1 < (s.size : Int) := by omega
                have i3 : ((i : Int) + 1 + 1 + 1).toNat = i + 2 + 1 := by omega
                simp only [stB] at HQ
                go_upto_region 7 with fail
                go_quiet ((go_at_call 15; exact Calls.quiet_of_same (HQ.out _)))
                go_wp2_with fail
                all_goals exact ⟨⟨1 + 1, M + nq, rfl, by omega, HM.out nq, HALN.out⟩, by simp [intOf]⟩
              · have hw1 : IntKind.i64.wrap ((i : Int) + 1 + 1) = (i : Int) + 1 + 1 := by rw [IntKind.wrap_i64]; omega
                have hw2 : IntKind.i64.wrap ((i : Int) + 1 + 1 + 2) = (i : Int) + 1 + 1 + 2 := by rw [IntKind.wrap_i64]; omega
                have i1 : (0 : Int) ≤ (i : Int) + 1 + 1 + 2 := by omega
                have i2 : (i : Int) + 1 + 1 + 2 < (s.size : Int) := by omega
                have i3 : ((i : Int) + 1 + 1 + 2).toNat = i + 2 + 2 := by omega
                simp only [stB] at HQ
                go_upto_region 7 with fail
                go_quiet ((go_at_call 15; exact Calls.quiet_of_same (HQ.out _)))
                go_wp2_with fail
                all_goals exact ⟨⟨2 + 1, M + nq, rfl, by omega, HM.out nq, HALN.out⟩, by simp [intOf]⟩
              · have hw1 : IntKind.i64.wrap ((i : Int) + 1 + 1) = (i : Int) + 1 + 1 := by rw [IntKind.wrap_i64]; omega
                have hw2 : IntKind.i64.wrap ((i : Int) + 1 + 1 + 3) = (i : Int) + 1 + 1 + 3 := by rw [IntKind.wrap_i64]; omega
                have i1 : (0 : Int) ≤ (i : Int) + 1 + 1 + 3 := by omega
                have i2 : (i : Int) + 1 + 1 + 3 < (s.size : Int) := by omega
                have i3 : ((i : Int) + 1 + 1 + 3).toNat = i + 2 + 3 := by omega
                simp only [stB] at HQ
                go_upto_region 7 with fail
                go_quiet ((go_at_call 15; exact Calls.quiet_of_same (HQ.out _)))
                go_wp2_with fail
                all_goals exact ⟨⟨3 + 1, M + nq, rfl, by omega, HM.out nq, HALN.out⟩, by simp [intOf]⟩
              · have hw1 : IntKind.i64.wrap ((i : Int) + 1 + 1) = (i : Int) + 1 + 1 := by rw [IntKind.wrap_i64]; omega
                have hw2 : IntKind.i64.wrap ((i : Int) + 1 + 1 + 4) = (i : Int) + 1 + 1 + 4 := by rw [IntKind.wrap_i64]; omega
                have i1 : (0 : Int) ≤ (i : Int) + 1 + 1 + 4 := by omega
                have i2 : (i : Int) + 1 + 1 + 4 < (s.size : Int) := by omega
                have i3 : ((i : Int) + 1 + 1 + 4).toNat = i + 2 + 4 := by omega
                simp only [stB] at HQ
                go_upto_region 7 with fail
                go_quiet ((go_at_call 15; exact Calls.quiet_of_same (HQ.out _)))
                go_wp2_with fail
                all_goals exact ⟨⟨4 + 1, M + nq, rfl, by omega, HM.out nq, HALN.out⟩, by simp [intOf]⟩
            · have HO : Hid (opens t (i + 1) = false) := Lib.hid (by
                unfold opens styleFrom
                rw [decide_eq_false_iff_not]
                rintro ⟨_, _, _, a0, a1, a2, a3, a4⟩
                apply hm
                rw [HDX.out]
                rcases (by omega : k = 0 ∨ k = 1 ∨ k = 2 ∨ k = 3 ∨ k = 4) with rfl | rfl | rfl | rfl | rfl
                · exact a0
                · exact a1
                · exact a2
                · exact a3
                · exact a4)
              obtain ⟨y, hy⟩ : ∃ y, y = lowA d.toNat := ⟨_, rfl⟩
              rw [← hy] at hm HQ
              have HM : Hid (∀ q, wr.drewN q = w.drewN (M + q)) := Lib.hid (fun q => by rw [HW.out, World.drewN_drewN])
              clear hy
              rcases (by omega : k = 0 ∨ k = 1 ∨ k = 2 ∨ k = 3 ∨ k = 4) with rfl | rfl | rfl | rfl | rfl
              · have hw1 : IntKind.i64.wrap ((i : Int) + 1 + 1) = (i : Int) + 1 + 1 := by rw [IntKind.wrap_i64]; omega
                have hw2 : IntKind.i64.wrap ((i : Int) + 1 + 1) = (i : Int) + 1 + 1 := by rw [IntKind.wrap_i64]; omega
                have i1 : (0 : Int) ≤ (i : Int) + 1 + 1 := by omega
                have i2 : (i : Int) + 1 + 1 < (s.size : Int) := by omega
                have i3 : ((i : Int) + 1 + 1).toNat = i + 2 := by omega
                have hm' : y ≠ 115 := hm
                clear hm
                go_upto_region 7 with fail
                go_quiet ((go_at_call 15; exact Calls.quiet_of_same (HQ.out _)))
                go_wp2
                · go_ret
                  exact ⟨by rw [HO.out]; rfl, M + nq, HM.out nq⟩
                · rename_i hh
                  have hh2 : (y : Int) = 115 := bne_eq_false_iff_eq.1 hh
                  exact absurd (Int.ofNat.inj hh2) hm'
              · have hw1 : IntKind.i64.wrap ((i : Int) + 1 + 1) = (i : Int) + 1 + 1 := by rw [IntKind.wrap_i64]; omega
                have hw2 : IntKind.i64.wrap ((i : Int) + 1 + 1 + 1) = (i : Int) + 1 + 1 + 1 := by rw [IntKind.wrap_i64]; omega
                have i1 : (0 : Int) ≤ (i : Int) + 1 + 1 + 1 := by omega
                have i2 : (i : Int) + 1 + 1 + 1 < (s.size : Int) := by omega
                have i3 : ((i : Int) + 1 + 1 + 1).toNat = i + 2 + 1 := by omega
                have hm' : y ≠ 116 := hm
                clear hm
                go_upto_region 7 with fail
                go_quiet ((go_at_call 15; exact Calls.quiet_of_same (HQ.out _)))
                go_wp2
                · go_ret
                  exact ⟨by rw [HO.out]; rfl, M + nq, HM.out nq⟩
                · rename_i hh
                  have hh2 : (y : Int) = 116 := bne_eq_false_iff_eq.1 hh
                  exact absurd (Int.ofNat.inj hh2) hm'
              · have hw1 : IntKind.i64.wrap ((i : Int) + 1 + 1) = (i : Int) + 1 + 1 := by rw [IntKind.wrap_i64]; omega
                have hw2 : IntKind.i64.wrap ((i : Int) + 1 + 1 + 2) = (i : Int) + 1 + 1 + 2 := by rw [IntKind.wrap_i64]; omega
                have i1 : (0 : Int) ≤ (i : Int) + 1 + 1 + 2 := by omega
                have i2 : (i : Int) + 1 + 1 + 2 < (s.size : Int) := by omega
                have i3 : ((i : Int) + 1 + 1 + 2).toNat = i + 2 + 2 := by omega
                have hm' : y ≠ 121 := hm
                clear hm
                go_upto_region 7 with fail
                go_quiet ((go_at_call 15; exact Calls.quiet_of_same (HQ.out _)))
                go_wp2
                · go_ret
                  exact ⟨by rw [HO.out]; rfl, M + nq, HM.out nq⟩
                · rename_i hh
                  have hh2 : (y : Int) = 121 := bne_eq_false_iff_eq.1 hh
                  exact absurd (Int.ofNat.inj hh2) hm'
              · have hw1 : IntKind.i64.wrap ((i : Int) + 1 + 1) = (i : Int) + 1 + 1 := by rw [IntKind.wrap_i64]; omega
                have hw2 : IntKind.i64.wrap ((i : Int) + 1 + 1 + 3) = (i : Int) + 1 + 1 + 3 := by rw [IntKind.wrap_i64]; omega
                have i1 : (0 : Int) ≤ (i : Int) + 1 + 1 + 3 := by omega
                have i2 : (i : Int) + 1 + 1 + 3 < (s.size : Int) := by omega
                have i3 : ((i : Int) + 1 + 1 + 3).toNat = i + 2 + 3 := by omega
                have hm' : y ≠ 108 := hm
                clear hm
                go_upto_region 7 with fail
                go_quiet ((go_at_call 15; exact Calls.quiet_of_same (HQ.out _)))
                go_wp2
                · go_ret
                  exact ⟨by rw [HO.out]; rfl, M + nq, HM.out nq⟩
                · rename_i hh
                  have hh2 : (y : Int) = 108 := bne_eq_false_iff_eq.1 hh
                  exact absurd (Int.ofNat.inj hh2) hm'
              · have hw1 : IntKind.i64.wrap ((i : Int) + 1 + 1) = (i : Int) + 1 + 1 := by rw [IntKind.wrap_i64]; omega
                have hw2 : IntKind.i64.wrap ((i : Int) + 1 + 1 + 4) = (i : Int) + 1 + 1 + 4 := by rw [IntKind.wrap_i64]; omega
                have i1 : (0 : Int) ≤ (i : Int) + 1 + 1 + 4 := by omega
                have i2 : (i : Int) + 1 + 1 + 4 < (s.size : Int) := by omega
                have i3 : ((i : Int) + 1 + 1 + 4).toNat = i + 2 + 4 := by omega
                have hm' : y ≠ 101 := hm
                clear hm
                go_upto_region 7 with fail
                go_quiet ((go_at_call 15; exact Calls.quiet_of_same (HQ.out _)))
                go_wp2
                · go_ret
                  exact ⟨by rw [HO.out]; rfl, M + nq, HM.out nq⟩
                · rename_i hh
                  have hh2 : (y : Int) = 101 := bne_eq_false_iff_eq.1 hh
                  exact absurd (Int.ofNat.inj hh2) hm'
          · obtain rfl : k = 5 := by omega
            have HO : Hid (opens t (i + 1) = true) := Lib.hid (by
              unfold opens styleFrom
              rw [decide_eq_true_iff]
              refine ⟨by omega, by rw [Nat.add_sub_cancel, ← HX.out]; exact h60, by rw [HL.out]; omega, HALL.out 0 (by omega), HALL.out 1 (by omega), HALL.out 2 (by omega), HALL.out 3 (by omega), HALL.out 4 (by omega)⟩)
            go_wp2
            go_ret
            exact ⟨by rw [HO.out]; rfl, M, HW.out⟩
      · have n6 : (s.size : Int) < (i : Int) + 1 + 6 := by omega
        have HO : Hid (opens t (i + 1) = false) := Lib.hid (by unfold opens styleFrom; rw [decide_eq_false_iff_not]; have := HL.out; omega)
        clear h6
        go_enter Tryf.func13, Tryf.ntmps13
        go_wp2
        go_ret
        exact ⟨by rw [HO.out]; rfl, 0, rfl⟩
    · have e60 : ((c.toNat : Int) != 60) = true := by rw [bne_iff_ne]; omega
      have HO : Hid (opens t (i + 1) = false) := Lib.hid (by unfold opens; rw [decide_eq_false_iff_not]; have := HX.out; rw [Nat.add_sub_cancel]; omega)
      clear h60
      go_enter Tryf.func13, Tryf.ntmps13
      go_wp2
      go_ret
      exact ⟨by rw [HO.out]; rfl, 0, rfl⟩
  · have n1 : (i : Int) < 1 := by omega
    have HO : Hid (opens t i = false) := Lib.hid (by unfold opens; rw [decide_eq_false_iff_not]; omega)
    clear h1
    go_enter Tryf.func13, Tryf.ntmps13
    go_wp2
    go_ret
    exact ⟨by rw [HO.out]; rfl, 0, rfl⟩
end Go.Proofs.YtachkgmngahpoaaFmt
