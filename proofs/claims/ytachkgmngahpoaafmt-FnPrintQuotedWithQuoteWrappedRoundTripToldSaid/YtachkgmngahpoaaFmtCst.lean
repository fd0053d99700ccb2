/- zzClosingStyleTagAt where there is no closing tag (written by mkcst.py). -/
import Derived.Test.YtachkgmngahpoaaFmtQh1
namespace Go.Proofs.YtachkgmngahpoaaFmt
open Go.RowKit
set_option linter.unusedVariables false
set_option linter.unusedSimpArgs false
set_option maxHeartbeats 4000000 in
set_option maxRecDepth 100000 in
theorem cst_any (b off n c P p : Nat) (Q : List UInt8) (w : World) (hn : n ≤ 16777216) (hP : P + (Q.length - p) = n) (hp : p < Q.length)
    (hc : ∀ j, p + j < Q.length → w.cell? ⟨b, off + (P + j), none⟩ = some (.int .u8 (tb Q (p + j) : Nat))) (hno : ¬ (p + 7 ≤ Q.length ∧ tb Q p = 60 ∧ tb Q (p + 1) = 47 ∧ styleFrom Q (p + 2))) :
    Calls Tryf.prog 12 #[.slice (some ⟨b, off, none⟩) n c, .int .i64 (P : Int)] w (OcPost false w) := by
  have hw1 : IntKind.i64.wrap ((P : Int) + 7) = (P : Int) + 7 := by rw [IntKind.wrap_i64]; omega
  have HC := Lib.hid hc; have HNO := Lib.hid hno
  clear hc hno
  by_cases h7 : p + 7 ≤ Q.length
  case neg =>
    have e7 : (n : Int) < (P : Int) + 7 := by omega
    have e7' : decide ((n : Int) < (P : Int) + 7) = true := by simpa using e7
    clear h7
    go_enter Tryf.func12, Tryf.ntmps12
    go_wp2
    go_ret
    exact ⟨rfl, 0, by rw [World.drewN_zero]⟩
  have e7 : ¬ (n : Int) < (P : Int) + 7 := by omega
  have c0 := HC.out 0 (by omega)
  have c1 := HC.out 1 (by omega)
  simp only [Nat.add_zero] at c0
  obtain ⟨x0, hx0⟩ : ∃ x, x = tb Q p := ⟨_, rfl⟩
  obtain ⟨x1, hx1⟩ : ∃ x, x = tb Q (p + 1) := ⟨_, rfl⟩
  rw [← hx0] at c0
  rw [← hx1] at c1
  have HX0 := Lib.hid hx0; have HX1 := Lib.hid hx1
  clear hx0 hx1
  have i1 : (0 : Int) ≤ (P : Int) + 1 := by omega
  have i2 : (P : Int) + 1 < (n : Int) := by omega
  have i3 : ((P : Int) + 1).toNat = P + 1 := by omega
  have i4 : (P : Int) < (n : Int) := by omega
  have hw2 : IntKind.i64.wrap ((P : Int) + 1) = (P : Int) + 1 := by rw [IntKind.wrap_i64]; omega
  by_cases h60 : x0 = 60
  case neg =>
    have e60 : ((x0 : Int) != 60) = true := by rw [bne_iff_ne]; omega
    go_enter Tryf.func12, Tryf.ntmps12
    go_wp2
    go_ret
    exact ⟨rfl, 0, by rw [World.drewN_zero]⟩
  have e60 : ((x0 : Int) != 60) = false := by rw [h60]; rfl
  by_cases h47 : x1 = 47
  case neg =>
    have e47 : ((x1 : Int) != 47) = true := by rw [bne_iff_ne]; omega
    clear h60
    go_enter Tryf.func12, Tryf.ntmps12
    go_wp2
    go_ret
    exact ⟨rfl, 0, by rw [World.drewN_zero]⟩
  have e47 : ((x1 : Int) != 47) = false := by rw [h47]; rfl
  have HNS : Hid (¬ styleFrom Q (p + 2)) := Lib.hid (fun h => HNO.out ⟨h7, by rw [← HX0.out]; exact h60, by rw [← HX1.out]; exact h47, h⟩)
  clear h60 h47
  go_enter Tryf.func12, Tryf.ntmps12
  go_wp2
  go_loopw [6] (fun j wr => ∃ k M : Nat, j = .int .i64 k ∧ k ≤ 5 ∧ wr = w.drewN M ∧ ∀ m, m < k → lowA (tb Q (p + 2 + m)) = stB m) (fun j _ => 5 - (intOf j).toNat)
  case atStart => exact ⟨0, 0, rfl, by omega, by rw [World.drewN_zero], fun m hm => by omega⟩
  case round =>
    obtain ⟨k, M, rfl, hk, hw, hall⟩ := hrel
    have HALL := Lib.hid hall; have HW := Lib.hid hw
    have cd : ∀ j, p + j < Q.length → wr.cell? ⟨b, off + (P + j), none⟩ = some (.int .u8 (tb Q (p + j) : Nat)) := fun j hj => by rw [hw]; exact HC.out j hj
    have HCD := Lib.hid cd
    clear hall hw cd c0 c1
    by_cases hlt : k < 5
    · obtain ⟨d, hdd⟩ : ∃ d, d = tb Q (p + 2 + k) := ⟨_, rfl⟩
      have hdl : d < 256 := by rw [hdd]; exact tb_lt _ _
      have HDX := Lib.hid hdd
      have HQ : Hid (∀ M' : Nat, Calls Tryf.prog 15 #[.int .u8 (d : Int)] (wr.drewN M') fun e w' => e = .returned (.int .u8 (lowA d : Nat)) ∧ w' = wr.drewN M') := Lib.hid (fun M' => low_any d hdl _)
      have HM : Hid (∀ q, wr.drewN q = w.drewN (M + q)) := Lib.hid (fun q => by rw [HW.out, World.drewN_drewN])
      have ck := HCD.out (2 + k) (by omega)
      rw [show p + (2 + k) = p + 2 + k by omega, ← hdd, show P + (2 + k) = P + 2 + k by omega] at ck
      clear hdd
      by_cases hm : lowA d = stB k
      · have HALN : Hid (∀ m, m < k + 1 → lowA (tb Q (p + 2 + m)) = stB m) := Lib.hid (fun m hm' => by
          rcases Nat.lt_or_ge m k with h | h
          · exact HALL.out m h
          · obtain rfl : m = k := by omega
            rw [← HDX.out]; exact hm)
        rw [hm] at HQ
        clear hm
        rcases (by omega : k = 0 ∨ k = 1 ∨ k = 2 ∨ k = 3 ∨ k = 4) with rfl | rfl | rfl | rfl | rfl
        · have hw3 : IntKind.i64.wrap ((P : Int) + 2) = (P : Int) + 2 := by rw [IntKind.wrap_i64]; omega
          have hw4 : IntKind.i64.wrap ((P : Int) + 2) = (P : Int) + 2 := by rw [IntKind.wrap_i64]; omega
          have j1 : (0 : Int) ≤ (P : Int) + 2 := by omega
          have j2 : (P : Int) + 2 < (n : Int) := by omega
          have j3 : ((P : Int) + 2).toNat = P + 2 := by omega
          simp only [Nat.add_zero] at ck
          simp only [stB] at HQ
          go_upto_region 7 with fail
          go_quiet ((go_at_call 15; exact Calls.quiet_of_same (HQ.out _)))
          go_wp2_with fail
          all_goals exact ⟨⟨0 + 1, M + nq, rfl, by omega, HM.out nq, HALN.out⟩, by simp [intOf]⟩
        · have hw3 : IntKind.i64.wrap ((P : Int) + 2) = (P : Int) + 2 := by rw [IntKind.wrap_i64]; omega
          have hw4 : IntKind.i64.wrap ((P : Int) + 2 + 1) = (P : Int) + 2 + 1 := by rw [IntKind.wrap_i64]; omega
          have j1 : (0 : Int) ≤ (P : Int) + 2 + 1 := by omega
          have j2 : (P : Int) + 2 + 1 < (n : Int) := by omega
          have j3 : ((P : Int) + 2 + 1).toNat = P + 2 + 1 := by omega
          skip
          simp only [stB] at HQ
          go_upto_region 7 with fail
          go_quiet ((go_at_call 15; exact Calls.quiet_of_same (HQ.out _)))
          go_wp2_with fail
          all_goals exact ⟨⟨1 + 1, M + nq, rfl, by omega, HM.out nq, HALN.out⟩, by simp [intOf]⟩
        · have hw3 : IntKind.i64.wrap ((P : Int) + 2) = (P : Int) + 2 := by rw [IntKind.wrap_i64]; omega
          have hw4 : IntKind.i64.wrap ((P : Int) + 2 + 2) = (P : Int) + 2 + 2 := by rw [IntKind.wrap_i64]; omega
          have j1 : (0 : Int) ≤ (P : Int) + 2 + 2 := by omega
          have j2 : (P : Int) + 2 + 2 < (n : Int) := by omega
          have j3 : ((P : Int) + 2 + 2).toNat = P + 2 + 2 := by omega
          skip
          simp only [stB] at HQ
          go_upto_region 7 with fail
          go_quiet ((go_at_call 15; exact Calls.quiet_of_same (HQ.out _)))
          go_wp2_with fail
          all_goals exact ⟨⟨2 + 1, M + nq, rfl, by omega, HM.out nq, HALN.out⟩, by simp [intOf]⟩
        · have hw3 : IntKind.i64.wrap ((P : Int) + 2) = (P : Int) + 2 := by rw [IntKind.wrap_i64]; omega
          have hw4 : IntKind.i64.wrap ((P : Int) + 2 + 3) = (P : Int) + 2 + 3 := by rw [IntKind.wrap_i64]; omega
          have j1 : (0 : Int) ≤ (P : Int) + 2 + 3 := by omega
          have j2 : (P : Int) + 2 + 3 < (n : Int) := by omega
          have j3 : ((P : Int) + 2 + 3).toNat = P + 2 + 3 := by omega
          skip
          simp only [stB] at HQ
          go_upto_region 7 with fail
          go_quiet ((go_at_call 15; exact Calls.quiet_of_same (HQ.out _)))
          go_wp2_with fail
          all_goals exact ⟨⟨3 + 1, M + nq, rfl, by omega, HM.out nq, HALN.out⟩, by simp [intOf]⟩
        · have hw3 : IntKind.i64.wrap ((P : Int) + 2) = (P : Int) + 2 := by rw [IntKind.wrap_i64]; omega
          have hw4 : IntKind.i64.wrap ((P : Int) + 2 + 4) = (P : Int) + 2 + 4 := by rw [IntKind.wrap_i64]; omega
          have j1 : (0 : Int) ≤ (P : Int) + 2 + 4 := by omega
          have j2 : (P : Int) + 2 + 4 < (n : Int) := by omega
          have j3 : ((P : Int) + 2 + 4).toNat = P + 2 + 4 := by omega
          skip
          simp only [stB] at HQ
          go_upto_region 7 with fail
          go_quiet ((go_at_call 15; exact Calls.quiet_of_same (HQ.out _)))
          go_wp2_with fail
          all_goals exact ⟨⟨4 + 1, M + nq, rfl, by omega, HM.out nq, HALN.out⟩, by simp [intOf]⟩
      · obtain ⟨y, hy⟩ : ∃ y, y = lowA d := ⟨_, rfl⟩
        rw [← hy] at hm HQ
        clear hy
        rcases (by omega : k = 0 ∨ k = 1 ∨ k = 2 ∨ k = 3 ∨ k = 4) with rfl | rfl | rfl | rfl | rfl
        · have hw3 : IntKind.i64.wrap ((P : Int) + 2) = (P : Int) + 2 := by rw [IntKind.wrap_i64]; omega
          have hw4 : IntKind.i64.wrap ((P : Int) + 2) = (P : Int) + 2 := by rw [IntKind.wrap_i64]; omega
          have j1 : (0 : Int) ≤ (P : Int) + 2 := by omega
          have j2 : (P : Int) + 2 < (n : Int) := by omega
          have j3 : ((P : Int) + 2).toNat = P + 2 := by omega
          simp only [Nat.add_zero] at ck
          have hm' : y ≠ 115 := hm
          clear hm
          go_upto_region 7 with fail
          go_quiet ((go_at_call 15; exact Calls.quiet_of_same (HQ.out _)))
          go_wp2
          · go_ret
            exact ⟨rfl, _, HM.out nq⟩
          · rename_i hh
            have hh2 : (y : Int) = 115 := bne_eq_false_iff_eq.1 hh
            exact absurd (Int.ofNat.inj hh2) hm'
        · have hw3 : IntKind.i64.wrap ((P : Int) + 2) = (P : Int) + 2 := by rw [IntKind.wrap_i64]; omega
          have hw4 : IntKind.i64.wrap ((P : Int) + 2 + 1) = (P : Int) + 2 + 1 := by rw [IntKind.wrap_i64]; omega
          have j1 : (0 : Int) ≤ (P : Int) + 2 + 1 := by omega
          have j2 : (P : Int) + 2 + 1 < (n : Int) := by omega
          have j3 : ((P : Int) + 2 + 1).toNat = P + 2 + 1 := by omega
          skip
          have hm' : y ≠ 116 := hm
          clear hm
          go_upto_region 7 with fail
          go_quiet ((go_at_call 15; exact Calls.quiet_of_same (HQ.out _)))
          go_wp2
          · go_ret
            exact ⟨rfl, _, HM.out nq⟩
          · rename_i hh
            have hh2 : (y : Int) = 116 := bne_eq_false_iff_eq.1 hh
            exact absurd (Int.ofNat.inj hh2) hm'
        · have hw3 : IntKind.i64.wrap ((P : Int) + 2) = (P : Int) + 2 := by rw [IntKind.wrap_i64]; omega
          have hw4 : IntKind.i64.wrap ((P : Int) + 2 + 2) = (P : Int) + 2 + 2 := by rw [IntKind.wrap_i64]; omega
          have j1 : (0 : Int) ≤ (P : Int) + 2 + 2 := by omega
          have j2 : (P : Int) + 2 + 2 < (n : Int) := by omega
          have j3 : ((P : Int) + 2 + 2).toNat = P + 2 + 2 := by omega
          skip
          have hm' : y ≠ 121 := hm
          clear hm
          go_upto_region 7 with fail
          go_quiet ((go_at_call 15; exact Calls.quiet_of_same (HQ.out _)))
          go_wp2
          · go_ret
            exact ⟨rfl, _, HM.out nq⟩
          · rename_i hh
            have hh2 : (y : Int) = 121 := bne_eq_false_iff_eq.1 hh
            exact absurd (Int.ofNat.inj hh2) hm'
        · have hw3 : IntKind.i64.wrap ((P : Int) + 2) = (P : Int) + 2 := by rw [IntKind.wrap_i64]; omega
          have hw4 : IntKind.i64.wrap ((P : Int) + 2 + 3) = (P : Int) + 2 + 3 := by rw [IntKind.wrap_i64]; omega
          have j1 : (0 : Int) ≤ (P : Int) + 2 + 3 := by omega
          have j2 : (P : Int) + 2 + 3 < (n : Int) := by omega
          have j3 : ((P : Int) + 2 + 3).toNat = P + 2 + 3 := by omega
          skip
          have hm' : y ≠ 108 := hm
          clear hm
          go_upto_region 7 with fail
          go_quiet ((go_at_call 15; exact Calls.quiet_of_same (HQ.out _)))
          go_wp2
          · go_ret
            exact ⟨rfl, _, HM.out nq⟩
          · rename_i hh
            have hh2 : (y : Int) = 108 := bne_eq_false_iff_eq.1 hh
            exact absurd (Int.ofNat.inj hh2) hm'
        · have hw3 : IntKind.i64.wrap ((P : Int) + 2) = (P : Int) + 2 := by rw [IntKind.wrap_i64]; omega
          have hw4 : IntKind.i64.wrap ((P : Int) + 2 + 4) = (P : Int) + 2 + 4 := by rw [IntKind.wrap_i64]; omega
          have j1 : (0 : Int) ≤ (P : Int) + 2 + 4 := by omega
          have j2 : (P : Int) + 2 + 4 < (n : Int) := by omega
          have j3 : ((P : Int) + 2 + 4).toNat = P + 2 + 4 := by omega
          skip
          have hm' : y ≠ 101 := hm
          clear hm
          go_upto_region 7 with fail
          go_quiet ((go_at_call 15; exact Calls.quiet_of_same (HQ.out _)))
          go_wp2
          · go_ret
            exact ⟨rfl, _, HM.out nq⟩
          · rename_i hh
            have hh2 : (y : Int) = 101 := bne_eq_false_iff_eq.1 hh
            exact absurd (Int.ofNat.inj hh2) hm'
    · obtain rfl : k = 5 := by omega
      exfalso
      exact HNS.out ⟨by omega, by simpa [stB] using HALL.out 0 (by omega), by simpa [stB] using HALL.out 1 (by omega), by simpa [stB] using HALL.out 2 (by omega), by simpa [stB] using HALL.out 3 (by omega), by simpa [stB] using HALL.out 4 (by omega)⟩
end Go.Proofs.YtachkgmngahpoaaFmt
