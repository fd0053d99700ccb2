/- n011_125: zzIsDigit, zzHasBOM, zzNoHexEscape. -/
import Derived.Test.YtppcjkajjahclaaFmtRows
import Derived.Test.YtppcjkajjahclaaFmtWords
import Derived.Test.YtppcjkajjahclaaFmtIdv
import Derived.WalkKit
import Derived.WalkSpells
import Derived.LoopTactic
import Derived.Outline
import Derived.Deep.Cut
import Derived.Deep.CutRange
namespace Go.Proofs.YtppcjkajjahclaaFmt
open Go.RowKit
set_option linter.unusedVariables false
set_option linter.unusedSimpArgs false
set_option maxRecDepth 100000 in
theorem dig_any (b : Nat) (w : World) : Calls Tryf.prog 15 #[.int .u8 (b : Int)] w fun e w' => e = .returned (.bool (decide (48 ≤ b ∧ b ≤ 57))) ∧ w = w' := by
  by_cases h1 : 48 ≤ b
  · have e1 : (48 : Int) ≤ (b : Int) := by omega
    by_cases h2 : b ≤ 57
    · have e2 : (b : Int) ≤ 57 := by omega
      go_enter Tryf.func15, Tryf.ntmps15
      go_wp2
      go_ret
      exact ⟨ret_bool (by symm; simpa using ⟨h1, h2⟩), rfl⟩
    · have e2 : ¬ (b : Int) ≤ 57 := by omega
      go_enter Tryf.func15, Tryf.ntmps15
      go_wp2
      go_ret
      exact ⟨ret_bool (by symm; first | (simp; done) | (simp; omega)), rfl⟩
  · have e1 : ¬ (48 : Int) ≤ (b : Int) := by omega
    go_enter Tryf.func15, Tryf.ntmps15
    go_wp2
    go_ret
    exact ⟨ret_bool (by symm; first | (simp; done) | (simp; omega)), rfl⟩
def noBom (t : List UInt8) : Prop := ∀ i, i + 2 < t.length → ¬ (tb t i = 239 ∧ tb t (i + 1) = 187 ∧ tb t (i + 2) = 191)
def BoolPost (P : Prop) (w : World) (e : Ending) (w' : World) : Prop := ∃ b, e = .returned (.bool b) ∧ (b = true → P) ∧ w = w'
def NotPost (P : Prop) (w : World) (e : Ending) (w' : World) : Prop := ∃ b, e = .returned (.bool b) ∧ (b = false → P) ∧ w = w'
set_option maxHeartbeats 2000000 in
set_option maxRecDepth 100000 in
theorem bom_any (s : ByteArray) (hs : s.size ≤ 16777216) (w : World) : Calls Tryf.prog 16 #[.string s] w (NotPost (noBom s.data.toList) w) := by
  obtain ⟨t, ht⟩ : ∃ t, t = s.data.toList := ⟨_, rfl⟩
  have HT := Lib.hid ht
  have HL : Hid (t.length = s.size) := Lib.hid (by rw [ht]; exact qsize s)
  rw [← ht]
  clear ht
  go_enter Tryf.func16, Tryf.ntmps16
  go_wp2
  go_loopw [3] (fun i wr => ∃ k : Nat, i = .int .i64 k ∧ k ≤ s.size ∧ w = wr ∧ ∀ j, j < k → ¬ (tb t j = 239 ∧ tb t (j + 1) = 187 ∧ tb t (j + 2) = 191)) (fun i _ => s.size - (intOf i).toNat)
  case atStart => exact ⟨0, rfl, by omega, rfl, fun j hj => by omega⟩
  case round =>
    obtain ⟨k, rfl, hk, hw, hall⟩ := hrel
    have HALL := Lib.hid hall; have HW := Lib.hid hw
    clear hall hw
    have hw2 : IntKind.i64.wrap ((k : Int) + 2) = (k : Int) + 2 := by rw [IntKind.wrap_i64]; omega
    by_cases hlt : k + 2 < s.size
    · have hw1 : IntKind.i64.wrap ((k : Int) + 1) = (k : Int) + 1 := by rw [IntKind.wrap_i64]; omega
      have l2 : (k : Int) + 2 < (s.size : Int) := by omega
      have l1 : (k : Int) + 1 < (s.size : Int) := by omega
      have l0 : (k : Int) < (s.size : Int) := by omega
      have n1 : (0 : Int) ≤ (k : Int) + 1 := by omega
      have n2 : (0 : Int) ≤ (k : Int) + 2 := by omega
      have t1 : ((k : Int) + 1).toNat = k + 1 := by omega
      have t2 : ((k : Int) + 2).toNat = k + 2 := by omega
      have p0 : s[k]'(by omega) = t.getD k 0 := by rw [HT.out]; exact qget s _ _
      have p1 : s[k + 1]'(by omega) = t.getD (k + 1) 0 := by rw [HT.out]; exact qget s _ _
      have p2 : s[k + 2]'(by omega) = t.getD (k + 2) 0 := by rw [HT.out]; exact qget s _ _
      obtain ⟨x, hx⟩ : ∃ c, c = t.getD k 0 := ⟨_, rfl⟩
      obtain ⟨y, hy⟩ : ∃ c, c = t.getD (k + 1) 0 := ⟨_, rfl⟩
      obtain ⟨z, hz⟩ : ∃ c, c = t.getD (k + 2) 0 := ⟨_, rfl⟩
      have HX : Hid (x.toNat = tb t k) := Lib.hid (by rw [hx]; rfl)
      have HY : Hid (y.toNat = tb t (k + 1)) := Lib.hid (by rw [hy]; rfl)
      have HZ : Hid (z.toNat = tb t (k + 2)) := Lib.hid (by rw [hz]; rfl)
      rw [← hx] at p0
      rw [← hy] at p1
      rw [← hz] at p2
      clear hx hy hz
      have key : ¬ (x.toNat = 239 ∧ y.toNat = 187 ∧ z.toNat = 191) → ∀ j, j < k + 1 → ¬ (tb t j = 239 ∧ tb t (j + 1) = 187 ∧ tb t (j + 2) = 191) := fun h j hj => by
        rcases Nat.lt_or_ge j k with h1 | h1
        · exact HALL.out j h1
        · obtain rfl : j = k := by omega
          rw [← HX.out, ← HY.out, ← HZ.out]; exact h
      have KEY := Lib.hid key
      clear key
      by_cases e0 : x.toNat = 239
      · have b0 : ((x.toNat : Int) == 239) = true := by rw [e0]; rfl
        by_cases e1 : y.toNat = 187
        · have b1 : ((y.toNat : Int) == 187) = true := by rw [e1]; rfl
          by_cases e2 : z.toNat = 191
          · have b2 : ((z.toNat : Int) == 191) = true := by rw [e2]; rfl
            clear e0 e1 e2
            go_wp2
            go_ret
            exact ⟨_, rfl, fun h => (by cases h), HW.out⟩
          · have b2 : ((z.toNat : Int) == 191) = false := beq_eq_false_iff_ne.2 (by omega)
            have K2 := Lib.hid (KEY.out (fun h => e2 h.2.2))
            clear e0 e1 e2
            go_wp2
            go_roundw
            case rel => exact ⟨k + 1, by go_num, by omega, HW.out, K2.out⟩
            case measure => simp [intOf]; omega
        · have b1 : ((y.toNat : Int) == 187) = false := beq_eq_false_iff_ne.2 (by omega)
          have K2 := Lib.hid (KEY.out (fun h => e1 h.2.1))
          clear e0 e1
          go_wp2
          go_roundw
          case rel => exact ⟨k + 1, by go_num, by omega, HW.out, K2.out⟩
          case measure => simp [intOf]; omega
      · have b0 : ((x.toNat : Int) == 239) = false := beq_eq_false_iff_ne.2 (by omega)
        have K2 := Lib.hid (KEY.out (fun h => e0 h.1))
        clear e0
        go_wp2
        go_roundw
        case rel => exact ⟨k + 1, by go_num, by omega, HW.out, K2.out⟩
        case measure => simp [intOf]; omega
    · have l2 : ¬ (k : Int) + 2 < (s.size : Int) := by omega
      go_wp2
      go_ret
      exact ⟨_, rfl, fun _ i hi => HALL.out i (by have := HL.out; omega), HW.out⟩
/-- Texts that reach no hexadecimal escape. -/
def noHex (t : List UInt8) (ao : Bool) : Prop := (0 < t.length → ¬ (48 ≤ tb t 0 ∧ tb t 0 ≤ 57)) ∧ (∀ i, i < t.length → tb t i ≠ 10 ∧ tb t i ≠ 12 ∧ tb t i ≠ 13 ∧ (ao = true → tb t i < 128)) ∧ noBom t
set_option maxHeartbeats 2000000 in
set_option maxRecDepth 100000 in
theorem nohex_any (s : ByteArray) (ao : Bool) (hs : s.size ≤ 16777216) (w : World) : Calls Tryf.prog 11 #[.string s, .bool ao] w (BoolPost (noHex s.data.toList ao) w) := by
  have BX := Lib.hid (bom_any s hs w)
  obtain ⟨t, ht⟩ : ∃ t, t = s.data.toList := ⟨_, rfl⟩
  have HT := Lib.hid ht
  have HL : Hid (t.length = s.size) := Lib.hid (by rw [ht]; exact qsize s)
  rw [← ht] at BX ⊢
  clear ht
  go_enter Tryf.func11, Tryf.ntmps11
  go_upto_region 1 with fail
  go_cut [14] from 7 to 14 (fun x wx => ∃ b : Bool, x = .bool b ∧ (b = false → 0 < t.length → ¬ (48 ≤ tb t 0 ∧ tb t 0 ≤ 57)) ∧ w = wx)
  case first =>
    by_cases h0 : 0 < s.size
    · have p0 : s[0]'h0 = t.getD 0 0 := by rw [HT.out]; exact qget s _ _
      obtain ⟨x, hx⟩ : ∃ c, c = t.getD 0 0 := ⟨_, rfl⟩
      have HX : Hid (x.toNat = tb t 0) := Lib.hid (by rw [hx]; rfl)
      rw [← hx] at p0
      clear hx
      go_wp2_with (go_at_call 15; refine (dig_any x.toNat w).mono ?_; rintro e wz ⟨rfl, rfl⟩)
      go_meet
      exact ⟨_, rfl, fun h _ => by rw [← HX.out]; intro hh; simp [hh.1, hh.2] at h, rfl⟩
    · have e0 : s.size = 0 := by omega
      go_wp2
      go_meet
      exact ⟨_, rfl, fun h h1 => by have := HL.out; omega, rfl⟩
  case rest =>
  obtain ⟨b, rfl, hb, hw⟩ := hcut
  cases b
  case true =>
    go_wp2
    go_ret
    exact ⟨_, rfl, fun h => (by cases h), hw⟩
  have HB := Lib.hid (hb rfl)
  have HW := Lib.hid hw
  clear hb hw
  go_wp2
  go_loopw [5, 6] (fun i c wr => ∃ k : Nat, i = .int .i64 k ∧ k ≤ s.size ∧ w = wr ∧ ∀ j, j < k → tb t j ≠ 10 ∧ tb t j ≠ 12 ∧ tb t j ≠ 13 ∧ (ao = true → tb t j < 128)) (fun i c _ => s.size - (intOf i).toNat)
  case atStart => exact ⟨0, rfl, by omega, HW.out, fun j hj => by omega⟩
  case round =>
    obtain ⟨k, rfl, hk, hw, hall⟩ := hrel
    have HALL := Lib.hid hall; have HW := Lib.hid hw
    clear hall
    by_cases hlt : k < s.size
    · have p0 : s[k]'hlt = t.getD k 0 := by rw [HT.out]; exact qget s _ _
      obtain ⟨x, hx⟩ : ∃ c, c = t.getD k 0 := ⟨_, rfl⟩
      have HX : Hid (x.toNat = tb t k) := Lib.hid (by rw [hx]; rfl)
      rw [← hx] at p0
      clear hx hw
      by_cases e10 : x.toNat = 10 ∨ x.toNat = 12 ∨ x.toNat = 13
      · rcases e10 with e | e | e
        · have b10 : ((x.toNat : Int) == 10) = true := by rw [e]; rfl
          clear e
          go_wp2
          go_ret
          exact ⟨_, rfl, fun h => (by cases h), HW.out⟩
        · have b10 : ((x.toNat : Int) == 10) = false := beq_eq_false_iff_ne.2 (by omega)
          have b12 : ((x.toNat : Int) == 12) = true := by rw [e]; rfl
          clear e
          go_wp2
          go_ret
          exact ⟨_, rfl, fun h => (by cases h), HW.out⟩
        · have b10 : ((x.toNat : Int) == 10) = false := beq_eq_false_iff_ne.2 (by omega)
          have b12 : ((x.toNat : Int) == 12) = false := beq_eq_false_iff_ne.2 (by omega)
          have b13 : ((x.toNat : Int) == 13) = true := by rw [e]; rfl
          clear e
          go_wp2
          go_ret
          exact ⟨_, rfl, fun h => (by cases h), HW.out⟩
      · have b10 : ((x.toNat : Int) == 10) = false := beq_eq_false_iff_ne.2 (by omega)
        have b12 : ((x.toNat : Int) == 12) = false := beq_eq_false_iff_ne.2 (by omega)
        have b13 : ((x.toNat : Int) == 13) = false := beq_eq_false_iff_ne.2 (by omega)
        have N10 := Lib.hid e10
        clear e10
        have key : (ao = true → x.toNat < 128) → ∀ j, j < k + 1 → tb t j ≠ 10 ∧ tb t j ≠ 12 ∧ tb t j ≠ 13 ∧ (ao = true → tb t j < 128) := fun h j hj => by
          rcases Nat.lt_or_ge j k with h1 | h1
          · exact HALL.out j h1
          · obtain rfl : j = k := by omega
            rw [← HX.out]
            have := N10.out
            exact ⟨by omega, by omega, by omega, h⟩
        have KEY := Lib.hid key
        clear key
        cases ao
        · have K2 := Lib.hid (KEY.out (fun h => (by cases h)))
          go_wp2
          go_roundw
          case rel => exact ⟨k + 1, by go_num, by omega, HW.out, K2.out⟩
          case measure => simp [intOf]; omega
        · by_cases h128 : x.toNat < 128
          · have g : ¬ (128 : Int) ≤ (x.toNat : Int) := by omega
            have K2 := Lib.hid (KEY.out (fun _ => h128))
            go_wp2
            go_roundw
            case rel => exact ⟨k + 1, by go_num, by omega, HW.out, fun j hj => ⟨(K2.out j hj).1, (K2.out j hj).2.1, (K2.out j hj).2.2.1, fun _ => (K2.out j hj).2.2.2 rfl⟩⟩
            case measure => simp [intOf]; omega
          · have g : (128 : Int) ≤ (x.toNat : Int) := by omega
            go_wp2
            go_ret
            exact ⟨_, rfl, fun h => (by cases h), HW.out⟩
    · obtain rfl : k = s.size := by omega
      subst hw
      go_wp2_with (go_at_call 16; refine BX.out.mono ?_; rintro e wz ⟨b, rfl, hnb, hq⟩; have HNB := Lib.hid hnb; have HQ := Lib.hid hq; clear hnb hq)
      go_ret
      refine ⟨_, rfl, fun h => ⟨HB.out, fun i hi => HALL.out i (by have := HL.out; omega), HNB.out (by simpa using h)⟩, HQ.out⟩
end Go.Proofs.YtppcjkajjahclaaFmt
