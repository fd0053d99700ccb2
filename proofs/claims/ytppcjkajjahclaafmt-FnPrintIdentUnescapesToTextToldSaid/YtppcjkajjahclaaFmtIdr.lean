/- n011_125: zzRoundTripDomain, zzIsLetter, zzNameByte, zzOutStartsIdent. -/
import Derived.Test.YtppcjkajjahclaaFmtIdu
import Derived.Deep.Light
namespace Go.Proofs.YtppcjkajjahclaaFmt
open Go.RowKit
set_option linter.unusedVariables false
set_option linter.unusedSimpArgs false
/-- The texts that the law speaks of. -/
structure Dom (s : ByteArray) (ao : Bool) : Prop where
  hex : noHex s.data.toList ao
  valid : ValidI s
  nul : ∀ i, i < s.size → tb s.data.toList i ≠ 0
set_option maxHeartbeats 2000000 in
set_option maxRecDepth 100000 in
theorem rtd_any (s : ByteArray) (ao : Bool) (hs : s.size ≤ 1048576) (w : World) : Calls Tryf.prog 5 #[.string s, .bool ao] w (BoolPost (Dom s ao) w) := by
  have NX := Lib.hid (nohex_any s ao (by omega) w)
  have VX := Lib.hid (vu_any s (by omega) w)
  obtain ⟨t, ht⟩ : ∃ t, t = s.data.toList := ⟨_, rfl⟩
  have HT := Lib.hid ht
  have HL : Hid (t.length = s.size) := Lib.hid (by rw [ht]; exact qsize s)
  clear ht
  go_enter Tryf.func5, Tryf.ntmps5
  go_upto_region 4 with fail
  go_wp2_with (go_at_call 11; refine NX.out.mono ?_)
  rintro e wz ⟨b, rfl, hnb, hq⟩
  have HNB := Lib.hid hnb; have HQ := Lib.hid hq
  clear hnb hq
  cases b
  case false =>
    go_wp2
    go_ret
    exact ⟨_, rfl, fun h => (by cases h), HQ.out⟩
  have hw := HQ.out
  subst hw
  go_wp2_with (go_at_call 12; refine VX.out.mono ?_)
  rintro e wz ⟨b, rfl, hnb, hq⟩
  have HVB := Lib.hid hnb; have HR := Lib.hid hq
  clear hnb hq
  cases b
  case false =>
    go_wp2
    go_ret
    exact ⟨_, rfl, fun h => (by cases h), HR.out⟩
  have hw := HR.out
  subst hw
  go_wp2
  go_loopw [5] (fun i wr => ∃ k : Nat, i = .int .i64 k ∧ k ≤ s.size ∧ w = wr ∧ ∀ j, j < k → tb t j ≠ 0) (fun i _ => s.size - (intOf i).toNat)
  case atStart => exact ⟨0, rfl, by omega, rfl, fun j hj => by omega⟩
  case round =>
    obtain ⟨k, rfl, hk, hw, hall⟩ := hrel
    have HALL := Lib.hid hall; have HW := Lib.hid hw
    clear hall hw
    by_cases hlt : k < s.size
    · have p0 : s[k]'hlt = t.getD k 0 := by rw [HT.out]; exact qget s _ _
      obtain ⟨x, hx⟩ : ∃ c, c = t.getD k 0 := ⟨_, rfl⟩
      have HX : Hid (x.toNat = tb t k) := Lib.hid (by rw [hx]; rfl)
      rw [← hx] at p0
      clear hx
      by_cases e0 : x.toNat = 0
      · have b0 : ((x.toNat : Int) == 0) = true := by rw [e0]; rfl
        clear e0
        go_wp2
        go_ret
        exact ⟨_, rfl, fun h => (by cases h), HW.out⟩
      · have b0 : ((x.toNat : Int) == 0) = false := beq_eq_false_iff_ne.2 (by omega)
        have E0 := Lib.hid e0
        clear e0
        go_wp2
        go_roundw
        case rel => exact ⟨k + 1, by go_num, by omega, HW.out, fun j hj => by
          rcases Nat.lt_or_ge j k with h1 | h1
          · exact HALL.out j h1
          · obtain rfl : j = k := by omega
            rw [← HX.out]; exact E0.out⟩
        case measure => simp [intOf]; omega
    · obtain rfl : k = s.size := by omega
      go_wp2
      go_ret
      refine ⟨_, rfl, fun _ => ⟨HNB.out trivial, HVB.out trivial, fun i hi => ?_⟩, HW.out⟩
      have := HALL.out i hi
      rw [HT.out] at this
      exact this
def letB (b : Nat) : Prop := (97 ≤ b ∧ b ≤ 122) ∨ (65 ≤ b ∧ b ≤ 90)
instance (b : Nat) : Decidable (letB b) := by unfold letB; infer_instance
set_option maxRecDepth 100000 in
theorem let_any (b : Nat) (w : World) : Calls Tryf.prog 14 #[.int .u8 (b : Int)] w fun e w' => e = .returned (.bool (decide (letB b))) ∧ w = w' := by
  go_enter Tryf.func14, Tryf.ntmps14
  go_wp2
  all_goals
    go_ret
    refine ⟨ret_bool ?_, rfl⟩
    go_light
    rw [Bool.eq_iff_iff, decide_eq_true_iff (p := letB b)]
    unfold letB
    first | omega | (simp; done) | (simp; omega)
set_option maxRecDepth 100000 in
theorem nameb_any (b : Nat) (w : World) : Calls Tryf.prog 10 #[.int .u8 (b : Int)] w fun e w' => e = .returned (.bool (decide (nmB b))) ∧ w = w' := by
  by_cases hl : letB b
  · have hlb : decide (letB b) = true := by simpa using hl
    have hr : decide (nmB b) = true := decide_eq_true (by unfold letB at hl; unfold nmB; omega)
    have HR := Lib.hid hr
    clear hl hr
    go_enter Tryf.func10, Tryf.ntmps10
    go_wp2_with (go_at_call 14; refine (let_any b _).mono ?_; rw [hlb]; rintro e wz ⟨rfl, rfl⟩)
    go_ret
    exact ⟨ret_bool HR.out.symm, rfl⟩
  have hlb : decide (letB b) = false := by simpa using hl
  by_cases hd : 48 ≤ b ∧ b ≤ 57
  · have hdb : decide (48 ≤ b ∧ b ≤ 57) = true := by simpa using hd
    have HR : Hid (decide (nmB b) = true) := Lib.hid (decide_eq_true (by unfold nmB; omega))
    clear hl hd
    go_enter Tryf.func10, Tryf.ntmps10
    go_wp2_with (first | (go_at_call 14; refine (let_any b _).mono ?_; rw [hlb]; rintro e wz ⟨rfl, rfl⟩) | (go_at_call 15; refine (dig_any b _).mono ?_; rw [hdb]; rintro e wz ⟨rfl, rfl⟩))
    go_ret
    exact ⟨ret_bool HR.out.symm, rfl⟩
  have hdb : decide (48 ≤ b ∧ b ≤ 57) = false := by simpa using hd
  have HR : Hid (decide (nmB b) = decide (b = 95 ∨ b = 45)) := Lib.hid (by rw [decide_eq_decide]; unfold letB at hl; unfold nmB; omega)
  clear hl hd
  go_enter Tryf.func10, Tryf.ntmps10
  go_wp2_with (first | (go_at_call 14; refine (let_any b _).mono ?_; rw [hlb]; rintro e wz ⟨rfl, rfl⟩) | (go_at_call 15; refine (dig_any b _).mono ?_; rw [hdb]; rintro e wz ⟨rfl, rfl⟩))
  all_goals
    go_ret
    refine ⟨ret_bool ?_, rfl⟩
    rw [HR.out]
    go_light
    rw [Bool.eq_iff_iff, decide_eq_true_iff (p := b = 95 ∨ b = 45)]
    first | omega | (simp; done) | (simp; omega)
end Go.Proofs.YtppcjkajjahclaaFmt
