/- The walk of the law's own test for well-formed UTF-8. -/
import Derived.Test.YtniamejelnmdgaaDecW
import Derived.Test.YtniamejelnmdgaaSplit
import Derived.LoopTactic
namespace Go.Proofs.Ytniamejelnmdgaa
open Go.RowKit
set_option linter.unusedVariables false
set_option linter.unusedSimpArgs false

theorem validTo_end (s : ByteArray) (f k : Nat) (h : ¬ k < s.size) : validTo s f k = true := by
  cases f with
  | zero => rfl
  | succ f => rw [validTo, if_neg h]
set_option maxRecDepth 100000 in
theorem valid_any (s : ByteArray) (hs : s.size ≤ 1048576) (w : World) :
    Calls Try.prog 25 #[.string s] w fun e w' => e = .returned (.bool (validTo s s.size 0)) ∧ w = w' := by
  have HS := Lib.hid (show s.size ≤ maxLen by unfold maxLen; omega)
  go_enter Try.func25, Try.ntmps25
  go_wp2
  go_loop [3] (fun i => ∃ k f : Nat, i = .int .i64 k ∧ k ≤ s.size + 4 ∧ s.size ≤ k + f ∧ validTo s f k = validTo s s.size 0) (fun i => s.size - (intOf i).toNat)
  case atStart => exact ⟨0, s.size, rfl, by omega, by omega, rfl⟩
  case round =>
    obtain ⟨k, f, rfl, hk4, hkf, hv⟩ := hrel
    have HV := Lib.hid hv
    clear hv
    by_cases hk : k < s.size
    · obtain ⟨c, wd, hd⟩ : ∃ c wd, Utf8.decode s k = (c, wd) := ⟨_, _, rfl⟩
      have hwd : 1 ≤ wd := by have := adv_width s k hk; rw [hd] at this; exact this
      have hwd4 : wd ≤ 4 := by have := decode_width s k; rw [hd] at this; exact this
      obtain ⟨g, rfl⟩ : ∃ g, f = g + 1 := ⟨f - 1, by omega⟩
      have hv := HV.out
      rw [validTo, if_pos hk, hd] at hv
      have HV2 := Lib.hid hv
      have HD := Lib.hid hd
      clear hv hd HV
      cases ho : okTok c wd with
      | true =>
        go_wp2_with (go_at_call 26; refine (tok_any s k c wd hk HS.out HD.out _).mono ?_; rintro e w' ⟨rfl, rfl⟩)
        go_round
        case rel =>
          have hv := HV2.out
          simp only [ho, Bool.true_and] at hv
          exact ⟨k + wd, g, by go_num, by omega, by omega, hv⟩
        case measure => simp [intOf]; omega
      | false =>
        go_wp2_with (go_at_call 26; refine (tok_any s k c wd hk HS.out HD.out _).mono ?_; rintro e w' ⟨rfl, rfl⟩)
        go_ret
        have hv := HV2.out
        simp only [ho, Bool.false_and] at hv
        exact ⟨ret_bool hv, rfl⟩
    · have HV2 := Lib.hid ((validTo_end s f k hk).symm.trans HV.out)
      go_wp2
      go_ret
      exact ⟨ret_bool HV2.out, rfl⟩
end Go.Proofs.Ytniamejelnmdgaa
