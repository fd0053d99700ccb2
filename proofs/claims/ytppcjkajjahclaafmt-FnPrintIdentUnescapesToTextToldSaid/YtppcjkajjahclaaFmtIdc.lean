/- css_lexer.IsNameStart and IsNameContinue of any rune. -/
import Derived.Test.YtppcjkajjahclaaFmtEsc
import Derived.WalkSpells
import Derived.LoopTactic
import Derived.Laws.IdiomStrings
import Derived.WalkMore
import Derived.Deep.Light
import Derived.Outline
namespace Go.Proofs.YtppcjkajjahclaaFmt
open Go.RowKit
set_option linter.unusedVariables false
set_option linter.unusedSimpArgs false
theorem byte_get (s : ByteArray) (k : Nat) (h : k < s.size) : s[k] = s.data.toList.getD k 0 := by
  rw [List.getD_eq_getElem?_getD, List.getElem?_eq_getElem (by simpa using h)]; rfl
theorem byte_size (s : ByteArray) : s.data.toList.length = s.size := by rw [Array.length_toList]; rfl
def isStart (c : Int) : Bool := decide ((97 ≤ c ∧ c ≤ 122) ∨ (65 ≤ c ∧ c ≤ 90) ∨ c = 95 ∨ 128 ≤ c ∨ c = 0)
def isCont (c : Int) : Bool := isStart c || decide ((48 ≤ c ∧ c ≤ 57) ∨ c = 45)
set_option maxRecDepth 100000 in
theorem start_any (c : Int) (w : World) : Calls Tryf.prog 22 #[.int .i32 c] w fun e w' => e = .returned (.bool (isStart c)) ∧ w = w' := by
  go_enter Tryf.func22, Tryf.ntmps22
  go_wp2
  all_goals
    go_ret
    refine ⟨ret_bool ?_, rfl⟩
    go_light
    symm
    unfold isStart
    rw [Bool.eq_iff_iff]
    simp
    try omega
set_option maxRecDepth 100000 in
theorem cont_any (c : Int) (w : World) : Calls Tryf.prog 18 #[.int .i32 c] w fun e w' => e = .returned (.bool (isCont c)) ∧ w = w' := by
  cases hs : isStart c
  · have HC : Hid (isCont c = decide ((48 ≤ c ∧ c ≤ 57) ∨ c = 45)) := Lib.hid (by unfold isCont; rw [hs]; rfl)
    have HS := Lib.hid hs
    clear hs
    go_enter Tryf.func18, Tryf.ntmps18
    go_wp2_with (go_at_call 22; (with_reducible refine (start_any c _).mono ?_); rw [HS.out]; rintro e w' ⟨rfl, rfl⟩)
    all_goals
      go_ret
      refine ⟨ret_bool ?_, rfl⟩
      rw [HC.out]
      go_light
      symm
      rw [Bool.eq_iff_iff]
      simp
      try omega
  · have HC : Hid (isCont c = true) := Lib.hid (by unfold isCont; rw [hs]; rfl)
    have HS := Lib.hid hs
    clear hs
    go_enter Tryf.func18, Tryf.ntmps18
    go_wp2_with (go_at_call 22; (with_reducible refine (start_any c _).mono ?_); rw [HS.out]; rintro e w' ⟨rfl, rfl⟩)
    all_goals
      go_ret
      refine ⟨ret_bool ?_, rfl⟩
      rw [HC.out]
end Go.Proofs.YtppcjkajjahclaaFmt
