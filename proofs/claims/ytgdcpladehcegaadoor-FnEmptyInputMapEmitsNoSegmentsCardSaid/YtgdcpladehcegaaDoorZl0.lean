/- zzCont, zzUnits, zzIsTerm, and zzDecodeRune, which is Utf8.decode. -/
import Derived.Test.YtgdcpladehcegaaDoorRows
import Derived.Test.YtgdcpladehcegaaDoorWords
import Derived.Test.YtgdcpladehcegaaDoorDec
import Derived.Test.YtgdcpladehcegaaDoorLcm
import Derived.Test.YtgdcpladehcegaaDoorBit
import Derived.WalkKit
import Derived.WalkSpells
import Derived.LoopTactic
import Derived.WalkMore
import Derived.Deep.QuietTactic
import Derived.Deep.Light
import Derived.Outline
import Derived.IntWalk
namespace Go.Proofs.YtgdcpladehcegaaDoor
open Go.RowKit
set_option linter.unusedVariables false
set_option linter.unusedSimpArgs false
def inR (c lo hi : Int) : Bool := decide (lo ≤ c ∧ c ≤ hi)
set_option maxRecDepth 100000 in
theorem zcont_any (c lo hi : Int) (w : World) : Calls Tryd.prog 23 #[.int .u8 c, .int .u8 lo, .int .u8 hi] w fun e w' => e = .returned (.bool (inR c lo hi)) ∧ w = w' := by
  go_enter Tryd.func23, Tryd.ntmps23
  go_wp2
  all_goals
    go_ret
    refine ⟨ret_bool ?_, rfl⟩
    go_light
    symm
    unfold inR
    rw [Bool.eq_iff_iff]
    simp
    try omega
set_option maxRecDepth 100000 in
theorem zunits_any (c : Nat) (w : World) : Calls Tryd.prog 22 #[.int .i32 (c : Int)] w fun e w' => e = .returned (.int .i64 (units c : Nat)) ∧ w = w' := by
  go_enter Tryd.func22, Tryd.ntmps22
  go_wp2
  all_goals
    go_ret
    refine ⟨ret_int ?_, rfl⟩
    go_light
    unfold units
    split <;> omega
theorem get_nat (s : ByteArray) (i : Nat) (h : i < s.size) : (s[i].toNat : Int) = ((byteAt s i : Nat) : Int) := by rw [byteAt_eq s i h]
set_option maxRecDepth 100000 in
theorem zterm_any (s : ByteArray) (i c : Nat) (hs : s.size ≤ 1048576) (hi : i < s.size) (w : World) : Calls Tryd.prog 21 #[.string s, .int .i64 (i : Int), .int .i32 (c : Int)] w fun e w' => e = .returned (.bool (decide (isTerm s i c))) ∧ w = w' := by
  have hw1 : IntKind.i64.wrap ((i : Int) + 1) = ((i + 1 : Nat) : Int) := by rw [IntKind.wrap_i64]; omega
  by_cases h1 : i + 1 < s.size
  · obtain ⟨b1, hb1⟩ : ∃ b, b = byteAt s (i + 1) := ⟨_, rfl⟩
    have hg := get_nat s (i + 1) h1
    rw [← hb1] at hg
    have HB := Lib.hid hb1
    have H1 := Lib.hid h1
    have g1 : (((i + 1 : Nat) : Int) < (s.size : Int)) := by omega
    clear hb1
    go_enter Tryd.func21, Tryd.ntmps21
    go_wp2
    all_goals
      go_ret
      refine ⟨ret_bool ?_, rfl⟩
      go_light
      symm
      have := HB.out
      have := H1.out
      rw [Bool.eq_iff_iff, decide_eq_true_iff]
      unfold isTerm
      rw [← HB.out]
      simp
      try simp at *
      try omega
  · have H1 := Lib.hid h1
    have g1 : ¬ (((i + 1 : Nat) : Int) < (s.size : Int)) := by omega
    go_enter Tryd.func21, Tryd.ntmps21
    go_wp2
    all_goals
      go_ret
      refine ⟨ret_bool ?_, rfl⟩
      go_light
      symm
      have := H1.out
      rw [Bool.eq_iff_iff, decide_eq_true_iff]
      unfold isTerm
      simp
      try simp at *
      try omega
end Go.Proofs.YtgdcpladehcegaaDoor
