/-
  PROVED: for all uint64 values a and b the law FnHasMatchesBitModel returns true and changes no argument. Conditions: none.
-/
import Derived.Test.YtniamejelnmdgaaRows
import Derived.WalkKit
import Derived.ProofKit
import Derived.Laws.BitsAllLaws
import Derived.LoopTactic
import Derived.Outline
import Derived.OpenShut
import Derived.ShutString
namespace Go.Proofs.Ytniamejelnmdgaa.fnHasMatchesBitModel
open Go.ChangeShapes Go.WideShapes Go.ChangeAt Go.RowKit
open Go.ChangeMaps (open_string shut_string)
set_option linter.unusedVariables false      -- a walk need not use every 'w<i>' (that an integer argument fits its kind)

theorem own : ownKnob Try.prog.godebug = none := by kernel_rfl

def bitI (a : Int) (k : Nat) : Bool := bits BinOp.and IntKind.u64 (a / 2 ^ k) 1 == 1
def hasTo (a b : Int) : Nat → Bool
  | 0 => false
  | k + 1 => if bitI a k = true ∧ bitI b k = true then true else hasTo a b k
theorem hasTo_yes (a b : Int) (k : Nat) (h1 : bits BinOp.and IntKind.u64 (a / 2 ^ k) 1 = 1) (h2 : (bits BinOp.and IntKind.u64 (b / 2 ^ k) 1 == 1) = true) : hasTo a b (k + 1) = true := by
  unfold hasTo; rw [if_pos ⟨by unfold bitI; simpa using h1, h2⟩]
theorem hasTo_no2 (a b : Int) (k : Nat) (h2 : (bits BinOp.and IntKind.u64 (b / 2 ^ k) 1 == 1) = false) : hasTo a b (k + 1) = hasTo a b k := by
  rw [hasTo, if_neg (by unfold bitI; simp [h2])]
theorem hasTo_no1 (a b : Int) (k : Nat) (h1 : ¬ bits BinOp.and IntKind.u64 (a / 2 ^ k) 1 = 1) : hasTo a b (k + 1) = hasTo a b k := by
  rw [hasTo, if_neg (by unfold bitI; simp [h1])]
theorem bitI_nat (A k : Nat) (h : A < 18446744073709551616) : bitI (A : Int) k = A.testBit k := by
  unfold bitI
  have h1 : A / 2 ^ k < 18446744073709551616 := Nat.lt_of_le_of_lt (Nat.div_le_self _ _) h
  have e : ((A : Int) / 2 ^ k) = ((A / 2 ^ k : Nat) : Int) := by simp
  rw [e, show (1 : Int) = ((1 : Nat) : Int) from rfl, u64_and_nat _ _ h1 (by omega), nat_mask1, Nat.testBit_eq_decide_div_mod_eq]
  by_cases c : A / 2 ^ k % 2 = 1
  · simp [c]
  · have : A / 2 ^ k % 2 = 0 := by omega
    simp [this]
theorem hasTo_nat (A B : Nat) (hA : A < 18446744073709551616) (hB : B < 18446744073709551616) (n : Nat) : hasTo A B n = true ↔ ∃ k, k < n ∧ (A &&& B).testBit k = true := by
  induction n with
  | zero => simp [hasTo]
  | succ n ih =>
    rw [hasTo, bitI_nat A n hA, bitI_nat B n hB]
    by_cases c : A.testBit n = true ∧ B.testBit n = true
    · rw [if_pos c]
      exact ⟨fun _ => ⟨n, by omega, by rw [Nat.testBit_and, c.1, c.2]; rfl⟩, fun _ => rfl⟩
    · rw [if_neg c, ih]
      constructor
      · rintro ⟨k, hk, h⟩; exact ⟨k, by omega, h⟩
      · rintro ⟨k, hk, h⟩
        by_cases e : k = n
        · subst e; rw [Nat.testBit_and] at h; exact absurd (by simpa using h) c
        · exact ⟨k, by omega, h⟩
theorem hasTo_all (a b : Int) (h1 : 0 ≤ a) (h2 : a ≤ 18446744073709551615) (h3 : 0 ≤ b) (h4 : b ≤ 18446744073709551615) : ((bits BinOp.and IntKind.u64 a b != 0) == hasTo a b 64) = true := by
  obtain ⟨A, rfl⟩ := Int.eq_ofNat_of_zero_le h1
  obtain ⟨B, rfl⟩ := Int.eq_ofNat_of_zero_le h3
  have hA : A < 18446744073709551616 := by omega
  have hB : B < 18446744073709551616 := by omega
  rw [u64_and_nat A B hA hB]
  rw [beq_iff_eq, Bool.eq_iff_iff, hasTo_nat A B hA hB]
  constructor
  · intro h
    have hne : A &&& B ≠ 0 := by
      intro e
      rw [e] at h
      exact absurd h (by decide)
    obtain ⟨k, hk⟩ := Nat.exists_testBit_of_ne_zero hne
    refine ⟨k, ?_, hk⟩
    rcases Nat.lt_or_ge k 64 with g | g
    · exact g
    · have hlt : A &&& B < 2 ^ 64 := Nat.and_lt_two_pow _ (by omega)
      have := Nat.testBit_lt_two_pow (Nat.lt_of_lt_of_le hlt (Nat.pow_le_pow_right (by decide) g))
      rw [this] at hk; cases hk
  · rintro ⟨k, _, hk⟩
    rw [bne_iff_ne]
    intro e
    have e' : A &&& B = 0 := by omega
    rw [e'] at hk; simp at hk

/-! ### STEP 1: THE WALK: the Go text returns true. 'Grown w w'': the world has at most new blocks (Derived/RowKit3.lean). Part the cases AHEAD of 'go_enter' where a test parts the walk; take each callee by a contract of your own. -/
theorem walk (a0 : Int) (a1 : Int) (w0 : (Lit.int .u64 a0).wf = true) (w1 : (Lit.int .u64 a1).wf = true) (w : World) :
    Calls Try.prog 4 #[.int .u64 a0, .int .u64 a1] w fun e w' => e = .returned (.bool true) ∧ Grown w w' := by
  simp [Lit.wf, IntKind.min, IntKind.max, IntKind.signed, IntKind.bits] at w0 w1
  obtain ⟨alo, ahi⟩ := w0
  obtain ⟨blo, bhi⟩ := w1
  have hfin := hasTo_all a0 a1 alo (by omega) blo (by omega)
  go_enter Try.func4, Try.ntmps4
  go_wp2
  go_loop [5, 6] (fun t i => ∃ k : Nat, k ≤ 64 ∧ i = .int .u64 k ∧ t = .bool (hasTo a0 a1 k)) (fun _ i => 64 - (intOf i).toNat)
  case atStart => exact ⟨0, Nat.zero_le _, rfl, rfl⟩
  case round =>
    obtain ⟨k, hk, rfl, rfl⟩ := hrel
    by_cases hlt : k < 64
    · go_wp2
      · go_round
        case rel => exact ⟨k + 1, by omega, by go_num, by rw [hasTo_yes a0 a1 k ‹_› ‹_›]⟩
        case measure => simp [intOf]; omega
      · go_round
        case rel => exact ⟨k + 1, by omega, by go_num, by rw [hasTo_no2 a0 a1 k ‹_›]⟩
        case measure => simp [intOf]; omega
      · go_round
        case rel => exact ⟨k + 1, by omega, by go_num, by rw [hasTo_no1 a0 a1 k ‹_›]⟩
        case measure => simp [intOf]; omega
    · obtain rfl : k = 64 := by omega
      go_wp2
      go_ret
      exact ⟨rfl, by repeat (first | exact Grown.refl _ | apply Grown.drew | apply Grown.alloc)⟩

/-! ### THE ROW's STEP: WRITTEN OUT: LEAVE IT -/
set_option maxRecDepth 100000 in
theorem lifted (os : Os) (started : os.Started) (H : Type) (enc : TypeId × Value → H) :
    ReturnsInHanded {} Try.checked os 4 .any (Rows.fnHasMatchesBitModelSpec.pre6 enc Try.prog Try.f4 Rows.fnHasMatchesBitModelRow.domain false) (Rows.fnHasMatchesBitModelSpec.post enc Try.prog Try.f4 false true false false) := by
  refine returnsInHanded_of_change (C := Try.checked) own started (by kernel_rfl) Try.func4
    (ChangeSpec.witness6 (enc := enc) (C := Try.checked) false ⟨#[], #[.int .u64 0, .int .u64 0], []⟩ 8 (by kernel_rfl) (by kernel_rfl) (by kernel_rfl) (by kernel_rfl)) ?_
  intro W base args ds gs before hval0 hW hcnd _
  have hval : ∀ (j : Nat) t v, Try.f4.params[j]? = some t → args[j]? = some v → Value.okWide Try.prog W .any base t v := hval0
  have hW' := hW
  obtain ⟨p, q, hA0, hV, rfl, hfz, hnd⟩ := hW
  have hA : DataW.TrodAll enc Try.prog W 0 (fun _ => true) true Try.f4.params.toList args.toList ds p := hA0
  rw [Try.params4] at hA hval
  obtain ⟨v0, vs0, d0, ds0, p0, q0, hargs, rfl, rfl, h0, r0⟩ := trodAll_cons hA
  obtain ⟨v1, vs1, d1, ds1, p1, q1, rfl, rfl, rfl, h1, r1⟩ := trodAll_cons r0
  obtain ⟨rfl, rfl, rfl⟩ := trodAll_nil r1
  obtain rfl : args = #[v0, v1] := by cases args; simp_all
  obtain ⟨rfl, rfl⟩ := trodVars_none hV
  obtain ⟨a0, rfl, rfl, rfl, w0⟩ := open_int Try.underlying27 (hval 0 27 v0 rfl rfl) h0
  obtain ⟨a1, rfl, rfl, rfl, w1⟩ := open_int Try.underlying27 (hval 1 27 v1 rfl rfl) h1
  clear hA0 hval0
  simp only [List.append_nil] at hW'
  refine (walk a0 a1 w0 w1 W).mono fun e W' ⟨he, hg⟩ => ?_
  subst he
  exact ⟨_, rfl, post_of_same (pa := []) (pv := []) hW' (fun _ _ _ => (trodAll_cons_mk (shut_bool Try.underlying4 _) trodAll_mk0)) (fun sp _ => (trodAll_cons_mk (shut_int Try.underlying27 w0) (trodAll_cons_mk (shut_int Try.underlying27 w1) trodAll_mk0))) (fun _ _ => rfl) rfl
    (hg.frame _) hg.2.1 (ok_one (by kernel_rfl) rfl (okWide_bool_mk Try.underlying4 _))⟩

theorem over : Rows.fnHasMatchesBitModelRow.holds Try.pinned (OpenSpec.ofChange Rows.fnHasMatchesBitModelSpec) :=
  OpenClaim.holds_of_wide 4 Try.f4 rfl rfl rfl rfl rfl rfl rfl ⟨rfl, rfl, rfl, rfl, rfl⟩ rfl rfl rfl rfl rfl (by kernel_rfl) Try.func4 (by kernel_rfl)
    (of_decide_eq_true (by kernel_rfl)) (by unfold Func.isWrapper; first | (rw [if_pos (by decide +kernel)]; kernel_rfl) | (rw [if_neg (by decide +kernel)]; exact ⟨rfl, rfl⟩))
    (fun os started H enc _ => lifted os started H enc)

/-- ████ THE STATEMENT ████ -/
theorem proved : Rows.FnHasMatchesBitModelSaid :=
  over
#print axioms proved
end Go.Proofs.Ytniamejelnmdgaa.fnHasMatchesBitModel
