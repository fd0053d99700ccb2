/-
  PROVED: for all int values lines and cols and all strings s and t the law FnAdvanceStringSplits returns true and changes no argument. Conditions: none.
-/
import Derived.Test.YtniamejelnmdgaaRows
import Derived.WalkKit
import Derived.ProofKit
import Derived.Test.YtniamejelnmdgaaVal
import Derived.Test.YtniamejelnmdgaaAdd
import Derived.Outline
import Derived.OpenShut
import Derived.ShutString
import Derived.Below
namespace Go.Proofs.Ytniamejelnmdgaa.fnAdvanceStringSplits
open Go.ChangeShapes Go.WideShapes Go.ChangeAt Go.RowKit
open Go.ChangeMaps (open_string shut_string)
set_option linter.unusedVariables false      -- a walk need not use every 'w<i>' (that an integer argument fits its kind)

theorem own : ownKnob Try.prog.godebug = none := by kernel_rfl

theorem two_steps (L C : Int) (a b x y : Nat) (ha : a ≤ 4194304) (hb : b ≤ 4194304) (hx : x ≤ 4194304) (hy : y ≤ 4194304) :
    wrap64 (L + ((x + a : Nat) : Int)) = wrap64 (wrap64 (L + a) + x) ∧
    wrap64 (advBase C (x + a) + ((if x = 0 then b + y else y : Nat) : Int)) = wrap64 (advBase (wrap64 (advBase C a + b)) x + y) := by
  refine ⟨by unfold wrap64; omega, ?_⟩
  unfold advBase
  by_cases h1 : x = 0
  · subst h1
    by_cases h2 : a = 0
    · simp [h2]; unfold wrap64; omega
    · simp [h2]; unfold wrap64; omega
  · simp [h1]
theorem wrap_twice (x : Int) : wrap64 (wrap64 x) = wrap64 x := by unfold wrap64; omega

/-! ### STEP 1: THE WALK: the Go text returns true. 'Grown w w'': the world has at most new blocks (Derived/RowKit3.lean). Part the cases AHEAD of 'go_enter' where a test parts the walk; take each callee by a contract of your own. -/
set_option maxHeartbeats 1000000 in
theorem walk (a0 : Int) (a1 : Int) (a2 : ByteArray) (a3 : ByteArray) (w0 : (Lit.int .i64 a0).wf = true) (w1 : (Lit.int .i64 a1).wf = true) (w2 : a2.size ≤ maxLen) (w3 : a3.size ≤ maxLen) (w : World) :
    Calls Try.prog 11 #[.int .i64 a0, .int .i64 a1, .string a2, .string a3] w fun e w' => e = .returned (.bool true) ∧ Below w.heap.size w w' := by
  have hL : wrap64 a0 = a0 := by simp [Lit.wf, IntKind.min, IntKind.max, IntKind.signed, IntKind.bits] at w0; unfold wrap64; omega
  have hC : wrap64 a1 = a1 := by simp [Lit.wf, IntKind.min, IntKind.max, IntKind.signed, IntKind.bits] at w1; unfold wrap64; omega
  have HL := Lib.hid hL; have HC := Lib.hid hC; have HS := Lib.hid w2; have HT := Lib.hid w3
  clear hL hC w0 w1
  unfold maxLen at w2 w3
  by_cases hsz : a2.size + a3.size ≤ 1048576
  · cases hv : validTo a2 a2.size 0 with
    | false =>
      have HV := Lib.hid hv
      clear hv
      go_enter Try.func11, Try.ntmps11
      go_wp2_with (first | (go_at_call 24; go_in) | (go_at_call 25; refine (valid_any a2 (by omega) _).mono ?_; rintro e w' ⟨rfl, rfl⟩; rw [HV.out]))
      go_ret
      exact ⟨rfl, Below.refl _ _⟩
    | true =>
      have HV := Lib.hid hv
      clear hv
      go_enter Try.func11, Try.ntmps11
      go_wp2_with (first | (go_at_call 24; go_in) | (go_at_call 25; refine (valid_any a2 (by omega) _).mono ?_; rintro e w' ⟨rfl, rfl⟩; rw [HV.out]))
      · go_ret
        exact ⟨rfl, Below.refl _ _⟩
      all_goals
        have hcut : NoCut a2 a3 := by
          rintro ⟨q1, q2, q3, q4⟩
          rw [byteAt_eq a2 (a2.size - 1) (by omega)] at q2
          rw [byteAt_eq a3 0 q3] at q4
          first
            | omega
            | (have h10 : ((a3[0].toNat : Int) == 10) = false := by assumption
               simp only [beq_eq_false_iff_ne, ne_eq] at h10
               omega)
        have hle1 := advTo_le a2 a2.size 0 0 0
        have hle2 := advTo_le a3 a3.size 0 0 0
        obtain ⟨a, b, h1⟩ : ∃ a b, advTo a2 a2.size 0 0 0 = (a, b) := ⟨_, _, rfl⟩
        obtain ⟨x, y, h2⟩ : ∃ x y, advTo a3 a3.size 0 0 0 = (x, y) := ⟨_, _, rfl⟩
        have h3 := adv_app a2 a3 hcut HV.out a b x y h1 h2
        rw [h1] at hle1
        rw [h2] at hle2
        simp only at hle1 hle2
        obtain ⟨t1, t2⟩ := two_steps a0 a1 a b x y (by omega) (by omega) (by omega) (by omega)
        have HT1 := Lib.hid t1; have HT2 := Lib.hid t2; have H1 := Lib.hid h1; have H2 := Lib.hid h2; have H3 := Lib.hid h3
        clear t1 t2 h1 h2 h3 hle1 hle2 hcut
        refine (adv_walk (a2 ++ a3) _ a0 a1 _ (by rw [size_app]; unfold maxLen; omega) HL.out HC.out (Blk.new _ _ _)).mono ?_
        rintro e w1 ⟨rfl, hb1, hg1⟩
        rw [H3.out] at hb1
        simp only at hb1
        rw [HT1.out, HT2.out] at hb1
        have HB1 := Lib.hid hb1; have HG1 := Lib.hid hg1
        have hz1 := hb1.lt
        clear hb1 hg1
        go_wp2_with fail
        refine (adv_walk a2 _ a0 a1 _ HS.out HL.out HC.out (Blk.new _ _ _)).mono ?_
        rintro e w2 ⟨rfl, hb2, hg2⟩
        rw [H1.out] at hb2
        simp only at hb2
        have HB2 := Lib.hid hb2; have HG2 := Lib.hid hg2
        have hz2 := hb2.lt
        have HB12 := Lib.hid ((HB1.out.alloc (.cells #[.int .i64 a0, .int .i64 a1] 50)).grown hg2 (by simp; omega))
        clear hb2 hg2
        go_wp2_with fail
        refine (adv_walk a3 _ _ _ _ HT.out (wrap_twice _) (wrap_twice _) HB2.out).mono ?_
        rintro e w3 ⟨rfl, hb3, hg3⟩
        rw [H2.out] at hb3
        simp only at hb3
        have HB13 := Lib.hid (HB12.out.grown hg3 (by simp; omega))
        have HB3 := Lib.hid hb3; have HG3 := Lib.hid hg3
        clear hb3 hg3
        obtain ⟨X, hX⟩ : ∃ X : Int, X = wrap64 (wrap64 (a0 + a) + x) := ⟨_, rfl⟩
        obtain ⟨Y, hY⟩ : ∃ Y : Int, Y = wrap64 (advBase (wrap64 (advBase a1 a + b)) x + y) := ⟨_, rfl⟩
        have c30 : w3.cell? ⟨w.heap.size, 0, none⟩ = some (.int .i64 X) := by have := HB13.out.cell 0; rw [← hX] at this; exact this
        have c31 : w3.cell? ⟨w.heap.size, 1, none⟩ = some (.int .i64 Y) := by have := HB13.out.cell 1; rw [← hY] at this; exact this
        have c32 : w3.cell? ⟨w1.heap.size, 0, none⟩ = some (.int .i64 X) := by have := HB3.out.cell 0; rw [← hX] at this; exact this
        have c33 : w3.cell? ⟨w1.heap.size, 1, none⟩ = some (.int .i64 Y) := by have := HB3.out.cell 1; rw [← hY] at this; exact this
        clear hX hY
        go_wp2_with fail
        go_ret
        refine ⟨by simp, ?_⟩
        exact ((((((Below.refl _ w).alloc (Nat.le_refl _) _).grown HG1.out (by simp) (by simp)).alloc (by omega) _).grown HG2.out (by simp; omega) (by simp; omega)).grown HG3.out (by omega) (by simp; omega))
  · go_enter Try.func11, Try.ntmps11
    go_wp2_with (go_at_call 24; go_in)
    all_goals (go_ret; exact ⟨rfl, Below.refl _ _⟩)

/-! ### THE ROW's STEP: WRITTEN OUT: LEAVE IT -/
set_option maxRecDepth 100000 in
theorem lifted (os : Os) (started : os.Started) (H : Type) (enc : TypeId × Value → H) :
    ReturnsInHanded {} Try.checked os 11 .any (Rows.fnAdvanceStringSplitsSpec.pre6 enc Try.prog Try.f11 Rows.fnAdvanceStringSplitsRow.domain false) (Rows.fnAdvanceStringSplitsSpec.post enc Try.prog Try.f11 false true false false) := by
  refine returnsInHanded_of_change (C := Try.checked) own started (by kernel_rfl) Try.func11
    (ChangeSpec.witness6 (enc := enc) (C := Try.checked) false ⟨#[], #[.int .i64 0, .int .i64 0, .string ByteArray.empty, .string ByteArray.empty], []⟩ 8 (by kernel_rfl) (by kernel_rfl) (by kernel_rfl) (by kernel_rfl)) ?_
  intro W base args ds gs before hval0 hW hcnd _
  have hval : ∀ (j : Nat) t v, Try.f11.params[j]? = some t → args[j]? = some v → Value.okWide Try.prog W .any base t v := hval0
  have hW' := hW
  obtain ⟨p, q, hA0, hV, rfl, hfz, hnd⟩ := hW
  have hA : DataW.TrodAll enc Try.prog W 0 (fun _ => true) true Try.f11.params.toList args.toList ds p := hA0
  rw [Try.params11] at hA hval
  obtain ⟨v0, vs0, d0, ds0, p0, q0, hargs, rfl, rfl, h0, r0⟩ := trodAll_cons hA
  obtain ⟨v1, vs1, d1, ds1, p1, q1, rfl, rfl, rfl, h1, r1⟩ := trodAll_cons r0
  obtain ⟨v2, vs2, d2, ds2, p2, q2, rfl, rfl, rfl, h2, r2⟩ := trodAll_cons r1
  obtain ⟨v3, vs3, d3, ds3, p3, q3, rfl, rfl, rfl, h3, r3⟩ := trodAll_cons r2
  obtain ⟨rfl, rfl, rfl⟩ := trodAll_nil r3
  obtain rfl : args = #[v0, v1, v2, v3] := by cases args; simp_all
  obtain ⟨rfl, rfl⟩ := trodVars_none hV
  obtain ⟨a0, rfl, rfl, rfl, w0⟩ := open_int Try.underlying3 (hval 0 3 v0 rfl rfl) h0
  obtain ⟨a1, rfl, rfl, rfl, w1⟩ := open_int Try.underlying3 (hval 1 3 v1 rfl rfl) h1
  obtain ⟨a2, rfl, rfl, rfl, w2⟩ := open_string Try.underlying9 (hval 2 9 v2 rfl rfl) h2
  obtain ⟨a3, rfl, rfl, rfl, w3⟩ := open_string Try.underlying9 (hval 3 9 v3 rfl rfl) h3
  clear hA0 hval0
  simp only [List.append_nil] at hW'
  refine (walk a0 a1 a2 a3 w0 w1 w2 w3 W).mono fun e W' ⟨he, hg⟩ => ?_
  subst he
  exact ⟨_, rfl, _, _, _, [], [], [], hW', (trodAll_cons_mk (shut_bool Try.underlying4 _) trodAll_mk0), (trodAll_cons_mk (shut_int Try.underlying3 w0) (trodAll_cons_mk (shut_int Try.underlying3 w1) (trodAll_cons_mk (shut_string Try.underlying9 w2) (trodAll_cons_mk (shut_string Try.underlying9 w3) trodAll_mk0)))), rfl, hg.frame _, fun h => by cases h⟩

theorem over : Rows.fnAdvanceStringSplitsRow.holds Try.pinned (OpenSpec.ofChange Rows.fnAdvanceStringSplitsSpec) :=
  OpenClaim.holds_of_wide 11 Try.f11 rfl rfl rfl rfl rfl rfl rfl ⟨rfl, rfl, rfl, rfl, rfl⟩ rfl rfl rfl rfl rfl (by kernel_rfl) Try.func11 (by kernel_rfl)
    (of_decide_eq_true (by kernel_rfl)) (by unfold Func.isWrapper; first | (rw [if_pos (by decide +kernel)]; kernel_rfl) | (rw [if_neg (by decide +kernel)]; exact ⟨rfl, rfl⟩))
    (fun os started H enc _ => lifted os started H enc)

/-- ████ THE STATEMENT ████ -/
theorem proved : Rows.FnAdvanceStringSplitsSaid :=
  over
#print axioms proved
end Go.Proofs.Ytniamejelnmdgaa.fnAdvanceStringSplits
