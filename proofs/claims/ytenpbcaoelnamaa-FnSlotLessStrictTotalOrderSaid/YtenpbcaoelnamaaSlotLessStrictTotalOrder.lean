/-
  PROVED: for all uint32 values (three pairs of slot and count) the law FnSlotLessStrictTotalOrder returns true and changes no argument. Conditions: none.
-/
import Derived.Test.YtenpbcaoelnamaaRows
import Derived.WalkKit
import Derived.ProofKit
import Derived.Lib.Hide
import Derived.BigRegion
import Derived.Outline
import Derived.OpenShut
import Derived.ShutString
namespace Go.Proofs.Ytenpbcaoelnamaa.fnSlotLessStrictTotalOrder
open Go.ChangeShapes Go.WideShapes Go.ChangeAt Go.RowKit
open Go.ChangeMaps (open_string shut_string)
set_option linter.unusedVariables false      -- a walk need not use every 'w<i>' (that an integer argument fits its kind)

theorem own : ownKnob Try.prog.godebug = none := by kernel_rfl

theorem grown_trans {a b c : World} (h : Grown a b) (k : Grown b c) : Grown a c :=
  ⟨World.keptBut_trans h.1 k.1, fun x => (k.2.1 x).trans (h.2.1 x), Nat.le_trans h.2.2 k.2.2⟩
theorem ret_bool {a b : Bool} (h : a = b) : Ending.returned (.bool a) = .returned (.bool b) := by rw [h]
def sl (s1 c1 s2 c2 : Int) : Bool := decide (c2 < c1 ∨ c1 = c2 ∧ s1 < s2)
set_option maxRecDepth 100000 in
theorem sl_less (s1 c1 s2 c2 : Int) (b : Nat) (w : World) (hb : b < w.heap.size) (h0 : w.cell? ⟨b, 0, none⟩ = some (.int .u32 s1)) (h1 : w.cell? ⟨b, 1, none⟩ = some (.int .u32 c1))
    (h2 : w.cell? ⟨b, 2, none⟩ = some (.int .u32 s2)) (h3 : w.cell? ⟨b, 3, none⟩ = some (.int .u32 c2)) :
    Calls Try.prog 9 #[.slice (some ⟨b, 0, none⟩) 2 2, .int .i64 0, .int .i64 1] w fun e w' => e = .returned (.bool (sl s1 c1 s2 c2)) ∧ Grown w w' := by
  rcases Int.lt_trichotomy c2 c1 with h | h | h
  · have HF := Lib.hid (show sl s1 c1 s2 c2 = true by unfold sl; simp; omega)
    have hd : decide (c2 < c1) = true := by simpa using h
    go_enter Try.func9, Try.ntmps9
    go_wp2
    go_region
    all_goals (go_wp2; go_ret; exact ⟨ret_bool HF.out.symm, by repeat (first | exact Grown.refl _ | apply Grown.drew | apply Grown.alloc)⟩)
  · subst h
    have HF := Lib.hid (show sl s1 c2 s2 c2 = decide (s1 < s2) by unfold sl; simp)
    have hd : decide (c2 < c2) = false := by simp
    have he : (c2 == c2) = true := by simp
    go_enter Try.func9, Try.ntmps9
    go_wp2
    go_region
    all_goals (go_wp2; go_ret; exact ⟨ret_bool HF.out.symm, by repeat (first | exact Grown.refl _ | apply Grown.drew | apply Grown.alloc)⟩)
  · have HF := Lib.hid (show sl s1 c1 s2 c2 = false by unfold sl; simp; omega)
    have hd : decide (c2 < c1) = false := by simp; omega
    have he : (c1 == c2) = false := by simp; omega
    go_enter Try.func9, Try.ntmps9
    go_wp2
    go_region
    all_goals (go_wp2; go_ret; exact ⟨ret_bool HF.out.symm, by repeat (first | exact Grown.refl _ | apply Grown.drew | apply Grown.alloc)⟩)
set_option maxRecDepth 100000 in
theorem sl_any (s1 c1 s2 c2 : Int) (w : World) :
    Calls Try.prog 5 #[.int .u32 s1, .int .u32 c1, .int .u32 s2, .int .u32 c2] w fun e w' => e = .returned (.bool (sl s1 c1 s2 c2)) ∧ Grown w w' := by
  go_enter Try.func5, Try.ntmps5
  go_wp2_with (go_at_call 9; refine (sl_less s1 c1 s2 c2 _ _ ?_ ?_ ?_ ?_ ?_).mono ?_)
  any_goals (go_simp; done)
  rintro e w' ⟨rfl, hg⟩
  go_wp2
  go_ret
  exact ⟨rfl, grown_trans ((Grown.refl w).alloc _ _) hg⟩

/-! ### STEP 1: THE WALK: the Go text returns true. 'Grown w w'': the world has at most new blocks (Derived/RowKit3.lean). Part the cases AHEAD of 'go_enter' where a test parts the walk; take each callee by a contract of your own. -/
set_option maxHeartbeats 8000000 in
theorem walk (a0 : Int) (a1 : Int) (a2 : Int) (a3 : Int) (a4 : Int) (a5 : Int) (w0 : (Lit.int .u32 a0).wf = true) (w1 : (Lit.int .u32 a1).wf = true) (w2 : (Lit.int .u32 a2).wf = true) (w3 : (Lit.int .u32 a3).wf = true) (w4 : (Lit.int .u32 a4).wf = true) (w5 : (Lit.int .u32 a5).wf = true) (w : World) :
    Calls Try.prog 3 #[.int .u32 a0, .int .u32 a1, .int .u32 a2, .int .u32 a3, .int .u32 a4, .int .u32 a5] w fun e w' => e = .returned (.bool true) ∧ Grown w w' := by
  have f1 : sl a0 a1 a0 a1 = false := by unfold sl; simp
  have f2 : ¬ (sl a0 a1 a2 a3 = true ∧ sl a2 a3 a0 a1 = true) := by unfold sl; simp; omega
  have f3 : ¬ (a0 = a2 ∧ a1 = a3) → sl a0 a1 a2 a3 = true ∨ sl a2 a3 a0 a1 = true := by unfold sl; simp; omega
  have f4 : sl a0 a1 a2 a3 = true → sl a2 a3 a4 a5 = true → sl a0 a1 a4 a5 = true := by unfold sl; simp; omega
  have F2 := Lib.hid f2; have F3 := Lib.hid f3; have F4 := Lib.hid f4
  clear f2 f3 f4
  cases hab : sl a0 a1 a2 a3 <;> cases hba : sl a2 a3 a0 a1 <;> cases hbc : sl a2 a3 a4 a5 <;> cases hac : sl a0 a1 a4 a5 <;> by_cases e1 : a0 = a2 <;> by_cases e2 : a1 = a3
  all_goals first
    | (exfalso; exact F2.out ⟨hab, hba⟩)
    | (exfalso; have h9 := F4.out hab hbc; rw [hac] at h9; revert h9; decide)
    | (exfalso; have h9 := F3.out (fun hh => e1 hh.1); rw [hab, hba] at h9; revert h9; decide)
    | (exfalso; have h9 := F3.out (fun hh => e2 hh.2); rw [hab, hba] at h9; revert h9; decide)
    | skip
  all_goals
    first | (have g1 : (a0 == a2) = true := by simpa using e1) | (have g1 : (a0 == a2) = false := by simpa using e1)
    first | (have g2 : (a1 == a3) = true := by simpa using e2) | (have g2 : (a1 == a3) = false := by simpa using e2)
    clear e1 e2 F2 F3 F4
    go_enter Try.func3, Try.ntmps3
    go_wp2_with fail
    refine (sl_any _ _ _ _ _).mono ?_; rintro e w1 ⟨rfl, k1⟩
    go_wp2_with fail
    refine (sl_any _ _ _ _ _).mono ?_; rintro e w2 ⟨rfl, k2⟩
    go_wp2_with fail
    refine (sl_any _ _ _ _ _).mono ?_; rintro e w3 ⟨rfl, k3⟩
    go_wp2_with fail
    refine (sl_any _ _ _ _ _).mono ?_; rintro e w4 ⟨rfl, k4⟩
    go_wp2_with fail
    refine (sl_any _ _ _ _ _).mono ?_; rintro e w5 ⟨rfl, k5⟩
    go_wp2_with fail
    go_ret
    exact ⟨rfl, grown_trans (grown_trans (grown_trans (grown_trans k1 k2) k3) k4) k5⟩

/-! ### THE ROW's STEP: WRITTEN OUT: LEAVE IT -/
set_option maxRecDepth 100000 in
theorem lifted (os : Os) (started : os.Started) (H : Type) (enc : TypeId × Value → H) :
    ReturnsInHanded {} Try.checked os 3 .any (Rows.fnSlotLessStrictTotalOrderSpec.pre6 enc Try.prog Try.f3 Rows.fnSlotLessStrictTotalOrderRow.domain false) (Rows.fnSlotLessStrictTotalOrderSpec.post enc Try.prog Try.f3 false true false false) := by
  refine returnsInHanded_of_change (C := Try.checked) own started (by kernel_rfl) Try.func3
    (ChangeSpec.witness6 (enc := enc) (C := Try.checked) false ⟨#[], #[.int .u32 0, .int .u32 0, .int .u32 0, .int .u32 0, .int .u32 0, .int .u32 0], []⟩ 8 (by kernel_rfl) (by kernel_rfl) (by kernel_rfl) (by kernel_rfl)) ?_
  intro W base args ds gs before hval0 hW hcnd _
  have hval : ∀ (j : Nat) t v, Try.f3.params[j]? = some t → args[j]? = some v → Value.okWide Try.prog W .any base t v := hval0
  have hW' := hW
  obtain ⟨p, q, hA0, hV, rfl, hfz, hnd⟩ := hW
  have hA : DataW.TrodAll enc Try.prog W 0 (fun _ => true) true Try.f3.params.toList args.toList ds p := hA0
  rw [Try.params3] at hA hval
  obtain ⟨v0, vs0, d0, ds0, p0, q0, hargs, rfl, rfl, h0, r0⟩ := trodAll_cons hA
  obtain ⟨v1, vs1, d1, ds1, p1, q1, rfl, rfl, rfl, h1, r1⟩ := trodAll_cons r0
  obtain ⟨v2, vs2, d2, ds2, p2, q2, rfl, rfl, rfl, h2, r2⟩ := trodAll_cons r1
  obtain ⟨v3, vs3, d3, ds3, p3, q3, rfl, rfl, rfl, h3, r3⟩ := trodAll_cons r2
  obtain ⟨v4, vs4, d4, ds4, p4, q4, rfl, rfl, rfl, h4, r4⟩ := trodAll_cons r3
  obtain ⟨v5, vs5, d5, ds5, p5, q5, rfl, rfl, rfl, h5, r5⟩ := trodAll_cons r4
  obtain ⟨rfl, rfl, rfl⟩ := trodAll_nil r5
  obtain rfl : args = #[v0, v1, v2, v3, v4, v5] := by cases args; simp_all
  obtain ⟨rfl, rfl⟩ := trodVars_none hV
  obtain ⟨a0, rfl, rfl, rfl, w0⟩ := open_int Try.underlying22 (hval 0 22 v0 rfl rfl) h0
  obtain ⟨a1, rfl, rfl, rfl, w1⟩ := open_int Try.underlying22 (hval 1 22 v1 rfl rfl) h1
  obtain ⟨a2, rfl, rfl, rfl, w2⟩ := open_int Try.underlying22 (hval 2 22 v2 rfl rfl) h2
  obtain ⟨a3, rfl, rfl, rfl, w3⟩ := open_int Try.underlying22 (hval 3 22 v3 rfl rfl) h3
  obtain ⟨a4, rfl, rfl, rfl, w4⟩ := open_int Try.underlying22 (hval 4 22 v4 rfl rfl) h4
  obtain ⟨a5, rfl, rfl, rfl, w5⟩ := open_int Try.underlying22 (hval 5 22 v5 rfl rfl) h5
  clear hA0 hval0
  simp only [List.append_nil] at hW'
  refine (walk a0 a1 a2 a3 a4 a5 w0 w1 w2 w3 w4 w5 W).mono fun e W' ⟨he, hg⟩ => ?_
  subst he
  exact ⟨_, rfl, post_of_same (pa := []) (pv := []) hW' (fun _ _ _ => (trodAll_cons_mk (shut_bool Try.underlying4 _) trodAll_mk0)) (fun sp _ => (trodAll_cons_mk (shut_int Try.underlying22 w0) (trodAll_cons_mk (shut_int Try.underlying22 w1) (trodAll_cons_mk (shut_int Try.underlying22 w2) (trodAll_cons_mk (shut_int Try.underlying22 w3) (trodAll_cons_mk (shut_int Try.underlying22 w4) (trodAll_cons_mk (shut_int Try.underlying22 w5) trodAll_mk0))))))) (fun _ _ => rfl) rfl
    (hg.frame _) hg.2.1 (ok_one (by kernel_rfl) rfl (okWide_bool_mk Try.underlying4 _))⟩

theorem over : Rows.fnSlotLessStrictTotalOrderRow.holds Try.pinned (OpenSpec.ofChange Rows.fnSlotLessStrictTotalOrderSpec) :=
  OpenClaim.holds_of_wide 3 Try.f3 rfl rfl rfl rfl rfl rfl rfl ⟨rfl, rfl, rfl, rfl, rfl⟩ rfl rfl rfl rfl rfl (by kernel_rfl) Try.func3 (by kernel_rfl)
    (of_decide_eq_true (by kernel_rfl)) (by unfold Func.isWrapper; first | (rw [if_pos (by decide +kernel)]; kernel_rfl) | (rw [if_neg (by decide +kernel)]; exact ⟨rfl, rfl⟩))
    (fun os started H enc _ => lifted os started H enc)

/-- ████ THE STATEMENT ████ -/
theorem proved : Rows.FnSlotLessStrictTotalOrderSaid :=
  over
#print axioms proved
end Go.Proofs.Ytenpbcaoelnamaa.fnSlotLessStrictTotalOrder
