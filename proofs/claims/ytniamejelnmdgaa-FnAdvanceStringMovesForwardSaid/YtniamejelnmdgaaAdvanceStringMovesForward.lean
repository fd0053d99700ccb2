/-
  PROVED: for all int values lines and cols and every string s the law FnAdvanceStringMovesForward returns true and changes no argument. Conditions: none.
-/
import Derived.Test.YtniamejelnmdgaaRows
import Derived.WalkKit
import Derived.ProofKit
import Derived.Test.YtniamejelnmdgaaAdd
import Derived.Outline
import Derived.OpenShut
import Derived.ShutString
import Derived.Below
namespace Go.Proofs.Ytniamejelnmdgaa.fnAdvanceStringMovesForward
open Go.ChangeShapes Go.WideShapes Go.ChangeAt Go.RowKit
open Go.ChangeMaps (open_string shut_string)
set_option linter.unusedVariables false      -- a walk need not use every 'w<i>' (that an integer argument fits its kind)

theorem own : ownKnob Try.prog.godebug = none := by kernel_rfl

theorem before_new (L C : Int) (n u : Nat) (h1 : -1073741824 ≤ L) (h2 : L ≤ 1073741824) (h3 : -1073741824 ≤ C) (h4 : C ≤ 1073741824) (hn : n ≤ 1048576) (hu : u ≤ 2097152) (k : Nat) (hk : 0 < k ↔ 0 < n ∨ 0 < u) :
    before L C (wrap64 (L + n)) (wrap64 (advBase C n + u)) = decide (0 < (k : Int)) := by
  have e1 : wrap64 (L + n) = L + n := by unfold wrap64; omega
  have e2 : wrap64 (advBase C n + u) = advBase C n + u := by unfold advBase wrap64; split <;> omega
  rw [e1, e2]
  unfold before advBase
  rw [decide_eq_decide]
  split <;> omega
theorem before_old (L C : Int) (n u : Nat) (h1 : -1073741824 ≤ L) (h2 : L ≤ 1073741824) (h3 : -1073741824 ≤ C) (h4 : C ≤ 1073741824) (hn : n ≤ 1048576) (hu : u ≤ 2097152) :
    before (wrap64 (L + n)) (wrap64 (advBase C n + u)) L C = false := by
  have e1 : wrap64 (L + n) = L + n := by unfold wrap64; omega
  have e2 : wrap64 (advBase C n + u) = advBase C n + u := by unfold advBase wrap64; split <;> omega
  rw [e1, e2]
  unfold before advBase
  simp only [decide_eq_false_iff_not]
  split <;> omega

/-! ### STEP 1: THE WALK: the Go text returns true. 'Grown w w'': the world has at most new blocks (Derived/RowKit3.lean). Part the cases AHEAD of 'go_enter' where a test parts the walk; take each callee by a contract of your own. -/
theorem walk (a0 : Int) (a1 : Int) (a2 : ByteArray) (w0 : (Lit.int .i64 a0).wf = true) (w1 : (Lit.int .i64 a1).wf = true) (w2 : a2.size ≤ maxLen) (w : World) :
    Calls Try.prog 10 #[.int .i64 a0, .int .i64 a1, .string a2] w fun e w' => e = .returned (.bool true) ∧ Below w.heap.size w w' := by
  have hL : wrap64 a0 = a0 := by simp [Lit.wf, IntKind.min, IntKind.max, IntKind.signed, IntKind.bits] at w0; unfold wrap64; omega
  have hC : wrap64 a1 = a1 := by simp [Lit.wf, IntKind.min, IntKind.max, IntKind.signed, IntKind.bits] at w1; unfold wrap64; omega
  have HL := Lib.hid hL; have HC := Lib.hid hC; have HS := Lib.hid w2
  clear hL hC w0 w1 w2
  by_cases hsz : a2.size ≤ 1048576
  · by_cases hin : -1073741824 ≤ a0 ∧ a0 ≤ 1073741824 ∧ -1073741824 ≤ a1 ∧ a1 ≤ 1073741824
    · obtain ⟨i1, i2, i3, i4⟩ := hin
      have hle := advTo_le a2 a2.size 0 0 0
      have hmv := advTo_moves a2
      have hze : ¬ 0 < a2.size → advTo a2 a2.size 0 0 0 = (0, 0) := advTo_end a2 a2.size 0 0 0
      generalize hr : advTo a2 a2.size 0 0 0 = r at hle hmv hze
      obtain ⟨n, u⟩ := r
      have HR := Lib.hid hr
      simp only [Prod.mk.injEq] at hle hmv hze
      clear hr
      have q1 := before_new a0 a1 n u i1 i2 i3 i4 (by omega) (by omega) a2.size (by omega)
      have q2 := before_old a0 a1 n u i1 i2 i3 i4 (by omega) (by omega)
      obtain ⟨x, hx⟩ : ∃ x : Int, x = wrap64 (a0 + n) := ⟨_, rfl⟩
      obtain ⟨y, hy⟩ : ∃ y : Int, y = wrap64 (advBase a1 n + u) := ⟨_, rfl⟩
      rw [← hx, ← hy] at q1 q2
      have HX := Lib.hid hx; have HY := Lib.hid hy; have HQ1 := Lib.hid q1; have HQ2 := Lib.hid q2
      clear hx hy q1 q2 hmv hze hle
      have hbn : Blk ((w.alloc (.cells #[.int .i64 a0, .int .i64 a1] 50)).alloc (.cells #[.int .i64 a0, .int .i64 a1] 50)) (w.heap.size + 1) 50 #[.int .i64 a0, .int .i64 a1] := by
        simpa using Blk.new (w.alloc (.cells #[.int .i64 a0, .int .i64 a1] 50)) 50 #[.int .i64 a0, .int .i64 a1]
      have HBN := Lib.hid hbn
      clear hbn
      go_enter Try.func10, Try.ntmps10
      go_wp2_with (go_at_call 22; go_in)
      refine (adv_walk a2 _ a0 a1 _ HS.out HL.out HC.out HBN.out).mono ?_
      rintro e w1 ⟨rfl, hb1, hg1⟩
      rw [HR.out] at hb1
      simp only at hb1
      rw [← HX.out, ← HY.out] at hb1
      have HG1 := Lib.hid hg1
      have hz1 := hb1.lt
      have c0 : w1.cell? ⟨w.heap.size + 1, 0, none⟩ = some (.int .i64 x) := hb1.cell 0
      have c1 : w1.cell? ⟨w.heap.size + 1, 1, none⟩ = some (.int .i64 y) := hb1.cell 1
      have hb0 := (((Blk.new w 50 #[.int .i64 a0, .int .i64 a1]).alloc (.cells #[.int .i64 a0, .int .i64 a1] 50)).grown hg1 (by simp))
      have c2 : w1.cell? ⟨w.heap.size, 0, none⟩ = some (.int .i64 a0) := hb0.cell 0
      have c3 : w1.cell? ⟨w.heap.size, 1, none⟩ = some (.int .i64 a1) := hb0.cell 1
      have HB1 := Lib.hid hb1; have HB0 := Lib.hid hb0
      clear hb0 hb1 hg1
      go_wp2_with fail
      refine (comes _ _ _ _ _).mono ?_
      rintro e w2 ⟨rfl, hg2⟩
      rw [HQ1.out]
      have hb1 := HB1.out.grown hg2 (by simp); have hb0 := HB0.out.grown hg2 (by simp)
      have HG2 := Lib.hid hg2
      have hz2 := hb1.lt
      have hz3 := hg2.size
      have d0 : w2.cell? ⟨w.heap.size + 1, 0, none⟩ = some (.int .i64 x) := hb1.cell 0
      have d1 : w2.cell? ⟨w.heap.size + 1, 1, none⟩ = some (.int .i64 y) := hb1.cell 1
      have d2 : w2.cell? ⟨w.heap.size, 0, none⟩ = some (.int .i64 a0) := hb0.cell 0
      have d3 : w2.cell? ⟨w.heap.size, 1, none⟩ = some (.int .i64 a1) := hb0.cell 1
      clear hb0 hb1 hg2 c0 c1 c2 c3
      go_wp2_with fail
      refine (comes _ _ _ _ _).mono ?_
      rintro e w3 ⟨rfl, hg3⟩
      rw [HQ2.out]
      have HG3 := Lib.hid hg3
      clear hg3
      go_wp2_with fail
      go_ret
      refine ⟨rfl, ?_⟩
      have z1 := HG1.out.size
      exact ((((((Below.refl _ w).alloc (Nat.le_refl _) _).alloc (by simp) _).grown HG1.out (by simp; omega) (by simp)).grown HG2.out (by omega) (by simp)).grown HG3.out (by omega) (by simp))
    · go_enter Try.func10, Try.ntmps10
      go_wp2_with (go_at_call 22; go_in)
      all_goals (go_ret; exact ⟨rfl, Below.refl _ _⟩)
  · go_enter Try.func10, Try.ntmps10
    go_wp2_with (go_at_call 22; go_in)
    go_ret
    exact ⟨rfl, Below.refl _ _⟩

/-! ### THE ROW's STEP: WRITTEN OUT: LEAVE IT -/
set_option maxRecDepth 100000 in
theorem lifted (os : Os) (started : os.Started) (H : Type) (enc : TypeId × Value → H) :
    ReturnsInHanded {} Try.checked os 10 .any (Rows.fnAdvanceStringMovesForwardSpec.pre6 enc Try.prog Try.f10 Rows.fnAdvanceStringMovesForwardRow.domain false) (Rows.fnAdvanceStringMovesForwardSpec.post enc Try.prog Try.f10 false true false false) := by
  refine returnsInHanded_of_change (C := Try.checked) own started (by kernel_rfl) Try.func10
    (ChangeSpec.witness6 (enc := enc) (C := Try.checked) false ⟨#[], #[.int .i64 0, .int .i64 0, .string ByteArray.empty], []⟩ 8 (by kernel_rfl) (by kernel_rfl) (by kernel_rfl) (by kernel_rfl)) ?_
  intro W base args ds gs before hval0 hW hcnd _
  have hval : ∀ (j : Nat) t v, Try.f10.params[j]? = some t → args[j]? = some v → Value.okWide Try.prog W .any base t v := hval0
  have hW' := hW
  obtain ⟨p, q, hA0, hV, rfl, hfz, hnd⟩ := hW
  have hA : DataW.TrodAll enc Try.prog W 0 (fun _ => true) true Try.f10.params.toList args.toList ds p := hA0
  rw [Try.params10] at hA hval
  obtain ⟨v0, vs0, d0, ds0, p0, q0, hargs, rfl, rfl, h0, r0⟩ := trodAll_cons hA
  obtain ⟨v1, vs1, d1, ds1, p1, q1, rfl, rfl, rfl, h1, r1⟩ := trodAll_cons r0
  obtain ⟨v2, vs2, d2, ds2, p2, q2, rfl, rfl, rfl, h2, r2⟩ := trodAll_cons r1
  obtain ⟨rfl, rfl, rfl⟩ := trodAll_nil r2
  obtain rfl : args = #[v0, v1, v2] := by cases args; simp_all
  obtain ⟨rfl, rfl⟩ := trodVars_none hV
  obtain ⟨a0, rfl, rfl, rfl, w0⟩ := open_int Try.underlying3 (hval 0 3 v0 rfl rfl) h0
  obtain ⟨a1, rfl, rfl, rfl, w1⟩ := open_int Try.underlying3 (hval 1 3 v1 rfl rfl) h1
  obtain ⟨a2, rfl, rfl, rfl, w2⟩ := open_string Try.underlying9 (hval 2 9 v2 rfl rfl) h2
  clear hA0 hval0
  simp only [List.append_nil] at hW'
  refine (walk a0 a1 a2 w0 w1 w2 W).mono fun e W' ⟨he, hg⟩ => ?_
  subst he
  exact ⟨_, rfl, _, _, _, [], [], [], hW', (trodAll_cons_mk (shut_bool Try.underlying4 _) trodAll_mk0), (trodAll_cons_mk (shut_int Try.underlying3 w0) (trodAll_cons_mk (shut_int Try.underlying3 w1) (trodAll_cons_mk (shut_string Try.underlying9 w2) trodAll_mk0))), rfl, hg.frame _, fun h => by cases h⟩

theorem over : Rows.fnAdvanceStringMovesForwardRow.holds Try.pinned (OpenSpec.ofChange Rows.fnAdvanceStringMovesForwardSpec) :=
  OpenClaim.holds_of_wide 10 Try.f10 rfl rfl rfl rfl rfl rfl rfl ⟨rfl, rfl, rfl, rfl, rfl⟩ rfl rfl rfl rfl rfl (by kernel_rfl) Try.func10 (by kernel_rfl)
    (of_decide_eq_true (by kernel_rfl)) (by unfold Func.isWrapper; first | (rw [if_pos (by decide +kernel)]; kernel_rfl) | (rw [if_neg (by decide +kernel)]; exact ⟨rfl, rfl⟩))
    (fun os started H enc _ => lifted os started H enc)

/-- ████ THE STATEMENT ████ -/
theorem proved : Rows.FnAdvanceStringMovesForwardSaid :=
  over
#print axioms proved
end Go.Proofs.Ytniamejelnmdgaa.fnAdvanceStringMovesForward
