/-
  PROVED: for all int values lines and cols and every string s the law FnAdvanceFromAnyStartIsAdd returns true and changes no argument. Conditions: none.
-/
import Derived.Test.YtniamejelnmdgaaRows
import Derived.WalkKit
import Derived.ProofKit
import Derived.Test.YtniamejelnmdgaaAdd
import Derived.OpenShut
import Derived.ShutString
import Derived.Below
namespace Go.Proofs.Ytniamejelnmdgaa.fnAdvanceFromAnyStartIsAdd
open Go.ChangeShapes Go.WideShapes Go.ChangeAt Go.RowKit
open Go.ChangeMaps (open_string shut_string)
set_option linter.unusedVariables false      -- a walk need not use every 'w<i>' (that an integer argument fits its kind)

theorem own : ownKnob Try.prog.godebug = none := by kernel_rfl

/-! ### STEP 1: THE WALK: the Go text returns true. 'Grown w w'': the world has at most new blocks (Derived/RowKit3.lean). Part the cases AHEAD of 'go_enter' where a test parts the walk; take each callee by a contract of your own. -/
theorem walk (a0 : Int) (a1 : Int) (a2 : ByteArray) (w0 : (Lit.int .i64 a0).wf = true) (w1 : (Lit.int .i64 a1).wf = true) (w2 : a2.size ≤ maxLen) (w : World) :
    Calls Try.prog 9 #[.int .i64 a0, .int .i64 a1, .string a2] w fun e w' => e = .returned (.bool true) ∧ Below w.heap.size w w' := by
  have hL : wrap64 a0 = a0 := by simp [Lit.wf, IntKind.min, IntKind.max, IntKind.signed, IntKind.bits] at w0; unfold wrap64; omega
  have hC : wrap64 a1 = a1 := by simp [Lit.wf, IntKind.min, IntKind.max, IntKind.signed, IntKind.bits] at w1; unfold wrap64; omega
  have HL := Lib.hid hL; have HC := Lib.hid hC; have HS := Lib.hid w2
  clear hL hC w0 w1 w2
  by_cases hsz : a2.size ≤ 1048576
  · have hle := advTo_le a2 a2.size 0 0 0
    generalize hr : advTo a2 a2.size 0 0 0 = r at hle
    obtain ⟨n, u⟩ := r
    have HR := Lib.hid hr
    simp only at hle
    clear hr
    go_enter Try.func9, Try.ntmps9
    go_wp2_with (go_at_call 19; go_in)
    refine (adv_walk a2 _ a0 a1 _ HS.out HL.out HC.out (Blk.new _ _ _)).mono ?_
    rintro e w1 ⟨rfl, hb1, hg1⟩
    rw [HR.out] at hb1
    have HB1 := Lib.hid hb1; have HG1 := Lib.hid hg1
    have hz1 := hb1.lt
    clear hb1 hg1
    go_wp2_with fail
    refine (adv_walk a2 _ 0 0 _ HS.out (by simp [wrap64]) (by simp [wrap64]) (Blk.new _ _ _)).mono ?_
    rintro e w2 ⟨rfl, hb2, hg2⟩
    rw [HR.out] at hb2
    have HB2 := Lib.hid hb2; have HG2 := Lib.hid hg2
    have hz2 := hb2.lt
    have HB12 := Lib.hid ((HB1.out.alloc (.cells #[.int .i64 0, .int .i64 0] 50)).grown hg2 (by simp; omega))
    clear hb2 hg2
    have el : wrap64 (0 + ((n : Nat) : Int)) = n := by unfold wrap64; omega
    have eu : wrap64 (advBase 0 n + ((u : Nat) : Int)) = u := by unfold advBase wrap64; split <;> omega
    have c20 : w2.cell? ⟨w1.heap.size, 0, none⟩ = some (.int .i64 n) := by have := HB2.out.cell 0; rw [el] at this; exact this
    have c21 : w2.cell? ⟨w1.heap.size, 1, none⟩ = some (.int .i64 u) := by have := HB2.out.cell 1; rw [eu] at this; exact this
    clear el eu
    go_wp2_with fail
    by_cases hn : n = 0
    · refine (add_zero _ a0 a1 _ _ _ (Blk.new _ _ _) (by simp [hn])).mono ?_
      rintro e w3 ⟨rfl, hb3, hg3⟩
      have HB13 := Lib.hid ((HB12.out.alloc (.cells #[.int .i64 a0, .int .i64 a1] 50)).grown hg3 (by have := HB12.out.lt; simp; omega))
      have HB3 := Lib.hid hb3; have HG3 := Lib.hid hg3
      have e0 : wrap64 (a0 + ((n : Nat) : Int)) = a0 := by rw [hn]; simpa using HL.out
      have e1 : advBase a1 n = a1 := by simp [advBase, hn]
      rw [e0, e1] at HB13
      clear hb3 hg3 hn e0 e1
      obtain ⟨z, hz⟩ : ∃ z : Int, z = wrap64 (a1 + u) := ⟨_, rfl⟩
      have c30 : w3.cell? ⟨w.heap.size, 0, none⟩ = some (.int .i64 a0) := by have := HB13.out.cell 0; exact this
      have c31 : w3.cell? ⟨w.heap.size, 1, none⟩ = some (.int .i64 z) := by have := HB13.out.cell 1; rw [← hz] at this; exact this
      have c32 : w3.cell? ⟨w2.heap.size, 0, none⟩ = some (.int .i64 a0) := by have := HB3.out.cell 0; exact this
      have c33 : w3.cell? ⟨w2.heap.size, 1, none⟩ = some (.int .i64 z) := by have := HB3.out.cell 1; rw [← hz] at this; exact this
      clear hz
      go_wp2_with fail
      go_ret
      refine ⟨by simp, ?_⟩
      exact ((((((Below.refl _ w).alloc (Nat.le_refl _) _).grown HG1.out (by simp) (by simp)).alloc (by omega) _).grown HG2.out (by simp; omega) (by simp; omega)).alloc (by omega) _).grown HG3.out (by simp; omega) (by simp; omega)
    · refine (add_more _ a0 a1 _ _ _ (Blk.new _ _ _) (by simp; omega)).mono ?_
      rintro e w3 ⟨rfl, hb3, hg3⟩
      have HB13 := Lib.hid ((HB12.out.alloc (.cells #[.int .i64 a0, .int .i64 a1] 50)).grown hg3 (by have := HB12.out.lt; simp; omega))
      have HB3 := Lib.hid hb3; have HG3 := Lib.hid hg3
      have e1 : wrap64 (advBase a1 n + u) = u := by simp only [advBase, hn]; unfold wrap64; simp; omega
      rw [e1] at HB13
      clear hb3 hg3 hn e1
      obtain ⟨z, hz⟩ : ∃ z : Int, z = wrap64 (a0 + n) := ⟨_, rfl⟩
      have c30 : w3.cell? ⟨w.heap.size, 0, none⟩ = some (.int .i64 z) := by have := HB13.out.cell 0; rw [← hz] at this; exact this
      have c31 : w3.cell? ⟨w.heap.size, 1, none⟩ = some (.int .i64 u) := by have := HB13.out.cell 1; exact this
      have c32 : w3.cell? ⟨w2.heap.size, 0, none⟩ = some (.int .i64 z) := by have := HB3.out.cell 0; rw [← hz] at this; exact this
      have c33 : w3.cell? ⟨w2.heap.size, 1, none⟩ = some (.int .i64 u) := by have := HB3.out.cell 1; exact this
      clear hz
      go_wp2_with fail
      go_ret
      refine ⟨by simp, ?_⟩
      exact ((((((Below.refl _ w).alloc (Nat.le_refl _) _).grown HG1.out (by simp) (by simp)).alloc (by omega) _).grown HG2.out (by simp; omega) (by simp; omega)).alloc (by omega) _).grown HG3.out (by simp; omega) (by simp; omega)
  · go_enter Try.func9, Try.ntmps9
    go_wp2_with (go_at_call 19; go_in)
    go_ret
    exact ⟨rfl, Below.refl _ _⟩

/-! ### THE ROW's STEP: WRITTEN OUT: LEAVE IT -/
set_option maxRecDepth 100000 in
theorem lifted (os : Os) (started : os.Started) (H : Type) (enc : TypeId × Value → H) :
    ReturnsInHanded {} Try.checked os 9 .any (Rows.fnAdvanceFromAnyStartIsAddSpec.pre6 enc Try.prog Try.f9 Rows.fnAdvanceFromAnyStartIsAddRow.domain false) (Rows.fnAdvanceFromAnyStartIsAddSpec.post enc Try.prog Try.f9 false true false false) := by
  refine returnsInHanded_of_change (C := Try.checked) own started (by kernel_rfl) Try.func9
    (ChangeSpec.witness6 (enc := enc) (C := Try.checked) false ⟨#[], #[.int .i64 0, .int .i64 0, .string ByteArray.empty], []⟩ 8 (by kernel_rfl) (by kernel_rfl) (by kernel_rfl) (by kernel_rfl)) ?_
  intro W base args ds gs before hval0 hW hcnd _
  have hval : ∀ (j : Nat) t v, Try.f9.params[j]? = some t → args[j]? = some v → Value.okWide Try.prog W .any base t v := hval0
  have hW' := hW
  obtain ⟨p, q, hA0, hV, rfl, hfz, hnd⟩ := hW
  have hA : DataW.TrodAll enc Try.prog W 0 (fun _ => true) true Try.f9.params.toList args.toList ds p := hA0
  rw [Try.params9] at hA hval
  obtain ⟨v0, vs0, d0, ds0, p0, q0, hargs, rfl, rfl, h0, r0⟩ := trodAll_cons hA
  obtain ⟨v1, vs1, d1, ds1, p1, q1, rfl, rfl, rfl, h1, r1⟩ := trodAll_cons r0
  obtain ⟨v2, vs2, d2, ds2, p2, q2, rfl, rfl, rfl, h2, r2⟩ := trodAll_cons r1
  obtain ⟨rfl, rfl, rfl⟩ := trodAll_nil r2
  obtain rfl : args = #[v0, v1, v2] := by cases args; simp_all
  obtain ⟨rfl, rfl⟩ := trodVars_none hV
  obtain ⟨a0, rfl, rfl, rfl, w0⟩ := open_int Try.underlying3 (hval 0 3 v0 rfl rfl) h0
  obtain ⟨a1, rfl, rfl, rfl, w1⟩ := open_int Try.underlying3 (hval 1 3 v1 rfl rfl) h1
  obtain ⟨a2, rfl, rfl, rfl, w2⟩ := open_string Try.underlying9 (hval 2 9 v2 rfl rfl) h2
  clear hA0 hval0
  simp only [List.append_nil] at hW'
  refine (walk a0 a1 a2 w0 w1 w2 W).mono fun e W' ⟨he, hg⟩ => ?_
  subst he
  exact ⟨_, rfl, _, _, _, [], [], [], hW', (trodAll_cons_mk (shut_bool Try.underlying4 _) trodAll_mk0), (trodAll_cons_mk (shut_int Try.underlying3 w0) (trodAll_cons_mk (shut_int Try.underlying3 w1) (trodAll_cons_mk (shut_string Try.underlying9 w2) trodAll_mk0))), rfl, hg.frame _, fun h => by cases h⟩

theorem over : Rows.fnAdvanceFromAnyStartIsAddRow.holds Try.pinned (OpenSpec.ofChange Rows.fnAdvanceFromAnyStartIsAddSpec) :=
  OpenClaim.holds_of_wide 9 Try.f9 rfl rfl rfl rfl rfl rfl rfl ⟨rfl, rfl, rfl, rfl, rfl⟩ rfl rfl rfl rfl rfl (by kernel_rfl) Try.func9 (by kernel_rfl)
    (of_decide_eq_true (by kernel_rfl)) (by unfold Func.isWrapper; first | (rw [if_pos (by decide +kernel)]; kernel_rfl) | (rw [if_neg (by decide +kernel)]; exact ⟨rfl, rfl⟩))
    (fun os started H enc _ => lifted os started H enc)

/-- ████ THE STATEMENT ████ -/
theorem proved : Rows.FnAdvanceFromAnyStartIsAddSaid :=
  over
#print axioms proved
end Go.Proofs.Ytniamejelnmdgaa.fnAdvanceFromAnyStartIsAdd
