/-
  PROVED: FnReportExplicitPhaseImportExternalNeverAddsErrors: marking the import external never adds an error, and outside ESM it makes no difference.
-/
import Derived.Test.YtoailijfbbdapaaFmtRows
import Derived.Test.YtoailijfbbdapaaFmtCards
import Derived.Test.YtoailijfbbdapaaFmtTie
import Derived.WalkKit
import Derived.ProofKit
import Derived.Outline
import Derived.WalkSpells
import Derived.Test.YtoailijfbbdapaaFmtRpc
import Derived.OpenShut
import Derived.ShutString
import Derived.ChangeOld
import Derived.Below
import Derived.Carry
import Derived.Stop.JoinedAt
import Derived.Stop.Texts
import Derived.Stop.JoinedTold
import Derived.SevenToldRow
import Derived.Handy
import Derived.Lay
import Derived.SevenTiedAt
namespace Go.Proofs.YtoailijfbbdapaaFmt.fnReportExplicitPhaseImportExternalNeverAddsErrors
open Go.ChangeShapes Go.WideShapes Go.ChangeAt Go.RowKit
open Go.ChangeMaps (open_string shut_string)
open Go.Extern.Stop Go.Stop Go.Extern
set_option linter.unusedVariables false
set_option linter.unusedSimpArgs false

theorem own : ownKnob Tryf.prog.godebug = none := by kernel_rfl
theorem laidOut : laidOutB Tryf.pinned.checked.prog = true := by kernel_rfl



theorem cnt_le (ph fm : Int) : cntR ph true fm ≤ cntR ph false fm := by
  unfold cntR
  split
  · split
    · simp
    · simp
  · simp
theorem cnt_eq (ph fm : Int) (h : fm ≠ 3) : cntR ph true fm = cntR ph false fm := by
  unfold cntR
  rw [if_neg h, if_neg h]
theorem cnt_one (ph : Int) (e : Bool) (fm : Int) : cntR ph e fm ≤ 1 := by unfold cntR; split; (split; (split <;> omega); omega); omega
/-! ### STEP 1: THE WALK -/
set_option maxHeartbeats 4000000 in
set_option maxRecDepth 100000 in
theorem walk (a0 : Int) (a1 : Int) (w : World) (w0 : (Lit.int .u8 a0).wf = true) (w1 : (Lit.int .u8 a1).wf = true) (F : Go.Stop.Interp) (hF : F.answers w.tape) :
    Calls Tryf.prog 3 #[.int .u8 a0, .int .u8 a1] w fun e w' => e = .returned (.bool true) ∧ Below w.heap.size w w' := by
  have h1 := cnt_le a0 a1
  have h2 := cnt_one a0 true a1
  have h3 := cnt_one a0 false a1
  have HE : Hid (a1 ≠ 3 → cntR a0 true a1 = cntR a0 false a1) := Lib.hid (cnt_eq a0 a1)
  have HA : Hid (∀ W : World, W.tape = w.tape → Calls Tryf.prog 4 #[.int .u8 a0, .bool true, .int .u8 a1] W (RcPost W (cntR a0 true a1))) := Lib.hid (fun W ht => rc_any F a0 true a1 W (by rw [ht]; exact hF) rfl)
  have HB : Hid (∀ W : World, W.tape = w.tape → Calls Tryf.prog 4 #[.int .u8 a0, .bool false, .int .u8 a1] W (RcPost W (cntR a0 false a1))) := Lib.hid (fun W ht => rc_any F a0 false a1 W (by rw [ht]; exact hF) rfl)
  generalize cntR a0 true a1 = n1 at *
  generalize cntR a0 false a1 = n2 at *
  clear hF w0 w1
  go_enter Tryf.func3, Tryf.ntmps3
  go_wp2_with (go_at_call 4; refine (HA.out w rfl).mono ?_)
  rintro e wa ⟨ba, rfl, hba⟩
  have HBA := Lib.hid hba
  clear hba HA
  go_wp2_with (go_at_call 4; refine (HB.out wa HBA.out.tape).mono ?_)
  rintro e wb ⟨bb, rfl, hbb⟩
  have HBB := Lib.hid (HBA.out.trans (hbb.mono HBA.out.size))
  clear hbb HB HBA
  have t1 : ¬ (n2 : Int) < (n1 : Int) := by omega
  by_cases h : a1 = 3
  · have t2 : (a1 != 3) = false := by rw [h]; rfl
    go_wp2_with fail
    go_ret
    exact ⟨rfl, HBB.out⟩
  · have t2 : (a1 != 3) = true := by rw [bne_iff_ne]; exact h
    obtain rfl : n1 = n2 := HE.out h
    have t3 : ((n1 : Int) != (n1 : Int)) = false := by simp
    go_wp2_with fail
    go_ret
    exact ⟨rfl, HBB.out⟩

/-! ### THE ROW's STEP -/
/-- An input that fits, at a world whose variables are laid (slices among them). -/
theorem witness_zip {H : Type} {enc : TypeId × Value → H} {C : Checked} {os : Os} {f : FuncId} {fn : Func} {s : OpenSpec} {conds : List PathCond} {apart : Bool} {laid : List (String × DataW Unit)} (modest : Bool) (w0 : World) (args : Array Value) (hos : w0.os = os)
    (hsh : (w0.forCall (fun _ _ => 0) ⟨#[], args, []⟩).Shaped C.prog)
    (hok : Input.okWideB C.prog (w0.forCall (fun _ _ => 0) ⟨#[], args, []⟩) f ⟨#[], args, []⟩ = true)
    (hrow : s.preRow enc C.prog fn conds apart laid (w0.forCall (fun _ _ => 0) ⟨#[], args, []⟩).memory args) (F : Stop.Interp) :
    ∃ (w : World) (tape : Tape) (i : Input), w.os = os ∧ (w.forCall tape i).Shaped C.prog ∧ i.vars = [] ∧ Input.okWide C.prog (w.forCall tape i) .any w.heap.size f i ∧
      s.preRow enc C.prog fn conds apart laid (w.forCall tape i).memory i.args ∧ ({ modest := modest } : Assume).holds C.prog (lone (Frame.enter C.prog f i.args .normal) [] (w.forCall tape i)) ∧ F.answers tape :=
  ⟨w0, F.over fun _ _ => 0, ⟨#[], args, []⟩, hos, hsh, (Input.okWide_of_okWideB (base := 0) hok).1, (Input.okWide_of_okWideB hok).2, hrow, by
    simp only [Assume.holds]
    exact ⟨by simp, by simp, fun _ => F.over_modest Modest.zero, by simp, by simp⟩, F.over_answers _⟩
set_option maxRecDepth 100000 in
theorem lifted (os : Os) (started : os.Started) (H : Type) (enc : TypeId × Value → H) :
    ReturnsInTold none {} Tryf.checked os 3 .any Input.okWide ((OpenSpec.ofChange Rows.fnReportExplicitPhaseImportExternalNeverAddsErrorsSpec).preRow enc Tryf.prog Tryf.f3 [] false Rows.fnReportExplicitPhaseImportExternalNeverAddsErrorsRow.laid) (fun F => ((OpenSpec.ofChange Rows.fnReportExplicitPhaseImportExternalNeverAddsErrorsSpec).at F).post enc Tryf.prog Tryf.f3 false true false false) (aloneAtReturn Tryf.prog) nothingAlways := by
  refine returnsInTold_of_row (C := Tryf.checked) (s := (OpenSpec.ofChange Rows.fnReportExplicitPhaseImportExternalNeverAddsErrorsSpec)) (by kernel_rfl) own started (by kernel_rfl) Tryf.func3
    (witness_zip (enc := enc) (C := Tryf.checked) false (World.laidAll Tryf.prog os Rows.fnReportExplicitPhaseImportExternalNeverAddsErrorsRow.laid) #[.int .u8 0, .int .u8 0] (World.laidAll_os _ _ _) (World.shaped_of_ZipB (by kernel_rfl) (by kernel_rfl)) (by kernel_rfl)
      (OpenSpec.preRow_of_B rfl 8 (by kernel_rfl) (by kernel_rfl) (by rw [MakeChecks.laidMetH_plain _ _ _ (by kernel_rfl)]; exact laidMet_laidAll _ (by kernel_rfl) (by kernel_rfl)))) ?_
  intro F W base args ds gs before _ hF hval0 hW _ _ hsz hL _
  have hval : ∀ (j : Nat) t v, Tryf.f3.params[j]? = some t → args[j]? = some v → Value.okWide Tryf.prog W .any base t v := hval0
  have hW' := hW
  obtain ⟨p, q, hA0, hV, rfl, hfz, hnd⟩ := hW
  have hA : DataW.TrodAll enc Tryf.prog W 0 (fun _ => true) true Tryf.f3.params.toList args.toList ds p := hA0
  rw [Tryf.params3] at hA hval
  obtain ⟨v0, vs0, d0, ds0, p0, q0, hargs, rfl, rfl, h0, r0⟩ := trodAll_cons hA
  obtain ⟨v1, vs1, d1, ds1, p1, q1, rfl, rfl, rfl, h1, r1⟩ := trodAll_cons r0
  obtain ⟨rfl, rfl, rfl⟩ := trodAll_nil r1
  obtain rfl : args = #[v0, v1] := by cases args; simp_all
  obtain ⟨rfl, rfl⟩ := trodVars_none hV
  have k0 := h0
  have lt0 : ∀ x ∈ p0, x.block < W.heap.size := by obtain ⟨m, hm⟩ := k0; exact DataW.trod_lt m _ _ _ hm
  have k1 := h1
  have lt1 : ∀ x ∈ p1, x.block < W.heap.size := by obtain ⟨m, hm⟩ := k1; exact DataW.trod_lt m _ _ _ hm
  obtain ⟨a0, rfl, rfl, rfl, w0⟩ := open_int Tryf.underlying5 (hval 0 5 v0 rfl rfl) h0
  obtain ⟨a1, rfl, rfl, rfl, w1⟩ := open_int Tryf.underlying5 (hval 1 5 v1 rfl rfl) h1
  clear hA0 hval0
  refine (walk a0 a1 W w0 w1 F.told hF).mono fun e W' ⟨he, bel⟩ => ?_
  subst he
  exact ⟨_, rfl, _, _, _, [], _, [], hW', trodAll_mk1 (shut_bool Tryf.underlying4 _), (trodAll_cons_mk (Below.trod laidOut (by kernel_rfl) (of_decide_eq_true (by kernel_rfl)) k0 bel lt0) (trodAll_cons_mk (Below.trod laidOut (by kernel_rfl) (of_decide_eq_true (by kernel_rfl)) k1 bel lt1) trodAll_mk0)), rfl, bel.frame _, fun h => by cases h⟩

theorem stopsAre : Tryf.pinned.checked.prog.stops = ["fmt.Sprintf"] := by kernel_rfl
theorem stopKnobs : Tryf.pinned.checked.prog.stopKnobs = [] := by kernel_rfl
theorem quiet (os : Os) : Stop.quiet Tryf.pinned.checked.prog os := by
  intro k hk
  rw [stopKnobs] at hk
  cases hk

theorem proved : Rows.FnReportExplicitPhaseImportExternalNeverAddsErrorsToldSaid :=
  Claim7.holds_of_told_tied_any_at .later 3 Tryf.f3 "fmt.Sprintf" [] [] _ _ _ [.data, .pinned] true (by kernel_rfl) rfl rfl rfl laidOut (by kernel_rfl) rfl ⟨rfl, rfl, rfl, rfl, rfl, rfl, rfl⟩ rfl rfl (by kernel_rfl) (by kernel_rfl) Tryf.func3 (by kernel_rfl)
    (of_decide_eq_true (by kernel_rfl)) (of_decide_eq_true (by kernel_rfl)) stopsAre.symm rfl stopKnobs.symm (by kernel_rfl)
    (by kernel_rfl) (by kernel_rfl) (by kernel_rfl) (by kernel_rfl) (by kernel_rfl) (by kernel_rfl) (by kernel_rfl) (by kernel_rfl) (by kernel_rfl) rfl (by kernel_rfl) rfl rfl
    rfl rfl
    rfl (by kernel_rfl) (by kernel_rfl) (by kernel_rfl) (by decide) (by kernel_rfl) fnReportExplicitPhaseImportExternalNeverAddsErrors_row_tie
    (OpenClaim.moreEntering_of (by kernel_rfl) (by kernel_rfl) (by kernel_rfl) (by kernel_rfl) (by kernel_rfl) (by kernel_rfl) (by kernel_rfl) (by kernel_rfl) (by kernel_rfl) (by kernel_rfl))
    ⟨_, WideRow.started_initial, quiet _⟩
    (fun os started _ H enc _ => lifted os started H enc)
#print axioms proved
end Go.Proofs.YtoailijfbbdapaaFmt.fnReportExplicitPhaseImportExternalNeverAddsErrors