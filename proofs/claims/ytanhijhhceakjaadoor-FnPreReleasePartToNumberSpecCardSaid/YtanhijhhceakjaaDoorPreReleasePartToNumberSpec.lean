/-
  PROVED: A non-empty run of ASCII digits gives its value, or the greatest int and false if it does not fit; every other text gives 0 and false.
-/
import Derived.Test.YtanhijhhceakjaaDoorRows
import Derived.Test.YtanhijhhceakjaaDoorCards
import Derived.Test.YtanhijhhceakjaaDoorTie
import Derived.WalkKit
import Derived.ProofKit
import Derived.Outline
import Derived.LoopTactic
import Derived.WalkSpells
import Derived.Deep.Light
import Derived.Test.YtanhijhhceakjaaDoorErr
import Derived.OpenShut
import Derived.ShutString
import Derived.ChangeOld
import Derived.Below
import Derived.Carry
import Derived.Handy
import Derived.Lay
import Derived.SevenTiedAt
namespace Go.Proofs.YtanhijhhceakjaaDoor.fnPreReleasePartToNumberSpec
open Go.ChangeShapes Go.WideShapes Go.ChangeAt Go.RowKit
open Go.ChangeMaps (open_string shut_string)
set_option linter.unusedVariables false
set_option linter.unusedSimpArgs false

theorem own : ownKnob Tryd.prog.godebug = none := by kernel_rfl
theorem laidOut : laidOutB Tryd.pinned.checked.prog = true := by kernel_rfl



theorem zb (s : ByteArray) (w : World) (hs : s.size ≤ maxLen) : Calls Tryd.prog 16 #[.string s] w fun e w' => e = .returned (.bool (decide (s.size ≤ 1048576))) ∧ w = w' := by
  unfold maxLen at hs
  by_cases h : s.size ≤ 1048576
  · go_enter Tryd.func16, Tryd.ntmps16
    go_wp2
    go_ret
    exact ⟨ret_bool (by symm; simpa using h), rfl⟩
  · go_enter Tryd.func16, Tryd.ntmps16
    go_wp2
    go_ret
    exact ⟨ret_bool (by symm; simpa using h), rfl⟩
def DV (s : ByteArray) (k : Nat) : Nat := decL 0 (s.data.toList.take k)
theorem DV_succ (s : ByteArray) (k : Nat) (hk : k < s.size) : DV s (k + 1) = DV s k * 10 + (byteAt s k - 48) := by
  unfold DV
  have hl : k < s.data.toList.length := by simpa using hk
  rw [List.take_add_one, List.getElem?_eq_getElem hl, Option.toList_some, decL_snoc, byteAt_eq s k hk]
  rfl
theorem DV_all (s : ByteArray) : DV s s.size = decL 0 s.data.toList := by
  unfold DV; rw [List.take_of_length_le (by simp)]
/-- The second loop's state behind k digits. -/
def Rel2 (s : ByteArray) (v o i : Value) : Prop :=
  ∃ k : Nat, i = .int .i64 k ∧ k ≤ s.size ∧ ((o = .bool false ∧ v = .int .i64 (DV s k) ∧ DV s k < 9223372036854775808) ∨ (o = .bool true ∧ 9223372036854775808 ≤ DV s k ∧ ∃ x : Int, v = .int .i64 x))
/-! ### STEP 1: THE WALK -/
set_option maxHeartbeats 2000000 in
set_option maxRecDepth 100000 in
theorem walk (a0 : ByteArray) (w : World) (w0 : a0.size ≤ maxLen) (hE : Errs w) :
    Calls Tryd.prog 6 #[.string a0] w fun e w' => e = .returned (.bool true) ∧ Below w.heap.size w w' := by
  have HW0 := Lib.hid w0
  unfold maxLen at w0
  have HE := Lib.hid hE
  clear hE
  by_cases hbig : a0.size ≤ 1048576
  case neg =>
    have HB := Lib.hid (show decide (a0.size ≤ 1048576) = false by simpa using hbig)
    go_enter Tryd.func6, Tryd.ntmps6
    go_wp2_with (go_at_call 16; refine (zb a0 _ HW0.out).mono ?_; rw [HB.out]; rintro e wz ⟨rfl, rfl⟩)
    go_ret
    exact ⟨rfl, Below.refl _ _⟩
  have HB := Lib.hid (show decide (a0.size ≤ 1048576) = true by simpa using hbig)
  by_cases h0 : a0.size = 0
  · have HP : Hid (prN a0.data.toList = 0 ∧ prB a0.data.toList = false) := Lib.hid (by
      have hn : a0.data.toList = [] := List.eq_nil_of_length_eq_zero (by rw [size_list]; exact h0)
      unfold prN prB; rw [if_neg (by rw [hn]; simp)]; exact ⟨rfl, by simp [hn]⟩)
    have e0 : ((a0.size : Int) == 0) = true := by simpa using h0
    have hz : a0.size ≤ 0 := by omega
    clear h0
    go_enter Tryd.func6, Tryd.ntmps6
    go_wp2_with (first | (go_at_call 16; refine (zb a0 _ HW0.out).mono ?_; rw [HB.out]; rintro e wz ⟨rfl, rfl⟩) | (go_at_call 15; refine (zzpre_any a0 (by omega) _ HE.out).mono ?_; rintro e w1 ⟨rfl, hb1⟩; rw [HP.out.1, HP.out.2]))
    go_ret
    exact ⟨rfl, by assumption⟩
  have e0 : ((a0.size : Int) == 0) = false := by simpa using h0
  by_cases hd : ∀ j, j < a0.size → dgAt a0 j
  · have HDG := Lib.hid hd
    have hne : a0.data.toList ≠ [] := fun e => h0 (by rw [← size_list, e]; rfl)
    have HD := Lib.hid (dig_of a0 hd)
    clear hd
    obtain ⟨nn, bb, HP⟩ : ∃ nn bb, Hid (prN a0.data.toList = nn ∧ prB a0.data.toList = bb) := ⟨_, _, Lib.hid ⟨rfl, rfl⟩⟩
    have HFIN : Hid ((DV a0 a0.size < 9223372036854775808 → nn = DV a0 a0.size ∧ bb = true) ∧ (9223372036854775808 ≤ DV a0 a0.size → nn = 9223372036854775807 ∧ bb = false)) := Lib.hid (by
      rw [← HP.out.1, ← HP.out.2, DV_all]
      unfold prN prB
      constructor
      · intro h
        rw [if_pos ⟨HD.out, hne⟩, if_pos h]
        exact ⟨rfl, by simp [HD.out, h]; simpa using hne⟩
      · intro h
        rw [if_pos ⟨HD.out, hne⟩, if_neg (by omega)]
        exact ⟨rfl, by simp; intro _ _; omega⟩)
    clear h0 hne
    go_enter Tryd.func6, Tryd.ntmps6
    go_wp2_with (first | (go_at_call 16; refine (zb a0 _ HW0.out).mono ?_; rw [HB.out]; rintro e wz ⟨rfl, rfl⟩) | (go_at_call 15; refine (zzpre_any a0 (by omega) _ HE.out).mono ?_; rintro e w1 ⟨rfl, hb1⟩; rw [HP.out.1, HP.out.2]))
    have HB1 := Lib.hid hb1
    clear hb1
    go_loop [5] (fun i => ∃ k : Nat, i = .int .i64 k ∧ k ≤ a0.size) (fun i => a0.size - (intOf i).toNat)
    case atStart => exact ⟨0, rfl, by omega⟩
    case round =>
      obtain ⟨k, rfl, hk⟩ := hrel
      by_cases hlt : k < a0.size
      · have hq := byteAt_eq a0 k hlt
        have hdg := HDG.out k hlt
        unfold dgAt at hdg
        have h3 : decide (((a0[k]).toNat : Int) < 48) = false := by simp; omega
        have h4 : decide ((57 : Int) < ((a0[k]).toNat : Int)) = false := by simp; omega
        clear hq hdg
        go_wp2
        go_round
        case rel => exact ⟨k + 1, by go_num, by omega⟩
        case measure => simp [intOf]; omega
      · go_wp2
        go_loop [6, 7, 8] (fun v o i => Rel2 a0 v o i) (fun _ _ i => a0.size - (intOf i).toNat)
        case atStart => exact ⟨0, rfl, by omega, .inl ⟨rfl, rfl, by simp [DV, decL]⟩⟩
        case round =>
          obtain ⟨m, rfl, hm, hst⟩ := hrel
          by_cases hlt2 : m < a0.size
          · have hq := byteAt_eq a0 m hlt2
            have hdg := HDG.out m hlt2
            unfold dgAt at hdg
            have HS := Lib.hid (DV_succ a0 m hlt2)
            have hx1 : (48 : Int) ≤ ((a0[m]).toNat : Int) := by omega
            have hx2 : ((a0[m]).toNat : Int) ≤ 57 := by omega
            have HQ := Lib.hid hq
            clear hq hdg
            rcases hst with ⟨rfl, rfl, hv⟩ | ⟨rfl, hv, x, rfl⟩
            · by_cases hov : (9223372036854775807 - (((a0[m]).toNat : Int) - 48)) / 10 < (DV a0 m : Int)
              · have HOV := Lib.hid hov
                go_wp2
                go_round
                case rel => exact ⟨m + 1, by go_num, by omega, .inr ⟨rfl, by rw [HS.out, HQ.out]; have := HOV.out; omega, _, rfl⟩⟩
                case measure => simp [intOf]; omega
              · have HOV := Lib.hid hov
                go_wp2
                go_round
                case rel => exact ⟨m + 1, by go_num, by omega, .inl ⟨rfl, by rw [HS.out, HQ.out]; congr 1; omega, by rw [HS.out, HQ.out]; have := HOV.out; omega⟩⟩
                case measure => simp [intOf]; omega
            · go_wp2
              go_round
              case rel => exact ⟨m + 1, by go_num, by omega, .inr ⟨rfl, by rw [HS.out]; omega, _, rfl⟩⟩
              case measure => simp [intOf]; omega
          · obtain rfl : m = a0.size := by omega
            rcases hst with ⟨rfl, rfl, hv⟩ | ⟨rfl, hv, x, rfl⟩
            · obtain ⟨rfl, rfl⟩ := HFIN.out.1 hv
              go_wp2
              go_ret
              exact ⟨by simp, HB1.out⟩
            · obtain ⟨rfl, rfl⟩ := HFIN.out.2 hv
              go_wp2
              go_ret
              exact ⟨by simp, HB1.out⟩
  · have HND := Lib.hid hd
    have HP : Hid (prN a0.data.toList = 0 ∧ prB a0.data.toList = false) := Lib.hid (by
      have : ∃ j, j < a0.size ∧ ¬ dgAt a0 j := by
        by_cases h : ∃ j, j < a0.size ∧ ¬ dgAt a0 j
        · exact h
        · exact absurd (fun j hj => by by_cases q : dgAt a0 j; exact q; exact absurd ⟨j, hj, q⟩ h) hd
      obtain ⟨j, hj, hn⟩ := this
      exact pr_no (dig_not a0 j hj hn))
    clear hd h0
    go_enter Tryd.func6, Tryd.ntmps6
    go_wp2_with (first | (go_at_call 16; refine (zb a0 _ HW0.out).mono ?_; rw [HB.out]; rintro e wz ⟨rfl, rfl⟩) | (go_at_call 15; refine (zzpre_any a0 (by omega) _ HE.out).mono ?_; rintro e w1 ⟨rfl, hb1⟩; rw [HP.out.1, HP.out.2]))
    have HB1 := Lib.hid hb1
    clear hb1
    go_loop [5] (fun i => ∃ k : Nat, i = .int .i64 k ∧ k ≤ a0.size ∧ ∀ j, j < k → dgAt a0 j) (fun i => a0.size - (intOf i).toNat)
    case atStart => exact ⟨0, rfl, by omega, fun j hj => by omega⟩
    case round =>
      obtain ⟨k, rfl, hk, hall⟩ := hrel
      have HALL := Lib.hid hall
      clear hall
      by_cases hlt : k < a0.size
      · have hq := byteAt_eq a0 k hlt
        by_cases hc : dgAt a0 k
        · have HC := Lib.hid hc
          unfold dgAt at hc
          have h3 : decide (((a0[k]).toNat : Int) < 48) = false := by simp; omega
          have h4 : decide ((57 : Int) < ((a0[k]).toNat : Int)) = false := by simp; omega
          clear hq hc
          go_wp2
          go_round
          case rel =>
            refine ⟨k + 1, by go_num, by omega, fun j hj => ?_⟩
            by_cases e : j = k
            · subst e; exact HC.out
            · exact HALL.out j (by omega)
          case measure => simp [intOf]; omega
        · unfold dgAt at hc
          by_cases h5 : ((a0[k]).toNat : Int) < 48
          · have h3 : decide (((a0[k]).toNat : Int) < 48) = true := by simp; omega
            clear hq hc
            go_wp2
            go_ret
            exact ⟨rfl, HB1.out⟩
          · have h3 : decide (((a0[k]).toNat : Int) < 48) = false := by simp; omega
            have h4 : decide ((57 : Int) < ((a0[k]).toNat : Int)) = true := by simp; omega
            clear hq hc
            go_wp2
            go_ret
            exact ⟨rfl, HB1.out⟩
      · exact absurd (fun j hj => HALL.out j (by omega)) HND.out

/-! ### THE ROW's STEP -/
set_option maxRecDepth 100000 in
theorem lifted (os : Os) (started : os.Started) (H : Type) (enc : TypeId × Value → H) :
    ReturnsInHanded {} Tryd.checked os 6 .any (fun w args => (Rows.fnPreReleasePartToNumberSpecSpec.pre enc Tryd.prog Tryd.f6 [] false w args ∧ laidMetH Tryd.prog Rows.fnPreReleasePartToNumberSpecRow.laid w) ∧ sizedMet enc Tryd.prog Tryd.f6 (OpenSpec.ofChange Rows.fnPreReleasePartToNumberSpecSpec) false w args)
      (Rows.fnPreReleasePartToNumberSpecSpec.post enc Tryd.prog Tryd.f6 false true false false) := by
  refine returnsInHanded_of_change_and (C := Tryd.checked) (X := fun w _ => laidMetH Tryd.prog Rows.fnPreReleasePartToNumberSpecRow.laid w) (fun _ _ _ hh h => h.of_heap hh) own started (by kernel_rfl) Tryd.func6
    (ChangeSpec.witness_shaped (enc := enc) (C := Tryd.checked) (os := os) (X := fun w _ => laidMetH Tryd.prog Rows.fnPreReleasePartToNumberSpecRow.laid w) false (World.laidAll Tryd.prog os Rows.fnPreReleasePartToNumberSpecRow.laid) #[.string ByteArray.empty] 8 (World.laidAll_os _ _ _)
      (World.shaped_of_ZipB (by kernel_rfl) (by kernel_rfl)) (by kernel_rfl) (by kernel_rfl) (by kernel_rfl)
      (by rw [MakeChecks.laidMetH_plain _ _ _ (by kernel_rfl)]; exact laidMet_laidAll _ (by kernel_rfl) (by kernel_rfl))) ?_
  intro W base args ds gs before hval0 hW _ _ hL _
  have hval : ∀ (j : Nat) t v, Tryd.f6.params[j]? = some t → args[j]? = some v → Value.okWide Tryd.prog W .any base t v := hval0
  have hW' := hW
  obtain ⟨p, q, hA0, hV, rfl, hfz, hnd⟩ := hW
  have hA : DataW.TrodAll enc Tryd.prog W 0 (fun _ => true) true Tryd.f6.params.toList args.toList ds p := hA0
  rw [Tryd.params6] at hA hval
  obtain ⟨v0, vs0, d0, ds0, p0, q0, hargs, rfl, rfl, h0, r0⟩ := trodAll_cons hA
  obtain ⟨rfl, rfl, rfl⟩ := trodAll_nil r0
  obtain rfl : args = #[v0] := by cases args; simp_all
  obtain ⟨rfl, rfl⟩ := trodVars_none hV
  have k0 := h0
  have lt0 : ∀ x ∈ p0, x.block < W.heap.size := by obtain ⟨m, hm⟩ := k0; exact DataW.trod_lt m _ _ _ hm
  obtain ⟨a0, rfl, rfl, rfl, w0⟩ := open_string Tryd.underlying9 (hval 0 9 v0 rfl rfl) h0
  clear hA0 hval0
  refine (walk a0 W w0 (errs_of hL)).mono fun e W' ⟨he, bel⟩ => ?_
  subst he
  exact ⟨_, rfl, _, _, _, [], _, [], hW', trodAll_mk1 (shut_bool Tryd.underlying4 _), (trodAll_cons_mk (Below.trod laidOut (by kernel_rfl) (of_decide_eq_true (by kernel_rfl)) k0 bel lt0) trodAll_mk0), rfl, bel.frame _, fun h => by cases h⟩

theorem over : Rows.fnPreReleasePartToNumberSpecRow.holds Tryd.pinned (OpenSpec.ofChange Rows.fnPreReleasePartToNumberSpecSpec) :=
  OpenClaim.holds_of_wide 6 Tryd.f6 rfl rfl rfl rfl rfl rfl rfl ⟨rfl, rfl, rfl, rfl, rfl⟩ rfl rfl rfl rfl rfl (by kernel_rfl) Tryd.func6 (by kernel_rfl)
    (of_decide_eq_true (by kernel_rfl)) (by unfold Func.isWrapper; first | (rw [if_pos (by decide +kernel)]; kernel_rfl) | (rw [if_neg (by decide +kernel)]; exact ⟨rfl, rfl⟩))
    (fun os started H enc _ => lifted os started H enc)

theorem proved : Rows.FnPreReleasePartToNumberSpecCardSaid :=
  Claim7.holds_tied_plain_at .later [] [.data, .data, .data, .sentinel, .sentinel] true (true, "6abbca41a0b07024ba5ab02b48702f68f2ab04d9e0e57b66a6fc50731b6052ac") true over (fun _ h => by cases h) (by kernel_rfl) (fun _ h => by cases h) fnPreReleasePartToNumberSpec_row_tie rfl ⟨rfl, rfl⟩ (by kernel_rfl) rfl
    (fun f fn hf hfn => by
      obtain rfl : f = 6 := Option.some.inj ((show Tryd.prog.funcNamed "github.com/evanw/esbuild/n011_156.FnPreReleasePartToNumberSpec" = some 6 by kernel_rfl).symm.trans hf) |>.symm
      obtain rfl : fn = Tryd.f6 := (Option.some.inj (Tryd.func6.symm.trans hfn)).symm
      exact ⟨by kernel_rfl, fun j t ht => by
        rw [Tryd.params6] at ht
        have hm : t ∈ [9] := by simpa using Array.mem_of_getElem? ht
        have hall : ([9].all fun u => !Tryd.prog.wantsStandIn u) = true := by kernel_rfl
        exact (show Tryd.prog.wantsStandIn t = false by simpa using List.all_eq_true.1 hall t hm)⟩)
    (by kernel_rfl)
#print axioms proved
end Go.Proofs.YtanhijhhceakjaaDoor.fnPreReleasePartToNumberSpec