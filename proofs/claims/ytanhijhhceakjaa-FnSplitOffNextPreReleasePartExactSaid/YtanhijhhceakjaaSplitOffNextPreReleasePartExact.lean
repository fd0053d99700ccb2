/-
  PROVED: for every string text the law FnSplitOffNextPreReleasePartExact returns true and changes no argument. Conditions: none.
-/
import Derived.Test.YtanhijhhceakjaaRows
import Derived.WalkKit
import Derived.ProofKit
import Derived.Lib.IndexLaws
import Derived.IntWalk
import Derived.BigQuiet
import Derived.Deep.QuietTactic
import Derived.LoopTactic
import Derived.Test.YtanhijhhceakjaaDec
import Derived.Test.YtanhijhhceakjaaWords
import Derived.Test.YtanhijhhceakjaaShelf
import Derived.Outline
import Derived.OpenShut
import Derived.ShutString
import Derived.Below
namespace Go.Proofs.Ytanhijhhceakjaa.fnSplitOffNextPreReleasePartExact
open Go.ChangeShapes Go.WideShapes Go.ChangeAt Go.RowKit
open Go.ChangeMaps (open_string shut_string)
set_option linter.unusedVariables false      -- a walk need not use every 'w<i>' (that an integer argument fits its kind)

theorem own : ownKnob Try.prog.godebug = none := by kernel_rfl

theorem ix_lt (s : ByteArray) (o : Nat) (h : Lib.indexByte s.data.toList 46 = o) : o < s.size ∧ byteAt s o = 46 ∧ ∀ k, k < o → byteAt s k ≠ 46 := by
  obtain ⟨h1, h2⟩ := Lib.indexByte_some h
  have hl : o < s.data.toList.length := (List.getElem?_eq_some_iff.1 h1).1
  have hs : s.data.toList.length = s.size := by rw [Array.length_toList]; rfl
  have at_ : ∀ k (hk : k < s.size), s.data.toList[k]? = some (s[k]'hk) := fun k hk => by
    rw [List.getElem?_eq_getElem (by omega)]; rfl
  refine ⟨by omega, ?_, fun k hk hb => ?_⟩
  · rw [byteAt_eq s o (by omega)]
    rw [at_ o (by omega)] at h1
    have := Option.some.inj h1
    rw [this]; rfl
  · apply h2 k hk
    rw [at_ k (by omega)]
    rw [byteAt_eq s k (by omega)] at hb
    exact congrArg some (UInt8.toNat_inj.1 (by rw [hb]; rfl))
theorem ix_none (s : ByteArray) (h : Lib.indexByte s.data.toList 46 = -1) : ∀ k, k < s.size → byteAt s k ≠ 46 := by
  intro k hk hb
  have hs : s.data.toList.length = s.size := by rw [Array.length_toList]; rfl
  apply Lib.indexByte_none h k
  rw [List.getElem?_eq_getElem (by omega)]
  rw [byteAt_eq s k hk] at hb
  exact congrArg some (UInt8.toNat_inj.1 (by show (s[k]'hk).toNat = _; rw [hb]; rfl))
set_option maxRecDepth 100000 in
theorem split_none (s : ByteArray) (w : World) (h : Lib.indexByte s.data.toList 46 = -1) :
    Calls Try.prog 23 #[.string s] w fun e w' => e = .returned (.tuple #[.string s, .string ⟨#[]⟩]) ∧ ∃ n, w' = w.drewN n := by
  have H := Lib.hid h
  clear h
  go_enter Try.func23, Try.ntmps23
  go_wp2_with (go_at_call 27; refine (Try.strings_IndexByte s 46 _).mono ?_; rintro e w' ⟨rfl, rfl⟩; rw [show ((46 : Int).toNat.toUInt8) = 46 from rfl, H.out])
  go_ret2
  exact ⟨rfl, 0, rfl⟩
set_option maxRecDepth 100000 in
theorem split_some (s : ByteArray) (o : Nat) (w : World) (hs : s.size ≤ 1048576) (h : Lib.indexByte s.data.toList 46 = o) (ho : o < s.size) :
    Calls Try.prog 23 #[.string s] w fun e w' => e = .returned (.tuple #[.string (s.extract 0 o), .string (s.extract (o + 1) s.size)]) ∧ ∃ n, w' = w.drewN n := by
  have H := Lib.hid h
  clear h
  have t1 : ((o : Int) != -1) = true := by rw [bne_iff_ne]; omega
  go_enter Try.func23, Try.ntmps23
  go_wp2_with (go_at_call 27; refine (Try.strings_IndexByte s 46 _).mono ?_; rintro e w' ⟨rfl, rfl⟩; rw [show ((46 : Int).toNat.toUInt8) = 46 from rfl, H.out])
  have e1 : IntKind.i64.wrap ((o : Int) + 1) = (o : Int) + 1 := IntWalk.i64_in _ (by omega)
  have e2 : 0 ≤ (o : Int) + 1 := by omega
  have e3 : ((o : Int) + 1).toNat = o + 1 := by omega
  go_quiet (fail)
  go_wp2
  go_ret2
  exact ⟨rfl, _, rfl⟩
/-! ### STEP 1: THE WALK: the Go text returns true. 'Grown w w'': the world has at most new blocks (Derived/RowKit3.lean). Part the cases AHEAD of 'go_enter' where a test parts the walk; take each callee by a contract of your own. -/
theorem walk (a0 : ByteArray) (w0 : a0.size ≤ maxLen) (w : World) :
    Calls Try.prog 3 #[.string a0] w fun e w' => e = .returned (.bool true) ∧ Below w.heap.size w w' := by
  unfold maxLen at w0
  by_cases hsz : a0.size ≤ 1048576
  · by_cases hix : Lib.indexByte a0.data.toList 46 = -1
    · have hno := ix_none a0 hix
      have HIX := Lib.hid hix; have HNO := Lib.hid hno
      clear hix hno
      go_enter Try.func3, Try.ntmps3
      go_wp2_with (first
        | (go_at_call 7; go_in)
        | (go_at_call 8; go_in)
        | (go_at_call 23; refine (split_none a0 _ HIX.out).mono ?_; rintro e w' ⟨rfl, n, rfl⟩))
      go_loop [5] (fun i => ∃ k : Nat, i = .int .i64 k ∧ k ≤ a0.size) (fun i => a0.size - (intOf i).toNat)
      case atStart => exact ⟨0, rfl, by omega⟩
      case round =>
        obtain ⟨k, rfl, hk⟩ := hrel
        by_cases hlt : k < a0.size
        · have hb := HNO.out k hlt
          rw [byteAt_eq a0 k hlt] at hb
          have t1 : (((a0[k]).toNat : Int) == 46) = false := by simp; omega
          clear hb
          go_wp2
          go_round
          case rel => exact ⟨k + 1, by go_num, by omega⟩
          case measure => simp [intOf]; omega
        · go_wp2
          go_ret
          exact ⟨rfl, below_drewN (Below.refl _ _) _⟩
    · have hge := Lib.indexByte_ge a0.data.toList 46
      obtain ⟨o, ho⟩ : ∃ o : Nat, Lib.indexByte a0.data.toList 46 = o := ⟨(Lib.indexByte a0.data.toList 46).toNat, by omega⟩
      obtain ⟨hlo, hdot, hno⟩ := ix_lt a0 o ho
      have HIX := Lib.hid ho; have HNO := Lib.hid hno
      obtain ⟨h, hh⟩ : ∃ h : ByteArray, h = a0.extract 0 o := ⟨_, rfl⟩
      obtain ⟨t, ht⟩ : ∃ t : ByteArray, t = a0.extract (o + 1) a0.size := ⟨_, rfl⟩
      have hsh : h.size = o := by rw [hh]; simp; omega
      have hst : t.size = a0.size - (o + 1) := by rw [ht]; simp
      have hat : ∀ k (hk : k < h.size), byteAt a0 k = (h[k]'hk).toNat := fun k hk => by
        rw [byteAt_eq a0 k (by omega)]
        subst hh
        simp [ByteArray.getElem_extract]
      have HH := Lib.hid hh; have HTT := Lib.hid ht; have HAT := Lib.hid hat; have HSH := Lib.hid hsh; have HST := Lib.hid hst
      rw [byteAt_eq a0 o hlo] at hdot
      have q1 : h.size < a0.size := by omega
      have d1 : (((a0[h.size]'q1).toNat : Int) == 46) = true := by
        have : (a0[h.size]'q1).toNat = 46 := by rw [← hdot]; congr 2
        simp; omega
      have q4 : t.size ≤ 1048576 := by omega
      have e1 : ((a0.extract 0 h.size).toList == h.toList) = true := by rw [hsh, ← hh]; simp
      have e2 : ((a0.extract (h.size + 1) a0.size).toList == t.toList) = true := by rw [hsh, ← ht]; simp
      have q2 : ((h.size : Int) == a0.size) = false := beq_eq_false_iff_ne.2 (by omega)
      have q3 : ((h.size : Int) + 1 + t.size != a0.size) = false := by rw [bne_eq_false_iff_eq]; omega
      clear hix hge ho hno hh ht hat hsh hst hdot
      go_enter Try.func3, Try.ntmps3
      go_wp2_with (first
        | (go_at_call 7; go_in)
        | (go_at_call 8; go_in)
        | (go_at_call 23; refine (split_some a0 o _ hsz HIX.out hlo).mono ?_; rintro e w' ⟨rfl, n, rfl⟩; rw [← HH.out, ← HTT.out]))
      go_loop [5] (fun i => ∃ k : Nat, i = .int .i64 k ∧ k ≤ h.size) (fun i => h.size - (intOf i).toNat)
      case atStart => exact ⟨0, rfl, by omega⟩
      case round =>
        obtain ⟨k, rfl, hk⟩ := hrel
        by_cases hlt : k < h.size
        · have hb := HNO.out k (by have := HSH.out; omega)
          rw [HAT.out k hlt] at hb
          have t1 : (((h[k]).toNat : Int) == 46) = false := by simp; omega
          clear hb
          go_wp2
          go_round
          case rel => exact ⟨k + 1, by go_num, by omega⟩
          case measure => simp [intOf]; omega
        · go_wp2
          go_ret
          exact ⟨rfl, below_drewN (Below.refl _ _) _⟩
  · go_enter Try.func3, Try.ntmps3
    go_wp2_with (go_at_call 7; go_in)
    go_ret
    exact ⟨rfl, Below.refl _ _⟩

/-! ### THE ROW's STEP: WRITTEN OUT: LEAVE IT -/
set_option maxRecDepth 100000 in
theorem lifted (os : Os) (started : os.Started) (H : Type) (enc : TypeId × Value → H) :
    ReturnsInHanded {} Try.checked os 3 .any (Rows.fnSplitOffNextPreReleasePartExactSpec.pre6 enc Try.prog Try.f3 Rows.fnSplitOffNextPreReleasePartExactRow.domain false) (Rows.fnSplitOffNextPreReleasePartExactSpec.post enc Try.prog Try.f3 false true false false) := by
  refine returnsInHanded_of_change (C := Try.checked) own started (by kernel_rfl) Try.func3
    (ChangeSpec.witness6 (enc := enc) (C := Try.checked) false ⟨#[], #[.string ByteArray.empty], []⟩ 8 (by kernel_rfl) (by kernel_rfl) (by kernel_rfl) (by kernel_rfl)) ?_
  intro W base args ds gs before hval0 hW hcnd _
  have hval : ∀ (j : Nat) t v, Try.f3.params[j]? = some t → args[j]? = some v → Value.okWide Try.prog W .any base t v := hval0
  have hW' := hW
  obtain ⟨p, q, hA0, hV, rfl, hfz, hnd⟩ := hW
  have hA : DataW.TrodAll enc Try.prog W 0 (fun _ => true) true Try.f3.params.toList args.toList ds p := hA0
  rw [Try.params3] at hA hval
  obtain ⟨v0, vs0, d0, ds0, p0, q0, hargs, rfl, rfl, h0, r0⟩ := trodAll_cons hA
  obtain ⟨rfl, rfl, rfl⟩ := trodAll_nil r0
  obtain rfl : args = #[v0] := by cases args; simp_all
  obtain ⟨rfl, rfl⟩ := trodVars_none hV
  obtain ⟨a0, rfl, rfl, rfl, w0⟩ := open_string Try.underlying9 (hval 0 9 v0 rfl rfl) h0
  clear hA0 hval0
  simp only [List.append_nil] at hW'
  refine (walk a0 w0 W).mono fun e W' ⟨he, hg⟩ => ?_
  subst he
  exact ⟨_, rfl, _, _, _, [], [], [], hW', (trodAll_cons_mk (shut_bool Try.underlying4 _) trodAll_mk0), (trodAll_cons_mk (shut_string Try.underlying9 w0) trodAll_mk0), rfl, hg.frame _, fun h => by cases h⟩

theorem over : Rows.fnSplitOffNextPreReleasePartExactRow.holds Try.pinned (OpenSpec.ofChange Rows.fnSplitOffNextPreReleasePartExactSpec) :=
  OpenClaim.holds_of_wide 3 Try.f3 rfl rfl rfl rfl rfl rfl rfl ⟨rfl, rfl, rfl, rfl, rfl⟩ rfl rfl rfl rfl rfl (by kernel_rfl) Try.func3 (by kernel_rfl)
    (of_decide_eq_true (by kernel_rfl)) (by unfold Func.isWrapper; first | (rw [if_pos (by decide +kernel)]; kernel_rfl) | (rw [if_neg (by decide +kernel)]; exact ⟨rfl, rfl⟩))
    (fun os started H enc _ => lifted os started H enc)

/-- ████ THE STATEMENT ████ -/
theorem proved : Rows.FnSplitOffNextPreReleasePartExactSaid :=
  over
#print axioms proved
end Go.Proofs.Ytanhijhhceakjaa.fnSplitOffNextPreReleasePartExact
