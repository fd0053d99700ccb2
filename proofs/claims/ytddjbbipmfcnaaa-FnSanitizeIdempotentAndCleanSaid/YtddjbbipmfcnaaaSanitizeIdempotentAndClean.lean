/-
  PROVED: for every string path the law FnSanitizeIdempotentAndClean returns true and changes no argument. Conditions: none.
-/
import Derived.Test.YtddjbbipmfcnaaaRows
import Derived.WalkKit
import Derived.ProofKit
import Derived.LoopTactic
import Derived.Test.YtddjbbipmfcnaaaSanM
import Derived.Outline
import Derived.OpenShut
import Derived.ShutString
import Derived.Below
namespace Go.Proofs.Ytddjbbipmfcnaaa.fnSanitizeIdempotentAndClean
open Go.ChangeShapes Go.WideShapes Go.ChangeAt Go.RowKit
open Go.ChangeMaps (open_string shut_string)
set_option linter.unusedVariables false      -- a walk need not use every 'w<i>' (that an integer argument fits its kind)

theorem own : ownKnob Try.prog.godebug = none := by kernel_rfl

theorem named_len (l : List UInt8) (k : Nat) (h : l.length ≤ k) (hk : 1 ≤ k) : (named l).length ≤ k := by
  unfold named; split
  · simpa using hk
  · exact h
theorem sanTo_len (s : ByteArray) (f : Nat) : ∀ pos l g, (sanTo s f pos l g).1.length ≤ l.length + 5 * f := by
  induction f with
  | zero => intro pos l g; simp [sanTo]
  | succ f ih =>
    intro pos l g
    rw [sanTo]
    split
    · have h1 := ih (pos + (Utf8.decode s pos).2) (sanStep (Utf8.decode s pos).1 l g).1 (sanStep (Utf8.decode s pos).1 l g).2
      have h2 : (sanStep (Utf8.decode s pos).1 l g).1.length ≤ l.length + 5 := by
        have := enc_len (Utf8.decode s pos).1
        unfold sanStep
        split
        · simp
        · split <;> simp <;> omega
      omega
    · simp
theorem san_len (s : ByteArray) : (san s).length ≤ 5 * s.size + 1 := by
  unfold san
  have := sanTo_len s s.size 0 [] false
  exact named_len _ _ (by simp at this; omega) (by omega)
theorem cleanTo_end (s : ByteArray) (f pos : Nat) (h : ¬ pos < s.size) : cleanTo s f pos = true := by
  cases f with
  | zero => rfl
  | succ f => rw [cleanTo, if_neg h]

/-! ### STEP 1: THE WALK: the Go text returns true. 'Grown w w'': the world has at most new blocks (Derived/RowKit3.lean). Part the cases AHEAD of 'go_enter' where a test parts the walk; take each callee by a contract of your own. -/
theorem walk (a0 : ByteArray) (w0 : a0.size ≤ maxLen) (w : World) :
    Calls Try.prog 4 #[.string a0] w fun e w' => e = .returned (.bool true) ∧ Below w.heap.size w w' := by
  unfold maxLen at w0
  by_cases hsz : a0.size ≤ 1048576
  · have hag := san_again a0
    have hln := san_len a0
    obtain ⟨b, hb⟩ : ∃ b : ByteArray, b = ⟨(san a0).toArray⟩ := ⟨_, rfl⟩
    have hbs : b.size = (san a0).length := by rw [hb]; exact size_list _
    rw [← hb, ← hbs] at hag
    have hb8 : b.size ≤ 8388608 := by omega
    have h0 : ((b.size : Int) == 0) = false := by
      have : (san a0).length ≠ 0 := fun h => hag.2.1 (List.eq_nil_of_length_eq_zero h)
      exact beq_eq_false_iff_ne.2 (by omega)
    have HBB := Lib.hid hb
    have HAG := Lib.hid hag
    have HB2 := Lib.hid (show (⟨(san b).toArray⟩ : ByteArray) = b by rw [hag.1, ← hb])
    clear hb hbs hag hln
    go_enter Try.func4, Try.ntmps4
    go_wp2_with (first
      | (go_at_call 9; go_in)
      | (go_at_call 7; go_in)
      | (go_at_call 13; refine (san_any a0 _ (by omega)).mono ?_; rintro e w1 ⟨rfl, hb1⟩; rw [← HBB.out]))
    go_loopw [5] (fun _ w' => ∃ pos f : Nat, w' = w1.iter b pos ∧ b.size ≤ pos + f ∧ cleanTo b f pos = true) (fun _ w' => b.size - w'.iterPos w1.heap.size)
    case atStart => exact ⟨0, b.size, rfl, by omega, HAG.out.2.2⟩
    case round =>
      obtain ⟨pos, f, rfl, hf, hcl⟩ := hrel
      have HCL := Lib.hid hcl
      clear hcl
      by_cases hp : pos < b.size
      · obtain ⟨c, wd, hd⟩ : ∃ c wd, Utf8.decode b pos = (c, wd) := ⟨_, _, rfl⟩
        have hwd : 1 ≤ wd := by
          have h1 : 1 ≤ (Utf8.decode b pos).2 := by
            by_cases ha : (b[pos]'hp).toNat < 128
            · rw [decode_ascii b pos hp ha]; exact Nat.le_refl _
            · exact (decode_high b pos hp (by omega)).2
          rw [hd] at h1; exact h1
        have hnx : ∀ ty, (Instr.next (.pointer (some ⟨w1.heap.size, 0, none⟩)) true ty).run Try.prog (w1.iter b pos) = .ok (.tuple #[.bool true, .int .i64 pos, .int .i32 c]) (w1.iter b (pos + wd)) := fun ty => by
          rw [run_next_any w1 b pos ty hp, hd]
        obtain ⟨f', rfl⟩ : ∃ f', f = f' + 1 := ⟨f - 1, by omega⟩
        have hcl := HCL.out
        rw [cleanTo, if_pos hp, hd, Bool.and_eq_true, Bool.not_eq_true'] at hcl
        have HC2 := Lib.hid hcl
        clear hcl HCL hd
        go_wp2_with (go_at_call 10; refine (forb_any c _).mono ?_; rintro e w' ⟨rfl, rfl⟩; rw [HC2.out.1])
        go_roundw
        case rel => exact ⟨_, _, _, _, _, _, _, ⟨pos + wd, f', rfl, by omega, HC2.out.2⟩, rfl⟩
        case measure => simp; omega
      · have hnx : ∀ ty, (Instr.next (.pointer (some ⟨w1.heap.size, 0, none⟩)) true ty).run Try.prog (w1.iter b pos) = .ok (.tuple #[.bool false]) (w1.iter b pos) := fun ty => run_next_end w1 b pos ty hp
        go_wp2_with (first
          | (go_at_call 7; go_in)
          | (go_at_call 13; refine (san_any b _ hb8).mono ?_; rintro e w2 ⟨rfl, hb2⟩; rw [HB2.out]))
        go_ret
        have hz := hb1.size
        refine ⟨ret_bool (by simp), (hb1.alloc hz _).trans (hb2.mono (by simp [World.iter]; omega))⟩
  · go_enter Try.func4, Try.ntmps4
    go_wp2_with (go_at_call 9; go_in)
    go_ret
    exact ⟨rfl, Below.refl _ _⟩

/-! ### THE ROW's STEP: WRITTEN OUT: LEAVE IT -/
set_option maxRecDepth 100000 in
theorem lifted (os : Os) (started : os.Started) (H : Type) (enc : TypeId × Value → H) :
    ReturnsInHanded {} Try.checked os 4 .any (Rows.fnSanitizeIdempotentAndCleanSpec.pre6 enc Try.prog Try.f4 Rows.fnSanitizeIdempotentAndCleanRow.domain false) (Rows.fnSanitizeIdempotentAndCleanSpec.post enc Try.prog Try.f4 false true false false) := by
  refine returnsInHanded_of_change (C := Try.checked) own started (by kernel_rfl) Try.func4
    (ChangeSpec.witness6 (enc := enc) (C := Try.checked) false ⟨#[], #[.string ByteArray.empty], []⟩ 8 (by kernel_rfl) (by kernel_rfl) (by kernel_rfl) (by kernel_rfl)) ?_
  intro W base args ds gs before hval0 hW hcnd _
  have hval : ∀ (j : Nat) t v, Try.f4.params[j]? = some t → args[j]? = some v → Value.okWide Try.prog W .any base t v := hval0
  have hW' := hW
  obtain ⟨p, q, hA0, hV, rfl, hfz, hnd⟩ := hW
  have hA : DataW.TrodAll enc Try.prog W 0 (fun _ => true) true Try.f4.params.toList args.toList ds p := hA0
  rw [Try.params4] at hA hval
  obtain ⟨v0, vs0, d0, ds0, p0, q0, hargs, rfl, rfl, h0, r0⟩ := trodAll_cons hA
  obtain ⟨rfl, rfl, rfl⟩ := trodAll_nil r0
  obtain rfl : args = #[v0] := by cases args; simp_all
  obtain ⟨rfl, rfl⟩ := trodVars_none hV
  obtain ⟨a0, rfl, rfl, rfl, w0⟩ := open_string Try.underlying9 (hval 0 9 v0 rfl rfl) h0
  clear hA0 hval0
  simp only [List.append_nil] at hW'
  refine (walk a0 w0 W).mono fun e W' ⟨he, hg⟩ => ?_
  subst he
  exact ⟨_, rfl, _, _, _, [], [], [], hW', (trodAll_cons_mk (shut_bool Try.underlying4 _) trodAll_mk0), (trodAll_cons_mk (shut_string Try.underlying9 w0) trodAll_mk0), rfl, hg.frame _, fun h => by cases h⟩

theorem over : Rows.fnSanitizeIdempotentAndCleanRow.holds Try.pinned (OpenSpec.ofChange Rows.fnSanitizeIdempotentAndCleanSpec) :=
  OpenClaim.holds_of_wide 4 Try.f4 rfl rfl rfl rfl rfl rfl rfl ⟨rfl, rfl, rfl, rfl, rfl⟩ rfl rfl rfl rfl rfl (by kernel_rfl) Try.func4 (by kernel_rfl)
    (of_decide_eq_true (by kernel_rfl)) (by unfold Func.isWrapper; first | (rw [if_pos (by decide +kernel)]; kernel_rfl) | (rw [if_neg (by decide +kernel)]; exact ⟨rfl, rfl⟩))
    (fun os started H enc _ => lifted os started H enc)

/-- ████ THE STATEMENT ████ -/
theorem proved : Rows.FnSanitizeIdempotentAndCleanSaid :=
  over
#print axioms proved
end Go.Proofs.Ytddjbbipmfcnaaa.fnSanitizeIdempotentAndClean
