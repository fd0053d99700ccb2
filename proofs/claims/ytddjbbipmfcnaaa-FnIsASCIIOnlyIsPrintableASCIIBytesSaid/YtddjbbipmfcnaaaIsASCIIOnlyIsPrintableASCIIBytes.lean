/-
  PROVED: for every string s the law FnIsASCIIOnlyIsPrintableASCIIBytes returns true and changes no argument. Conditions: none.
-/
import Derived.Test.YtddjbbipmfcnaaaRows
import Derived.WalkKit
import Derived.ProofKit
import Derived.LoopTactic
import Derived.Test.YtddjbbipmfcnaaaDec
import Derived.Test.YtddjbbipmfcnaaaWords
import Derived.Outline
import Derived.OpenShut
import Derived.ShutString
import Derived.Below
namespace Go.Proofs.Ytddjbbipmfcnaaa.fnIsASCIIOnlyIsPrintableASCIIBytes
open Go.ChangeShapes Go.WideShapes Go.ChangeAt Go.RowKit
open Go.ChangeMaps (open_string shut_string)
set_option linter.unusedVariables false      -- a walk need not use every 'w<i>' (that an integer argument fits its kind)

theorem own : ownKnob Try.prog.godebug = none := by kernel_rfl

def okTo (s : ByteArray) : Nat → Bool
  | 0 => true
  | k + 1 => okTo s k && decide (32 ≤ byteAt s k ∧ byteAt s k ≤ 126)
theorem okTo_false (s : ByteArray) (k n : Nat) (hk : k < n) (h : ¬ (32 ≤ byteAt s k ∧ byteAt s k ≤ 126)) : okTo s n = false := by
  induction n with
  | zero => omega
  | succ n ih =>
    rw [okTo]
    by_cases e : k = n
    · subst e; simp; omega
    · rw [ih (by omega)]; rfl
theorem okTo_next (s : ByteArray) (k : Nat) (h : okTo s k = true) (h1 : 32 ≤ byteAt s k) (h2 : byteAt s k ≤ 126) : okTo s (k + 1) = true := by
  rw [okTo, h]; simp; omega
/-- What the decoder gives at a byte: an ASCII byte itself, else something beyond ASCII. -/
theorem rune_byte (s : ByteArray) (pos : Nat) (h : pos < s.size) (c wd : Nat) (hd : Utf8.decode s pos = (c, wd)) : (byteAt s pos < 128 ∧ c = byteAt s pos ∧ wd = 1) ∨ (128 ≤ byteAt s pos ∧ 128 ≤ c ∧ 1 ≤ wd) := by
  rw [byteAt_eq s pos h]
  by_cases ha : (s[pos]'h).toNat < 128
  · left
    rw [decode_ascii s pos h ha] at hd
    simp only [Prod.mk.injEq] at hd
    exact ⟨ha, hd.1.symm, hd.2.symm⟩
  · right
    have := decode_high s pos h (by omega)
    rw [hd] at this
    exact ⟨by omega, this.1, this.2⟩

set_option maxRecDepth 100000 in
theorem ascii_any (s : ByteArray) (hs : s.size ≤ 1048576) (w : World) :
    Calls Try.prog 15 #[.string s] w fun e w' => e = .returned (.bool (okTo s s.size)) ∧ Below w.heap.size w w' := by
  go_enter Try.func15, Try.ntmps15
  go_wp2
  go_loopw [4] (fun _ w' => ∃ pos : Nat, w' = w.iter s pos ∧ pos ≤ s.size ∧ okTo s pos = true) (fun _ w' => s.size - w'.iterPos w.heap.size)
  case atStart => exact ⟨0, rfl, by omega, rfl⟩
  case round =>
    obtain ⟨pos, rfl, hle, hok⟩ := hrel
    have HO := Lib.hid hok
    clear hok
    by_cases hp : pos < s.size
    · obtain ⟨c, wd, hd⟩ : ∃ c wd, Utf8.decode s pos = (c, wd) := ⟨_, _, rfl⟩
      have hrb := rune_byte s pos hp c wd hd
      have hnx : ∀ ty, (Instr.next (.pointer (some ⟨w.heap.size, 0, none⟩)) true ty).run Try.prog (w.iter s pos) = .ok (.tuple #[.bool true, .int .i64 pos, .int .i32 c]) (w.iter s (pos + wd)) := fun ty => by
        rw [run_next_any w s pos ty hp, hd]
      clear hd
      by_cases hc : 32 ≤ c ∧ c ≤ 126
      · have h1 : (32 : Int) ≤ c := by omega
        have h2 : (c : Int) ≤ 126 := by omega
        have h3 : decide ((c : Int) < 32) = false := by simp; omega
        have h4 : decide ((126 : Int) < c) = false := by simp; omega
        go_wp2
        go_roundw
        case rel =>
          obtain rfl : wd = 1 := by omega
          exact ⟨pos + 1, rfl, by omega, okTo_next s pos HO.out (by omega) (by omega)⟩
        case measure => simp; omega
      · have HF := Lib.hid (okTo_false s pos s.size hp (by omega))
        by_cases h5 : (c : Int) < 32
        · have h3 : decide ((c : Int) < 32) = true := by simp; omega
          go_wp2
          go_ret
          exact ⟨ret_bool HF.out.symm, (Below.refl _ _).alloc (Nat.le_refl _) _⟩
        · have h3 : decide ((c : Int) < 32) = false := by simp; omega
          have h4 : decide ((126 : Int) < c) = true := by simp; omega
          go_wp2
          go_ret
          exact ⟨ret_bool HF.out.symm, (Below.refl _ _).alloc (Nat.le_refl _) _⟩
    · have hnx : ∀ ty, (Instr.next (.pointer (some ⟨w.heap.size, 0, none⟩)) true ty).run Try.prog (w.iter s pos) = .ok (.tuple #[.bool false]) (w.iter s pos) := fun ty => run_next_end w s pos ty hp
      obtain rfl : pos = s.size := by omega
      go_wp2
      go_ret
      exact ⟨ret_bool HO.out.symm, (Below.refl _ _).alloc (Nat.le_refl _) _⟩

/-! ### STEP 1: THE WALK: the Go text returns true. 'Grown w w'': the world has at most new blocks (Derived/RowKit3.lean). Part the cases AHEAD of 'go_enter' where a test parts the walk; take each callee by a contract of your own. -/
theorem walk (a0 : ByteArray) (w0 : a0.size ≤ maxLen) (w : World) :
    Calls Try.prog 5 #[.string a0] w fun e w' => e = .returned (.bool true) ∧ Below w.heap.size w w' := by
  unfold maxLen at w0
  by_cases hsz : a0.size ≤ 1048576
  · go_enter Try.func5, Try.ntmps5
    go_wp2_with (go_at_call 11; go_in)
    go_loop [3, 4] (fun t i => ∃ k : Nat, t = .bool true ∧ i = .int .i64 k ∧ k ≤ a0.size ∧ okTo a0 k = true) (fun _ i => a0.size - (intOf i).toNat)
    case atStart => exact ⟨0, rfl, rfl, by omega, rfl⟩
    case round =>
      obtain ⟨k, rfl, rfl, hk, hok⟩ := hrel
      have HO := Lib.hid hok
      clear hok
      by_cases hlt : k < a0.size
      · have hq := byteAt_eq a0 k hlt
        by_cases hc : 32 ≤ byteAt a0 k ∧ byteAt a0 k ≤ 126
        · have h3 : decide (((a0[k]).toNat : Int) < 32) = false := by simp; omega
          have h4 : decide ((126 : Int) < ((a0[k]).toNat : Int)) = false := by simp; omega
          have HC := Lib.hid hc
          clear hq hc
          go_wp2_with fail
          go_round
          case rel => exact ⟨k + 1, rfl, by go_num, by omega, okTo_next a0 k HO.out HC.out.1 HC.out.2⟩
          case measure => simp [intOf]; omega
        · have HF := Lib.hid (okTo_false a0 k a0.size hlt hc)
          by_cases h5 : ((a0[k]).toNat : Int) < 32
          · have h3 : decide (((a0[k]).toNat : Int) < 32) = true := by simp; omega
            clear hq hc
            go_wp2_with (first | (go_at_call 12; go_in) | (go_at_call 15; refine (ascii_any a0 hsz _).mono ?_; rintro e w' ⟨rfl, hb⟩; rw [HF.out]))
            go_ret
            exact ⟨rfl, by assumption⟩
          · have h3 : decide (((a0[k]).toNat : Int) < 32) = false := by simp; omega
            have h4 : decide ((126 : Int) < ((a0[k]).toNat : Int)) = true := by simp; omega
            clear hq hc
            go_wp2_with (first | (go_at_call 12; go_in) | (go_at_call 15; refine (ascii_any a0 hsz _).mono ?_; rintro e w' ⟨rfl, hb⟩; rw [HF.out]))
            go_ret
            exact ⟨rfl, by assumption⟩
      · obtain rfl : k = a0.size := by omega
        go_wp2_with (first | (go_at_call 12; go_in) | (go_at_call 15; refine (ascii_any a0 hsz _).mono ?_; rintro e w' ⟨rfl, hb⟩; rw [HO.out]))
        go_ret
        exact ⟨rfl, by assumption⟩
  · go_enter Try.func5, Try.ntmps5
    go_wp2_with (go_at_call 11; go_in)
    go_ret
    exact ⟨rfl, Below.refl _ _⟩

/-! ### THE ROW's STEP: WRITTEN OUT: LEAVE IT -/
set_option maxRecDepth 100000 in
theorem lifted (os : Os) (started : os.Started) (H : Type) (enc : TypeId × Value → H) :
    ReturnsInHanded {} Try.checked os 5 .any (Rows.fnIsASCIIOnlyIsPrintableASCIIBytesSpec.pre6 enc Try.prog Try.f5 Rows.fnIsASCIIOnlyIsPrintableASCIIBytesRow.domain false) (Rows.fnIsASCIIOnlyIsPrintableASCIIBytesSpec.post enc Try.prog Try.f5 false true false false) := by
  refine returnsInHanded_of_change (C := Try.checked) own started (by kernel_rfl) Try.func5
    (ChangeSpec.witness6 (enc := enc) (C := Try.checked) false ⟨#[], #[.string ByteArray.empty], []⟩ 8 (by kernel_rfl) (by kernel_rfl) (by kernel_rfl) (by kernel_rfl)) ?_
  intro W base args ds gs before hval0 hW hcnd _
  have hval : ∀ (j : Nat) t v, Try.f5.params[j]? = some t → args[j]? = some v → Value.okWide Try.prog W .any base t v := hval0
  have hW' := hW
  obtain ⟨p, q, hA0, hV, rfl, hfz, hnd⟩ := hW
  have hA : DataW.TrodAll enc Try.prog W 0 (fun _ => true) true Try.f5.params.toList args.toList ds p := hA0
  rw [Try.params5] at hA hval
  obtain ⟨v0, vs0, d0, ds0, p0, q0, hargs, rfl, rfl, h0, r0⟩ := trodAll_cons hA
  obtain ⟨rfl, rfl, rfl⟩ := trodAll_nil r0
  obtain rfl : args = #[v0] := by cases args; simp_all
  obtain ⟨rfl, rfl⟩ := trodVars_none hV
  obtain ⟨a0, rfl, rfl, rfl, w0⟩ := open_string Try.underlying9 (hval 0 9 v0 rfl rfl) h0
  clear hA0 hval0
  simp only [List.append_nil] at hW'
  refine (walk a0 w0 W).mono fun e W' ⟨he, hg⟩ => ?_
  subst he
  exact ⟨_, rfl, _, _, _, [], [], [], hW', (trodAll_cons_mk (shut_bool Try.underlying4 _) trodAll_mk0), (trodAll_cons_mk (shut_string Try.underlying9 w0) trodAll_mk0), rfl, hg.frame _, fun h => by cases h⟩

theorem over : Rows.fnIsASCIIOnlyIsPrintableASCIIBytesRow.holds Try.pinned (OpenSpec.ofChange Rows.fnIsASCIIOnlyIsPrintableASCIIBytesSpec) :=
  OpenClaim.holds_of_wide 5 Try.f5 rfl rfl rfl rfl rfl rfl rfl ⟨rfl, rfl, rfl, rfl, rfl⟩ rfl rfl rfl rfl rfl (by kernel_rfl) Try.func5 (by kernel_rfl)
    (of_decide_eq_true (by kernel_rfl)) (by unfold Func.isWrapper; first | (rw [if_pos (by decide +kernel)]; kernel_rfl) | (rw [if_neg (by decide +kernel)]; exact ⟨rfl, rfl⟩))
    (fun os started H enc _ => lifted os started H enc)

/-- ████ THE STATEMENT ████ -/
theorem proved : Rows.FnIsASCIIOnlyIsPrintableASCIIBytesSaid :=
  over
#print axioms proved
end Go.Proofs.Ytddjbbipmfcnaaa.fnIsASCIIOnlyIsPrintableASCIIBytes
