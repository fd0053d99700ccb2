/-
  PROVED: a valid text's identifier, unescaped, is the text again; nothing but name bytes stands unescaped; it starts as an identifier does.
-/
import Derived.Test.YtppcjkajjahclaaFmtRows
import Derived.Test.YtppcjkajjahclaaFmtCards
import Derived.Test.YtppcjkajjahclaaFmtTie
import Derived.WalkKit
import Derived.ProofKit
import Derived.Deep.CutRange
import Derived.Deep.Cut
import Derived.Outline
import Derived.LoopTactic
import Derived.WalkSpells
import Derived.Deep.Light
import Derived.Test.YtppcjkajjahclaaFmtIdt
import Derived.Test.YtppcjkajjahclaaFmtIdz
import Derived.OpenShut
import Derived.ShutString
import Derived.ChangeOld
import Derived.Below
import Derived.Carry
import Derived.Stop.JoinedAt
import Derived.Stop.Texts
import Derived.Stop.JoinedTold
import Derived.SevenToldRow
import Derived.Handy
import Derived.Lay
import Derived.SevenTiedAt
namespace Go.Proofs.YtppcjkajjahclaaFmt.fnPrintIdentUnescapesToText
open Go.ChangeShapes Go.WideShapes Go.ChangeAt Go.RowKit
open Go.ChangeMaps (open_string shut_string)
open Go.Extern.Stop Go.Stop Go.Extern
set_option linter.unusedVariables false
set_option linter.unusedSimpArgs false

theorem own : ownKnob Tryf.prog.godebug = none := by kernel_rfl
theorem laidOut : laidOutB Tryf.pinned.checked.prog = true := by kernel_rfl


set_option maxRecDepth 100000 in
theorem zb (s : ByteArray) (ao : Bool) (ws : Int) (w : World) (hs : s.size ≤ 9223372036854775807) : Calls Tryf.prog 4 #[.string s, .bool ao, .int .u8 ws] w fun e w' => e = .returned (.bool (decide (s.size ≤ 1048576))) ∧ w = w' := by
  by_cases h : s.size ≤ 1048576
  · have g : ¬ (1048576 : Int) < (s.size : Int) := by omega
    have g2 : IntKind.i64.wrap (0 + (s.size : Int)) = (s.size : Int) := by rw [IntKind.wrap_i64]; omega
    go_enter Tryf.func4, Tryf.ntmps4
    go_wp2
    go_ret
    exact ⟨ret_bool (by simp [h]), rfl⟩
  · have g : (1048576 : Int) < (s.size : Int) := by omega
    go_enter Tryf.func4, Tryf.ntmps4
    go_wp2
    go_ret
    exact ⟨ret_bool (by simp [h]), rfl⟩
theorem copyB_made (n : Nat) : (madeCells #[.int .u8 0] n).size = n := by simp [madeCells]
/-! ### STEP 1: THE WALK -/
set_option maxHeartbeats 4000000 in
set_option maxRecDepth 100000 in
theorem walk (a0 : ByteArray) (a1 : Bool) (a2 : Int) (w : World) (w0 : a0.size ≤ maxLen) (w2 : (Lit.int .u8 a2).wf = true) (hT : Lib.Utf8Tabs 0 1 w) :
    Calls Tryf.prog 3 #[.string a0, .bool a1, .int .u8 a2] w fun e w' => e = .returned (.bool true) ∧ Below w.heap.size w w' := by
  have HW := Lib.hid w0
  have HT := Lib.hid hT
  clear w0 w2 hT
  have hw : a0.size ≤ 9223372036854775807 := by have := HW.out; unfold maxLen at this; omega
  obtain ⟨i0, hi0, hz0, hz1, hz2⟩ := info_parts u8I
  by_cases hbig : a0.size ≤ 1048576
  case neg =>
    have HB := Lib.hid (decide_eq_false hbig)
    go_enter Tryf.func3, Tryf.ntmps3
    go_wp2_with (go_at_call 4; refine (zb a0 a1 a2 w hw).mono ?_; rw [HB.out]; rintro e wz ⟨rfl, rfl⟩)
    go_ret
    exact ⟨rfl, Below.refl _ _⟩
  have HB := Lib.hid (decide_eq_true hbig)
  have gbig : ¬ (1048576 : Int) < (a0.size : Int) := by omega
  go_enter Tryf.func3, Tryf.ntmps3
  go_wp2_with (first | (go_at_call 4; refine (zb a0 a1 a2 w hw).mono ?_; rw [HB.out]; rintro e wz ⟨rfl, rfl⟩) | (go_at_call 5; refine (rtd_any a0 a1 hbig w).mono ?_))
  rintro e wz ⟨hb, rfl, hdom, hq⟩
  subst hq
  have HDOM := Lib.hid hdom
  clear hdom
  cases hb
  case false =>
    go_wp2
    go_ret
    exact ⟨rfl, Below.refl _ _⟩
  have HD := Lib.hid (HDOM.out rfl)
  clear HDOM
  go_wp2_with (go_at_call 6; with_reducible refine (new_any a1 w).mono ?_)
  rintro e w1 ⟨rfl, hI, hb1, hl1⟩
  have HI := Lib.hid hI; have HB1 := Lib.hid hb1
  have HT1 : Hid (Lib.Utf8Tabs 0 1 w1) := Lib.hid (Utf8Tabs_below HT.out hb1)
  clear hI hb1
  go_wp2_with (go_at_call 7; refine (normal_any a1 rfl a0 hbig HD.out a2 w1 HI.out (by omega) HT1.out).mono ?_)
  rintro e w2 ⟨rfl, ⟨A2, c2, hI2⟩, hb2⟩
  obtain ⟨t, ht⟩ : ∃ t, t = a0.data.toList := ⟨_, rfl⟩
  rw [← ht] at hI2
  have hts : t.length = a0.size := by rw [ht]; exact qsize a0
  obtain ⟨Q, hQ⟩ : ∃ Q, Q = outI t t.length := ⟨_, rfl⟩
  rw [← hQ] at hI2
  obtain ⟨o, ho⟩ : ∃ o, o = Q.length := ⟨_, rfl⟩
  have hol : o ≤ 2 * t.length := by rw [ho, hQ]; exact outI_le t t.length
  have hlen : (cellsB Q).length = o := by rw [ho]; unfold cellsB; simp
  have hown := hI2.ownL hlen
  have R2 : Hid (Reads w2 w2.heap.size 1 A2 o ((Q.map (fun b => (b.toNat : Int))).map (Value.int .u8))) := Lib.hid (by rw [← cellsB_ints]; exact Reads.of_own hown)
  have HI2 := Lib.hid hI2
  have B2 : Hid (Below w.heap.size w w2) := Lib.hid (HB1.out.trans hb2)
  have hsz2 : w.heap.size < w2.heap.size := by have := hb2.size; omega
  have hoc : (o : Int) ≤ 4194304 := by omega
  have HTT := Lib.hid ht; have HTS := Lib.hid hts; have HQ := Lib.hid hQ; have HO := Lib.hid ho; have HLEN := Lib.hid hlen
  clear hI2 hb2 hown hQ hlen ht hts ho hl1
  go_upto_region 10 with (go_at_call 8; refine (css_any w2 HI2.out o HLEN.out).mono ?_; rintro e w3 ⟨rfl, rfl⟩)
  go_cut [39] from 32 to 39 (fun x wx => x = .bool false ∧ Below w2.heap.size w2 wx)
  case first =>
    by_cases h0 : 0 < a0.size
    · have h0i : (0 : Int) < (a0.size : Int) := by omega
      have ht0 : 0 < t.length := by have := HTS.out; omega
      have ho0 : 0 < o := by
        rcases ri_step (t := t) ⟨Nat.zero_le _, rfl⟩ ht0 with ⟨_, _, h, _⟩ | ⟨_, _, _, h, _⟩
        all_goals (rw [← HQ.out, ← HO.out] at h; omega)
      obtain ⟨bb, off, hA, hbl, hcell⟩ := reads_cell R2.out ho0
      have hst := out_starts t ht0
      rw [← HQ.out] at hst
      rw [← HO.out] at hst
      have HOS := Lib.hid (outs_any Q bb off o c2 w2 HO.out (by omega) ho0 (fun p hp => by rw [hcell p hp, ints_get]) (by
        rcases hst with h | h | ⟨h, h1, h2⟩
        · exact .inl h
        · exact .inr (.inl h)
        · exact .inr (.inr ⟨h, h1, h2⟩)))
      clear hst hcell
      subst hA
      go_wp2_with (go_at_call 9; refine HOS.out.mono ?_; rintro e w4 ⟨rfl, hb4⟩; have HB4 := Lib.hid hb4; clear hb4)
      go_meet
      exact ⟨rfl, HB4.out⟩
    · have h0i : ¬ (0 : Int) < (a0.size : Int) := by omega
      go_wp2
      go_meet
      exact ⟨rfl, Below.refl _ _⟩
  case rest =>
  obtain ⟨rfl, hbc⟩ := hcut
  rename_i wc _
  have HBC := Lib.hid hbc
  clear hbc
  have hmk : ∀ W : World, (Instr.makeSlice 27 (.int .i64 0) (.int .i64 (o : Int))).run Tryf.prog W = .ok (.slice (some ⟨W.heap.size, 0, none⟩) 0 o) (W.alloc (.cells (madeCells #[.int .u8 0] o) 5)) := fun W => by
    have := run_make (P := Tryf.prog) W 27 5 i0 (.int .u8 0) Tryf.underlying27 hi0 hz0 .i64 .i64 0 o (by omega) (by omega) (by rw [hz2]; omega) (by omega)
    simpa [hz1, Value.cells] using this
  go_upto_region 14 with fail
  obtain ⟨w8, hw8⟩ : ∃ W : World, W = wc.alloc (.cells (madeCells #[.int .u8 0] o) 5) := ⟨_, rfl⟩
  rw [← hw8]
  have OD : Hid (w8.ownsRow wc.heap.size 5 1 (.slice (some ⟨wc.heap.size, 0, none⟩) 0 o) 0 []) := Lib.hid (by
    rw [hw8]
    exact ⟨rfl, .inr ⟨wc.heap.size, o, _, rfl, Nat.le_refl _, Blk.new wc 5 _, by omega, by unfold maxLen; omega, by simpa using copyB_made o, by simp⟩⟩)
  have BD : Hid (Below wc.heap.size wc w8) := Lib.hid (by rw [hw8]; exact (Below.refl _ _).alloc (Nat.le_refl _) _)
  obtain ⟨Bd, hBd⟩ : ∃ x, x = wc.heap.size := ⟨_, rfl⟩
  rw [← hBd] at OD BD ⊢
  have R3 : Hid (∀ W, Below Bd wc W → Reads W w2.heap.size 1 A2 o ((Q.map (fun b => (b.toNat : Int))).map (Value.int .u8))) := Lib.hid (fun W hW => by
    refine R2.out.below (HBC.out.trans (hW.mono ?_))
    rw [hBd]
    exact HBC.out.size)
  have WEND : Hid (∀ W, Below Bd wc W → Below w.heap.size w W) := Lib.hid (fun W hW => by
    refine ((B2.out.trans (HBC.out.mono (by omega)))).trans (hW.mono ?_)
    rw [hBd]
    have := HBC.out.size
    omega)
  have HBD := Lib.hid hBd
  clear hw8 hBd hmk
  go_loopw [9, 10, 11] (fun d ii cc wq => ∃ (k j : Nat) (A' : Option Addr) (c' : Nat), d = .slice A' k c' ∧ ii = .int .i64 j ∧ RI t k j ∧ wq.ownsRow Bd 5 1 (.slice A' k c') k (cellsB (t.take k)) ∧ Below Bd wc wq) (fun d ii cc _ => o - (intOf ii).toNat)
  case atStart => exact ⟨0, 0, _, _, rfl, rfl, ⟨by omega, by simp [outI]⟩, by simpa [cellsB] using OD.out, BD.out⟩
  case round =>
    obtain ⟨k, j, A', c', rfl, rfl, hri, hor, hbw⟩ := hrel
    have HRI := Lib.hid hri; have OR := Lib.hid hor; have HBWq := Lib.hid hbw
    have hkl : k ≤ a0.size := by have := hri.1; have := HTS.out; omega
    have hjo' : j ≤ o := by have := ri_le hri; rw [← HQ.out, ← HO.out] at this; exact this
    have hsr : Bd ≤ wr.heap.size := by rw [HBD.out]; exact hbw.size
    have RW := Lib.hid (R3.out wr hbw)
    clear hri hor hbw
    by_cases hjo : j < o
    · have hk : k < t.length := by
        rcases Nat.lt_or_ge k t.length with h | h
        · exact h
        · have h1 := (ri_end HRI.out (by omega)).2; rw [← HQ.out, ← HO.out] at h1; omega
      obtain ⟨bb, off, hA, hbl, hcell⟩ := reads_cell RW.out (by omega)
      subst hA
      have hw1 : IntKind.i64.wrap ((j : Int) + 1) = (j : Int) + 1 := by rw [IntKind.wrap_i64]; omega
      have hw2 : IntKind.i64.wrap ((j : Int) + 2) = (j : Int) + 2 := by rw [IntKind.wrap_i64]; omega
      have j0 : (0 : Int) ≤ (j : Int) + 1 := by omega
      have jn : ((j : Int) + 1).toNat = j + 1 := by omega
      have jlt : (j : Int) < (o : Int) := by omega
      have hst := ri_step HRI.out hk
      rw [← HQ.out, ← HO.out] at hst
      have d0 := hcell j hjo
      rw [ints_get] at d0
      rcases hst with ⟨s1, s2, s3, s4⟩ | ⟨s1, s2, s3, s4, s5⟩
      · have d1 := hcell (j + 1) s3
        rw [ints_get, s2] at d1
        rw [s1] at d0
        obtain ⟨c, hc⟩ : ∃ c, c = tb t k := ⟨_, rfl⟩
        rw [← hc] at d1
        have HC := Lib.hid hc
        have S4 := Lib.hid s4
        have g1 : (j : Int) + 1 < (o : Int) := by omega
        have g2 : ¬ (o : Int) ≤ (j : Int) + 1 := by omega
        clear s1 s2 s4 hc hcell
        go_wp2_with (at_builtin; refine wpList_append_own_src _ rfl (.tmp 58) (.tmp 64) 27 27 rfl Bd 5 i0 (.int .u8 0) 1 1 Tryf.underlying27 hi0 hz0 hz1 hz2 rfl _ _ _ rfl (OR.out.alloc _) _ 1 [.int .u8 c] rfl (srcOne wr (.int .u8 c) rfl) (by unfold maxLen; omega) (by omega) (by simp; omega) ?_)
        intro v9 w9 hown9 hgrow9 _
        have hb9 := (HBWq.out.alloc hsr _).grown hgrow9 (by simp; omega) (fun g hg => (OR.out.lt g hg).1)
        rw [HC.out, ← cellsB_take t k hk] at hown9
        obtain ⟨A9, c9, rfl⟩ := own_slice hown9
        have O9 := Lib.hid hown9; have HB9 := Lib.hid hb9
        clear hown9 hgrow9 hb9
        go_wp2
        go_roundw
        case rel => exact ⟨k + 1, j + 2, A9, c9, rfl, by go_num, S4.out, O9.out, HB9.out⟩
        case measure =>
          simp [intOf]
          omega
      · rw [s1] at d0
        obtain ⟨c, hc⟩ : ∃ c, c = tb t k := ⟨_, rfl⟩
        rw [← hc] at d0 s2 s3
        have HC := Lib.hid hc
        have S5 := Lib.hid s5
        have g92 : ((c : Int) == 92) = false := beq_eq_false_iff_ne.2 (by omega)
        clear s1 s2 s5 hc hcell
        by_cases h128 : 128 ≤ c
        · have g128 : ¬ (c : Int) < 128 := by omega
          clear s3 h128
          go_wp2_with (at_builtin; refine wpList_append_own_src _ rfl (.tmp 75) (.tmp 77) 27 27 rfl Bd 5 i0 (.int .u8 0) 1 1 Tryf.underlying27 hi0 hz0 hz1 hz2 rfl _ _ _ rfl (OR.out.alloc _) _ 1 [.int .u8 c] rfl (srcOne wr (.int .u8 c) rfl) (by unfold maxLen; omega) (by omega) (by simp; omega) ?_)
          intro v9 w9 hown9 hgrow9 _
          have hb9 := (HBWq.out.alloc hsr _).grown hgrow9 (by simp; omega) (fun g hg => (OR.out.lt g hg).1)
          rw [HC.out, ← cellsB_take t k hk] at hown9
          obtain ⟨A9, c9, rfl⟩ := own_slice hown9
          have O9 := Lib.hid hown9; have HB9 := Lib.hid hb9
          clear hown9 hgrow9 hb9
          go_wp2
          go_roundw
          case rel => exact ⟨k + 1, j + 1, A9, c9, rfl, by go_num, S5.out, O9.out, HB9.out⟩
          case measure =>
            simp [intOf]
            omega
        · have g128 : (c : Int) < 128 := by omega
          have HN : Hid (decide (nmB c) = true) := Lib.hid (decide_eq_true (by rcases s3 with h | h; omega; exact h))
          clear s3 h128
          go_wp2_with (first | (go_at_call 10; (with_reducible refine (nameb_any c _).mono ?_); rw [HN.out]; rintro e wz ⟨rfl, rfl⟩) | (at_builtin; refine wpList_append_own_src _ rfl (.tmp 75) (.tmp 77) 27 27 rfl Bd 5 i0 (.int .u8 0) 1 1 Tryf.underlying27 hi0 hz0 hz1 hz2 rfl _ _ _ rfl (OR.out.alloc _) _ 1 [.int .u8 c] rfl (srcOne wr (.int .u8 c) rfl) (by unfold maxLen; omega) (by omega) (by simp; omega) ?_))
          intro v9 w9 hown9 hgrow9 _
          have hb9 := (HBWq.out.alloc hsr _).grown hgrow9 (by simp; omega) (fun g hg => (OR.out.lt g hg).1)
          rw [HC.out, ← cellsB_take t k hk] at hown9
          obtain ⟨A9, c9, rfl⟩ := own_slice hown9
          have O9 := Lib.hid hown9; have HB9 := Lib.hid hb9
          clear hown9 hgrow9 hb9
          go_wp2
          go_roundw
          case rel => exact ⟨k + 1, j + 1, A9, c9, rfl, by go_num, S5.out, O9.out, HB9.out⟩
          case measure =>
            simp [intOf]
            omega
    · have hkt : k = t.length := by
        rcases Nat.lt_or_ge k t.length with h | h
        · have hst := ri_step HRI.out h
          rw [← HQ.out, ← HO.out] at hst
          rcases hst with ⟨_, _, h3, _⟩ | ⟨_, _, _, h3, _⟩
          all_goals omega
        · exact (ri_end HRI.out (by omega)).1
      have jle : ¬ (j : Int) < (o : Int) := by omega
      have hcv : (convert 27 9 (.slice A' k c')).run Tryf.prog wr = .ok (.string a0) wr := by
        have h1 := OR.out
        have h2 := conv_back (W := wr) h1
        rw [h2, hkt, List.take_length, HTT.out]
      clear hkt hjo
      have WQ := Lib.hid (WEND.out wr HBWq.out)
      go_wp2
      go_ret
      exact ⟨by simp, WQ.out⟩

/-! ### THE ROW's STEP -/
/-- An input that fits, at a world whose variables are laid (slices among them). -/
theorem witness_zip {H : Type} {enc : TypeId × Value → H} {C : Checked} {os : Os} {f : FuncId} {fn : Func} {s : OpenSpec} {conds : List PathCond} {apart : Bool} {laid : List (String × DataW Unit)} (modest : Bool) (w0 : World) (args : Array Value) (hos : w0.os = os)
    (hsh : (w0.forCall (fun _ _ => 0) ⟨#[], args, []⟩).Shaped C.prog)
    (hok : Input.okWideB C.prog (w0.forCall (fun _ _ => 0) ⟨#[], args, []⟩) f ⟨#[], args, []⟩ = true)
    (hrow : s.preRow enc C.prog fn conds apart laid (w0.forCall (fun _ _ => 0) ⟨#[], args, []⟩).memory args) (F : Stop.Interp) :
    ∃ (w : World) (tape : Tape) (i : Input), w.os = os ∧ (w.forCall tape i).Shaped C.prog ∧ i.vars = [] ∧ Input.okWide C.prog (w.forCall tape i) .any w.heap.size f i ∧
      s.preRow enc C.prog fn conds apart laid (w.forCall tape i).memory i.args ∧ ({ modest := modest } : Assume).holds C.prog (lone (Frame.enter C.prog f i.args .normal) [] (w.forCall tape i)) ∧ F.answers tape :=
  ⟨w0, F.over fun _ _ => 0, ⟨#[], args, []⟩, hos, hsh, (Input.okWide_of_okWideB (base := 0) hok).1, (Input.okWide_of_okWideB hok).2, hrow, by
    simp only [Assume.holds]
    exact ⟨by simp, by simp, fun _ => F.over_modest Modest.zero, by simp, by simp⟩, F.over_answers _⟩
set_option maxRecDepth 100000 in
theorem lifted (os : Os) (started : os.Started) (H : Type) (enc : TypeId × Value → H) :
    ReturnsInTold none {} Tryf.checked os 3 .any Input.okWide ((OpenSpec.ofChange Rows.fnPrintIdentUnescapesToTextSpec).preRow enc Tryf.prog Tryf.f3 [] false Rows.fnPrintIdentUnescapesToTextRow.laid) (fun F => ((OpenSpec.ofChange Rows.fnPrintIdentUnescapesToTextSpec).at F).post enc Tryf.prog Tryf.f3 false true false false) (aloneAtReturn Tryf.prog) nothingAlways := by
  refine returnsInTold_of_row (C := Tryf.checked) (s := (OpenSpec.ofChange Rows.fnPrintIdentUnescapesToTextSpec)) (by kernel_rfl) own started (by kernel_rfl) Tryf.func3
    (witness_zip (enc := enc) (C := Tryf.checked) false (World.laidAll Tryf.prog os Rows.fnPrintIdentUnescapesToTextRow.laid) #[.string ByteArray.empty, .bool false, .int .u8 0] (World.laidAll_os _ _ _) (World.shaped_of_ZipB (by kernel_rfl) (by kernel_rfl)) (by kernel_rfl)
      (OpenSpec.preRow_of_B rfl 8 (by kernel_rfl) (by kernel_rfl) (by rw [MakeChecks.laidMetH_plain _ _ _ (by kernel_rfl)]; exact laidMet_laidAll _ (by kernel_rfl) (by kernel_rfl)))) ?_
  intro F W base args ds gs before _ hF hval0 hW _ _ hsz hL _
  have hval : ∀ (j : Nat) t v, Tryf.f3.params[j]? = some t → args[j]? = some v → Value.okWide Tryf.prog W .any base t v := hval0
  have hW' := hW
  obtain ⟨p, q, hA0, hV, rfl, hfz, hnd⟩ := hW
  have hA : DataW.TrodAll enc Tryf.prog W 0 (fun _ => true) true Tryf.f3.params.toList args.toList ds p := hA0
  rw [Tryf.params3] at hA hval
  obtain ⟨v0, vs0, d0, ds0, p0, q0, hargs, rfl, rfl, h0, r0⟩ := trodAll_cons hA
  obtain ⟨v1, vs1, d1, ds1, p1, q1, rfl, rfl, rfl, h1, r1⟩ := trodAll_cons r0
  obtain ⟨v2, vs2, d2, ds2, p2, q2, rfl, rfl, rfl, h2, r2⟩ := trodAll_cons r1
  obtain ⟨rfl, rfl, rfl⟩ := trodAll_nil r2
  obtain rfl : args = #[v0, v1, v2] := by cases args; simp_all
  obtain ⟨rfl, rfl⟩ := trodVars_none hV
  have k0 := h0
  have lt0 : ∀ x ∈ p0, x.block < W.heap.size := by obtain ⟨m, hm⟩ := k0; exact DataW.trod_lt m _ _ _ hm
  have k1 := h1
  have lt1 : ∀ x ∈ p1, x.block < W.heap.size := by obtain ⟨m, hm⟩ := k1; exact DataW.trod_lt m _ _ _ hm
  have k2 := h2
  have lt2 : ∀ x ∈ p2, x.block < W.heap.size := by obtain ⟨m, hm⟩ := k2; exact DataW.trod_lt m _ _ _ hm
  obtain ⟨a0, rfl, rfl, rfl, w0⟩ := open_string Tryf.underlying9 (hval 0 9 v0 rfl rfl) h0
  obtain ⟨a1, rfl, rfl, rfl⟩ := open_bool Tryf.underlying4 (hval 1 4 v1 rfl rfl) h1
  obtain ⟨a2, rfl, rfl, rfl, w2⟩ := open_int Tryf.underlying5 (hval 2 5 v2 rfl rfl) h2
  clear hA0 hval0
  refine (walk a0 a1 a2 W w0 w2 (tabs_of hL)).mono fun e W' ⟨he, bel⟩ => ?_
  subst he
  exact ⟨_, rfl, _, _, _, [], _, [], hW', trodAll_mk1 (shut_bool Tryf.underlying4 _), (trodAll_cons_mk (Below.trod laidOut (by kernel_rfl) (of_decide_eq_true (by kernel_rfl)) k0 bel lt0) (trodAll_cons_mk (Below.trod laidOut (by kernel_rfl) (of_decide_eq_true (by kernel_rfl)) k1 bel lt1) (trodAll_cons_mk (Below.trod laidOut (by kernel_rfl) (of_decide_eq_true (by kernel_rfl)) k2 bel lt2) trodAll_mk0))), rfl, bel.frame _, fun h => by cases h⟩

theorem stopsAre : Tryf.pinned.checked.prog.stops = ["fmt.Sprintf"] := by kernel_rfl
theorem stopKnobs : Tryf.pinned.checked.prog.stopKnobs = [] := by kernel_rfl
theorem quiet (os : Os) : Stop.quiet Tryf.pinned.checked.prog os := by
  intro k hk
  rw [stopKnobs] at hk
  cases hk

theorem proved : Rows.FnPrintIdentUnescapesToTextToldSaid :=
  Claim7.holds_of_told_tied_any_at .later 3 Tryf.f3 "fmt.Sprintf" [] [] _ _ _ [.data, .pinned] true (by kernel_rfl) rfl rfl rfl laidOut (by kernel_rfl) rfl ⟨rfl, rfl, rfl, rfl, rfl, rfl, rfl⟩ rfl rfl (by kernel_rfl) (by kernel_rfl) Tryf.func3 (by kernel_rfl)
    (of_decide_eq_true (by kernel_rfl)) (of_decide_eq_true (by kernel_rfl)) stopsAre.symm rfl stopKnobs.symm (by kernel_rfl)
    (by kernel_rfl) (by kernel_rfl) (by kernel_rfl) (by kernel_rfl) (by kernel_rfl) (by kernel_rfl) (by kernel_rfl) (by kernel_rfl) (by kernel_rfl) rfl (by kernel_rfl) rfl rfl
    rfl rfl
    rfl (by kernel_rfl) (by kernel_rfl) (by kernel_rfl) (by decide) (by kernel_rfl) fnPrintIdentUnescapesToText_row_tie
    (OpenClaim.moreEntering_of (by kernel_rfl) (by kernel_rfl) (by kernel_rfl) (by kernel_rfl) (by kernel_rfl) (by kernel_rfl) (by kernel_rfl) (by kernel_rfl) (by kernel_rfl) (by kernel_rfl))
    ⟨_, WideRow.started_initial, quiet _⟩
    (fun os started _ H enc _ => lifted os started H enc)
#print axioms proved
end Go.Proofs.YtppcjkajjahclaaFmt.fnPrintIdentUnescapesToText