/- zzLinesAndLastColumn: the line breaks and the units on the last line. -/
import Derived.Test.YtgdcpladehcegaaDoorZdc
namespace Go.Proofs.YtgdcpladehcegaaDoor
open Go.RowKit
set_option linter.unusedVariables false
set_option linter.unusedSimpArgs false
def ZlnPost (s : ByteArray) (w : World) (e : Ending) (w' : World) : Prop := e = .returned (.tuple #[.int .i64 ((lcEnd s).1 : Nat), .int .i64 ((lcEnd s).2 : Nat)]) ∧ ∃ q, w' = w.drewN q
set_option maxHeartbeats 2000000 in
set_option maxRecDepth 100000 in
theorem zln_any (s : ByteArray) (hs : s.size ≤ 1048576) (w : World) : Calls Tryd.prog 17 #[.string s] w (ZlnPost s w) := by
  have HZ := Lib.hid hs
  have HS : Hid ((s.size : Int) ≤ 1048576) := Lib.hid (by omega)
  clear hs
  go_enter Tryd.func17, Tryd.ntmps17
  go_upto_region 4 with fail
  go_loopw [4, 5, 6] (fun a b p wr => ∃ k q : Nat, a = .int .i64 ((lc s k).1 : Nat) ∧ b = .int .i64 ((lc s k).2 : Nat) ∧ p = .int .i64 (pos s k : Nat) ∧ wr = w.drewN q) (fun _ _ p _ => s.size - (intOf p).toNat)
  case atStart => exact ⟨0, 0, rfl, rfl, rfl, by rw [World.drewN_zero]⟩
  case round =>
    obtain ⟨k, q0, rfl, rfl, rfl, hw⟩ := hrel
    have HW := Lib.hid hw
    clear hw
    obtain ⟨p, hp⟩ : ∃ p, p = pos s k := ⟨_, rfl⟩
    obtain ⟨l, hl⟩ : ∃ l, l = (lc s k).1 := ⟨_, rfl⟩
    obtain ⟨col, hcol⟩ : ∃ c, c = (lc s k).2 := ⟨_, rfl⟩
    have hle := lc_le s k
    have hpl := pos_le s k
    rw [← hp] at hle hpl ⊢
    rw [← hl] at hle ⊢
    rw [← hcol] at hle ⊢
    have hs := HZ.out
    by_cases hlt : p < s.size
    · obtain ⟨c, wd, hd⟩ : ∃ c wd, Utf8.decode s p = (c, wd) := ⟨_, _, rfl⟩
      have hf := dec_facts s p c wd hlt hd
      have HD : Hid (∀ W, Calls Tryd.prog 18 #[.string s, .int .i64 (p : Int)] W (ZdPost c wd W)) := Lib.hid (fun W => zdec_any s p c wd hs hlt hd W)
      have HT : Hid (∀ W, Calls Tryd.prog 21 #[.string s, .int .i64 (p : Int), .int .i32 (c : Int)] W fun e w' => e = .returned (.bool (decide (isTerm s p c))) ∧ W = w') := Lib.hid (fun W => zterm_any s p c hs hlt W)
      have HU : Hid (∀ W, Calls Tryd.prog 22 #[.int .i32 (c : Int)] W fun e w' => e = .returned (.int .i64 (units c : Nat)) ∧ W = w') := Lib.hid (fun W => zunits_any c W)
      have hpos := pos_step s k c wd (by rw [← hp]; exact hlt) (by rw [← hp]; exact hd)
      have hstep := lc_step s k c wd (by rw [← hp]; exact hlt) (by rw [← hp]; exact hd)
      rw [← hp] at hpos hstep
      have HPOS := Lib.hid hpos
      have hlc : lc s k = (l, col) := by rw [hl, hcol]
      rw [hlc] at hstep
      have hu : units c ≤ 2 := by unfold units; split <;> omega
      have hwp : IntKind.i64.wrap ((p : Int) + (wd : Int)) = ((p + wd : Nat) : Int) := by rw [IntKind.wrap_i64]; omega
      have hwl : IntKind.i64.wrap ((l : Int) + 1) = ((l + 1 : Nat) : Int) := by rw [IntKind.wrap_i64]; omega
      have hwc : IntKind.i64.wrap ((col : Int) + (units c : Int)) = ((col + units c : Nat) : Int) := by rw [IntKind.wrap_i64]; omega
      have hM : s.size - (p + wd) < s.size - p := by omega
      have HM := Lib.hid hM
      have hlt' : (p : Int) < (s.size : Int) := by omega
      have HDR : Hid (∀ q, wr.drewN q = w.drewN (q0 + q)) := Lib.hid (fun q => by rw [HW.out, World.drewN_drewN])
      by_cases ht : isTerm s p c
      · have e1 : decide (isTerm s p c) = true := by simpa using ht
        rw [lcStep_term s p c _ ht] at hstep
        have HST := Lib.hid hstep
        rw [e1] at HT
        clear hle hpl hlt hd hf hpos hstep hlc ht e1 hs hM hp hl hcol
        go_wp2_with (first | (go_at_call 18; (with_reducible refine (HD.out _).mono ?_); rintro e w' ⟨rfl, q1, rfl⟩) | (go_at_call 21; (with_reducible refine (HT.out _).mono ?_); rintro e w' ⟨rfl, rfl⟩))
        all_goals
          refine ⟨⟨k + 1, q0 + q1, ?_, ?_, ?_, HDR.out _⟩, ?_⟩
          · rw [HST.out]; rfl
          · rw [HST.out]; rfl
          · rw [HPOS.out]; rfl
          · exact HM.out
      · have e1 : decide (isTerm s p c) = false := by simpa using ht
        rw [e1] at HT
        by_cases h13 : c = 13
        · subst h13
          have e13 : ((13 : Nat) : Int) = 13 := rfl
          simp only [show ((13 : Nat) : Int) = 13 from rfl] at HD HT
          rw [lcStep_cr s p _ ht] at hstep
          have HST := Lib.hid hstep
          clear hle hpl hlt hd hf hpos hstep hlc ht e1 hs hM hp hl hcol
          go_wp2_with (first | (go_at_call 18; (with_reducible refine (HD.out _).mono ?_); rintro e w' ⟨rfl, q1, rfl⟩) | (go_at_call 21; (with_reducible refine (HT.out _).mono ?_); rintro e w' ⟨rfl, rfl⟩))
          all_goals
            refine ⟨⟨k + 1, q0 + q1, ?_, ?_, ?_, HDR.out _⟩, ?_⟩
            · rw [HST.out]
            · rw [HST.out]
            · rw [HPOS.out]; rfl
            · exact HM.out
        · have e13 : ((c : Int) != 13) = true := by rw [bne_iff_ne]; omega
          rw [lcStep_else s p c _ ht h13] at hstep
          have HST := Lib.hid hstep
          clear hle hpl hlt hd hf hpos hstep hlc ht e1 hs hM hp hl hcol h13
          go_wp2_with (first | (go_at_call 18; (with_reducible refine (HD.out _).mono ?_); rintro e w' ⟨rfl, q1, rfl⟩) | (go_at_call 21; (with_reducible refine (HT.out _).mono ?_); rintro e w' ⟨rfl, rfl⟩) | (go_at_call 22; (with_reducible refine (HU.out _).mono ?_); rintro e w' ⟨rfl, rfl⟩))
          all_goals
            refine ⟨⟨k + 1, q0 + q1, ?_, ?_, ?_, HDR.out _⟩, ?_⟩
            · rw [HST.out]
            · rw [HST.out]; rfl
            · rw [HPOS.out]; rfl
            · exact HM.out
    · have hend : pos s k = s.size := by omega
      have hlcE := lc_end s k hend
      have h1 : l = (lcEnd s).1 := by rw [hl, hlcE]
      have h2 : col = (lcEnd s).2 := by rw [hcol, hlcE]
      have H1 := Lib.hid h1; have H2 := Lib.hid h2
      have hlt' : ¬ (p : Int) < (s.size : Int) := by omega
      clear hle hpl hlt hend hlcE h1 h2 hs hp hl hcol
      go_wp2_with fail
      go_ret2
      exact ⟨by rw [← H1.out, ← H2.out]; rfl, q0, HW.out⟩
end Go.Proofs.YtgdcpladehcegaaDoor
