/- The walk of the law's two-pass model of lines and columns (zzModelSmB2). -/
import Derived.Test.YtkciffbedngdnaaDoorRows
import Derived.Test.YtkciffbedngdnaaDoorDecW
import Derived.Test.YtkciffbedngdnaaDoorLine
import Derived.Test.YtkciffbedngdnaaDoorWords
import Derived.WalkKit
import Derived.WalkSpells
import Derived.LoopTactic
import Derived.Outline
import Derived.Deep.Light
namespace Go.Proofs.YtkciffbedngdnaaDoor
open Go.RowKit
set_option linter.unusedVariables false
set_option linter.unusedSimpArgs false

def tailV (n t : Nat) : Int := if n = 0 then -1 else t
def baseV (C : Int) (n : Nat) : Int := if n = 0 then C else 0
theorem units_tok (c : Nat) : unitsTok c = units c := rfl
theorem term_tok (c : Nat) : termTok c = true ↔ isTerm c := by unfold termTok isTerm; simp; omega
theorem byte_at (s : ByteArray) (i : Nat) (h : i < s.size) : s.get! i = s[i]'h := get_at s i h
def ModPost (L C : Int) (R : Nat × Nat × Nat) (w : World) (e : Ending) (w' : World) : Prop :=
  e = .returned (.tuple #[.int .i64 (wrap64 (L + R.1)), .int .i64 (wrap64 (baseV C R.1 + R.2.1))]) ∧ w = w'
set_option maxHeartbeats 2000000 in
set_option maxRecDepth 100000 in
theorem model (L C : Int) (s : ByteArray) (w : World) (hs : s.size ≤ 1048576) : Calls Tryd.prog 7 #[.int .i64 L, .int .i64 C, .string s] w (ModPost L C (lineF s 0 0 0 0) w) := by
  obtain ⟨R, hR⟩ : ∃ R, R = lineF s 0 0 0 0 := ⟨_, rfl⟩
  have HU := Lib.hid (line_units s s.size 0 0 0 0 (by omega) rfl)
  have HST := Lib.hid (line_start s s.size 0 0 0 0 (by omega) (fun _ => rfl))
  rw [← hR] at HU HST
  rw [← hR]
  have HR := Lib.hid hR
  clear hR
  go_enter Tryd.func7, Tryd.ntmps7
  go_wp2
  go_loopw [8, 9, 10] (fun cv tv t wr => ∃ i n u tl : Nat, t = .int .i64 i ∧ cv = .int .i64 n ∧ tv = .int .i64 (tailV n tl) ∧ lineF s i n u tl = R ∧ n ≤ i ∧ tl ≤ i ∧ i ≤ s.size + 3 ∧ w = wr) (fun _ _ t _ => s.size - (intOf t).toNat)
  case atStart => exact ⟨0, 0, 0, 0, rfl, rfl, rfl, HR.out.symm, by omega, by omega, by omega, rfl⟩
  case round =>
    obtain ⟨i, n, u, tl, rfl, rfl, rfl, hln, hni, hti, hi, rfl⟩ := hrel
    have HLN := Lib.hid hln
    clear hln
    by_cases hlt : i < s.size
    · obtain ⟨c, wd, hd⟩ : ∃ c wd, Utf8.decode s i = (c, wd) := ⟨_, _, rfl⟩
      have hw : 1 ≤ wd := by have := line_width s i hlt; rw [hd] at this; exact this
      have hw4 : wd ≤ 4 := by have := decode_width s i; rw [hd] at this; exact this
      have HD := Lib.hid hd
      clear hd
      by_cases ht : isTerm c
      · by_cases h13 : c = 13
        · have TT := Lib.hid (show termTok c = true from (term_tok c).2 ht)
          have TC := Lib.hid (show (c == 13) = true by simp [h13])
          by_cases h1 : i + 1 < s.size
          · by_cases h2 : (s[i + 1]'h1).toNat = 10
            · have HN := Lib.hid ((lineF_crlf (n := n) (u := u) (t := tl) hlt HD.out ⟨h13, h1, by rw [byte_at s (i + 1) h1]; exact h2⟩).symm.trans HLN.out)
              have q : ((s[i + 1]'h1).toNat : Int) = 10 := by omega
              have q' : (((s[i + 1]'h1).toNat : Int) == 10) = true := by simp [q]
              go_wp2_with (go_at_call 9; refine (tok_any s i c wd hlt (by unfold maxLen; omega) HD.out _).mono ?_; rw [TT.out, TC.out]; rintro e wz ⟨rfl, rfl⟩)
              go_roundw
              case rel => exact ⟨i + wd, n, u + 1, tl, by go_num, rfl, rfl, HN.out, by omega, by omega, by omega, by first | rfl | trivial⟩
              case measure => simp [intOf]; omega
            · have HN := Lib.hid ((lineF_brk (n := n) (u := u) (t := tl) hlt HD.out (fun h => h2 (by rw [← byte_at s (i + 1) h1]; exact h.2.2)) ht).symm.trans HLN.out)
              have q : ¬ ((s[i + 1]'h1).toNat : Int) = 10 := by omega
              have q' : (((s[i + 1]'h1).toNat : Int) == 10) = false := by simp [q]
              go_wp2_with (go_at_call 9; refine (tok_any s i c wd hlt (by unfold maxLen; omega) HD.out _).mono ?_; rw [TT.out, TC.out]; rintro e wz ⟨rfl, rfl⟩)
              go_roundw
              case rel => exact ⟨i + wd, n + 1, 0, i + wd, by go_num, by go_num, by unfold tailV; rw [if_neg (by omega)]; go_num, HN.out, by omega, by omega, by omega, by first | rfl | trivial⟩
              case measure => simp [intOf]; omega
          · have HN := Lib.hid ((lineF_brk (n := n) (u := u) (t := tl) hlt HD.out (fun h => h1 h.2.1) ht).symm.trans HLN.out)
            have q : decide ((i : Int) + 1 < s.size) = false := by simp; omega
            go_wp2_with (go_at_call 9; refine (tok_any s i c wd hlt (by unfold maxLen; omega) HD.out _).mono ?_; rw [TT.out, TC.out]; rintro e wz ⟨rfl, rfl⟩)
            go_roundw
            case rel => exact ⟨i + wd, n + 1, 0, i + wd, by go_num, by go_num, by unfold tailV; rw [if_neg (by omega)]; go_num, HN.out, by omega, by omega, by omega, by first | rfl | trivial⟩
            case measure => simp [intOf]; omega
        · have TT := Lib.hid (show termTok c = true from (term_tok c).2 ht)
          have TC := Lib.hid (show (c == 13) = false by simp [h13])
          have HN := Lib.hid ((lineF_brk (n := n) (u := u) (t := tl) hlt HD.out (fun h => h13 h.1) ht).symm.trans HLN.out)
          go_wp2_with (go_at_call 9; refine (tok_any s i c wd hlt (by unfold maxLen; omega) HD.out _).mono ?_; rw [TT.out, TC.out]; rintro e wz ⟨rfl, rfl⟩)
          go_roundw
          case rel => exact ⟨i + wd, n + 1, 0, i + wd, by go_num, by go_num, by unfold tailV; rw [if_neg (by omega)]; go_num, HN.out, by omega, by omega, by omega, by first | rfl | trivial⟩
          case measure => simp [intOf]; omega
      · have TT := Lib.hid (show termTok c = false by
          cases e : termTok c
          · rfl
          · exact absurd ((term_tok c).1 e) ht)
        have HN := Lib.hid ((lineF_plain (n := n) (u := u) (t := tl) hlt HD.out ht).symm.trans HLN.out)
        go_wp2_with (go_at_call 9; refine (tok_any s i c wd hlt (by unfold maxLen; omega) HD.out _).mono ?_; rw [TT.out]; rintro e wz ⟨rfl, rfl⟩)
        go_roundw
        case rel => exact ⟨i + wd, n, u + units c, tl, by go_num, rfl, rfl, HN.out, by omega, by omega, by omega, by first | rfl | trivial⟩
        case measure => simp [intOf]; omega
    · have hln := HLN.out
      rw [lineF_end hlt] at hln
      subst hln
      have hU := HU.out
      have hST := HST.out
      simp only at hU hST
      have HU2 := Lib.hid hU; have HST2 := Lib.hid hST
      clear hU hST HU HST HR HLN
      by_cases h0 : n = 0
      · subst h0
        obtain rfl : tl = 0 := HST2.out rfl
        rw [show tailV 0 0 = -1 from rfl]
        go_wp2
        go_loopw [10, 18] (fun t uv wr => ∃ i a : Nat, t = .int .i64 i ∧ uv = .int .i64 a ∧ unitsF s i a = u ∧ i ≤ s.size + 3 ∧ a ≤ 2 * i ∧ w = wr) (fun t _ _ => s.size - (intOf t).toNat)
        case atStart => exact ⟨0, 0, rfl, rfl, HU2.out, by omega, by omega, rfl⟩
        case round =>
          obtain ⟨i2, a, rfl, rfl, hua, hi2, ha2, rfl⟩ := hrel
          have HUA := Lib.hid hua
          clear hua
          by_cases hlt2 : i2 < s.size
          · obtain ⟨c, wd, hd⟩ : ∃ c wd, Utf8.decode s i2 = (c, wd) := ⟨_, _, rfl⟩
            have hw : 1 ≤ wd := by have := line_width s i2 hlt2; rw [hd] at this; exact this
            have hw4 : wd ≤ 4 := by have := decode_width s i2; rw [hd] at this; exact this
            have HD := Lib.hid hd
            have HN := Lib.hid ((unitsF_step (acc := a) hlt2 hd).symm.trans HUA.out)
            have huc : units c ≤ 2 * wd := by unfold units; split <;> omega
            clear hd
            go_wp2_with (go_at_call 9; refine (tok_any s i2 c wd hlt2 (by unfold maxLen; omega) HD.out _).mono ?_; rw [units_tok]; rintro e wz ⟨rfl, rfl⟩)
            go_roundw
            case rel => exact ⟨i2 + wd, a + units c, by go_num, by go_num, HN.out, by omega, by omega, by first | rfl | trivial⟩
            case measure => simp [intOf]; omega
          · have hau := HUA.out
            rw [unitsF_end hlt2] at hau
            subst hau
            go_wp2
            go_ret2
            exact ⟨by unfold baseV; simp, rfl⟩
      · rw [show tailV n tl = (tl : Int) by unfold tailV; rw [if_neg h0]]
        go_wp2
        go_loopw [10, 18] (fun t uv wr => ∃ i a : Nat, t = .int .i64 i ∧ uv = .int .i64 a ∧ unitsF s i a = u ∧ i ≤ s.size + 3 ∧ a ≤ 2 * i ∧ w = wr) (fun t _ _ => s.size - (intOf t).toNat)
        case atStart => exact ⟨tl, 0, rfl, rfl, HU2.out, by omega, by omega, rfl⟩
        case round =>
          obtain ⟨i2, a, rfl, rfl, hua, hi2, ha2, rfl⟩ := hrel
          have HUA := Lib.hid hua
          clear hua
          by_cases hlt2 : i2 < s.size
          · obtain ⟨c, wd, hd⟩ : ∃ c wd, Utf8.decode s i2 = (c, wd) := ⟨_, _, rfl⟩
            have hw : 1 ≤ wd := by have := line_width s i2 hlt2; rw [hd] at this; exact this
            have hw4 : wd ≤ 4 := by have := decode_width s i2; rw [hd] at this; exact this
            have HD := Lib.hid hd
            have HN := Lib.hid ((unitsF_step (acc := a) hlt2 hd).symm.trans HUA.out)
            have huc : units c ≤ 2 * wd := by unfold units; split <;> omega
            clear hd
            go_wp2_with (go_at_call 9; refine (tok_any s i2 c wd hlt2 (by unfold maxLen; omega) HD.out _).mono ?_; rw [units_tok]; rintro e wz ⟨rfl, rfl⟩)
            go_roundw
            case rel => exact ⟨i2 + wd, a + units c, by go_num, by go_num, HN.out, by omega, by omega, by first | rfl | trivial⟩
            case measure => simp [intOf]; omega
          · have hau := HUA.out
            rw [unitsF_end hlt2] at hau
            subst hau
            go_wp2
            go_ret2
            exact ⟨by unfold baseV; rw [if_neg h0]; simp; unfold wrap64; omega, rfl⟩
end Go.Proofs.YtkciffbedngdnaaDoor
