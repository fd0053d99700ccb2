/- css_lexer.WouldStartIdentifierWithoutEscapes and utf8.RuneLen. -/
import Derived.Test.YtppcjkajjahclaaFmtIdr
import Derived.Test.YtppcjkajjahclaaFmtIdc
import Derived.Test.YtppcjkajjahclaaFmtShelf
import Derived.Deep.Light
namespace Go.Proofs.YtppcjkajjahclaaFmt
open Go.RowKit Go.Shelf
set_option linter.unusedVariables false
set_option linter.unusedSimpArgs false
/-- What stands at a place, by its first byte. -/
structure RuneAt (t : List UInt8) (i c wd : Nat) : Prop where
  start : isStart (c : Int) = decide (nsB (tb t i))
  low : tb t i < 128 → c = tb t i ∧ wd = 1
  high : 128 ≤ tb t i → 128 ≤ c ∧ ∀ j, i ≤ j → j < i + wd → 128 ≤ tb t j
  top : c ≤ 2097151
  bom : c = 65279 → tb t i = 239 ∧ i + 2 < t.length ∧ tb t (i + 1) = 187 ∧ tb t (i + 2) = 191
  wd1 : 1 ≤ wd
  fits : i + wd ≤ t.length
theorem rune_at (s : ByteArray) (i c wd : Nat) (hi : i < s.size) (hn : tb s.data.toList i ≠ 0) (hd : Utf8.decode s i = (c, wd)) : RuneAt s.data.toList i c wd := by
  obtain ⟨f1, f2, _⟩ := dec_facts s i c wd hi hd
  have hl := qsize s
  have hb := bt s i hi
  rcases Nat.lt_or_ge (byteAt s i) 128 with h | h
  · have e := hd
    rw [decode_dec, dec_1 _ _ _ _ _ h] at e
    simp only [Prod.mk.injEq] at e
    obtain ⟨rfl, rfl⟩ := e
    rw [hb] at h ⊢
    refine ⟨?_, fun _ => ⟨rfl, rfl⟩, fun h1 => by omega, by omega, fun h1 => by omega, f1, by omega⟩
    unfold isStart
    rw [decide_eq_decide]
    unfold nsB
    omega
  · obtain ⟨g1, g2, g3, g4⟩ := dec_high s i c wd h hd
    rw [hb] at h g3
    refine ⟨?_, fun h1 => by omega, fun _ => ⟨g1, fun j h1 h2 => by rw [← bt s j (by omega)]; exact g4 j h1 h2⟩, g2, fun h1 => ?_, f1, by omega⟩
    · unfold isStart
      rw [decide_eq_decide]
      unfold nsB
      omega
    · obtain ⟨a, b, c', d⟩ := g3 h1
      rw [bt s (i + 1) (by omega)] at c'
      rw [bt s (i + 2) (by omega)] at d
      exact ⟨a, by omega, c', d⟩
set_option maxHeartbeats 1000000 in
set_option maxRecDepth 100000 in
theorem would_any (s : ByteArray) (hs : s.size ≤ 1048576) (hv : ValidI s) (hn : ∀ i, i < s.size → tb s.data.toList i ≠ 0) (w : World) (hT : Lib.Utf8Tabs 0 1 w) :
    Calls Tryf.prog 17 #[.string s] w fun e w' => e = .returned (.bool (decide (startsI s.data.toList))) ∧ Below w.heap.size w w' := by
  have D0 := Tryf.utf8_DecodeRuneInString s w hT
  have hl := qsize s
  by_cases h0 : s.size = 0
  · have e0 : Lib.decodeGo s = (65533, 0) := by unfold Lib.decodeGo; rw [if_pos h0]
    have HR : Hid (decide (startsI s.data.toList) = false) := Lib.hid (decide_eq_false (fun h => by have := h.1; omega))
    rw [e0] at D0
    have D := Lib.hid D0
    clear D0 e0 hn hv
    go_enter Tryf.func17, Tryf.ntmps17
    go_wp2_with (go_at_call 21; (with_reducible refine D.out.mono ?_); rintro e w1 ⟨rfl, hb⟩; have HB := Lib.hid hb; clear hb)
    go_ret
    exact ⟨ret_bool HR.out.symm, HB.out⟩
  have e0 : Lib.decodeGo s = Utf8.decode s 0 := by unfold Lib.decodeGo; rw [if_neg h0]
  obtain ⟨c, wd, hd⟩ : ∃ c wd, Utf8.decode s 0 = (c, wd) := ⟨_, _, rfl⟩
  have hg : ¬ (c = 65533 ∧ wd = 1) := by
    have := hv 0 (by show 0 < s.size; omega)
    unfold good at this
    rw [show pos s 0 = 0 from rfl, hd] at this
    exact this
  have hr := rune_at s 0 c wd (by omega) (hn 0 (by omega)) hd
  rw [e0, hd] at D0
  have hS := start_any (c : Int)
  rw [hr.start] at hS
  have D := Lib.hid D0; have HS := Lib.hid hS
  clear D0 hS e0
  have htop := hr.top
  have hwd := hr.wd1
  by_cases hns : nsB (tb s.data.toList 0)
  · have HN := Lib.hid (decide_eq_true hns)
    have HR : Hid (decide (startsI s.data.toList) = true) := Lib.hid (decide_eq_true ⟨by omega, .inl hns⟩)
    by_cases hc : c = 65533
    · have b1 : ((c : Int) == 65533) = true := by rw [hc]; rfl
      have b2 : ¬ (wd : Int) ≤ 1 := by omega
      clear hns hr hv hn hd hc
      go_enter Tryf.func17, Tryf.ntmps17
      go_wp2_with (first | (go_at_call 21; (with_reducible refine D.out.mono ?_); rintro e w1 ⟨rfl, hb⟩; have HB := Lib.hid hb; clear hb) | (go_at_call 22; (with_reducible refine (HS.out _).mono ?_); rw [HN.out]; rintro e wz ⟨rfl, rfl⟩))
      go_ret
      exact ⟨ret_bool HR.out.symm, HB.out⟩
    · have b1 : ((c : Int) == 65533) = false := beq_eq_false_iff_ne.2 (by omega)
      clear hns hr hv hn hd hc
      go_enter Tryf.func17, Tryf.ntmps17
      go_wp2_with (first | (go_at_call 21; (with_reducible refine D.out.mono ?_); rintro e w1 ⟨rfl, hb⟩; have HB := Lib.hid hb; clear hb) | (go_at_call 22; (with_reducible refine (HS.out _).mono ?_); rw [HN.out]; rintro e wz ⟨rfl, rfl⟩))
      go_ret
      exact ⟨ret_bool HR.out.symm, HB.out⟩
  have HN := Lib.hid (decide_eq_false hns)
  have hlow : tb s.data.toList 0 < 128 := by
    refine Decidable.byContradiction fun h => hns ?_
    unfold nsB; omega
  obtain ⟨rfl, rfl⟩ := hr.low hlow
  have b1 : ((tb s.data.toList 0 : Int) == 65533) = false := beq_eq_false_iff_ne.2 (by omega)
  by_cases h45 : tb s.data.toList 0 = 45
  case neg =>
    have b2 : ((tb s.data.toList 0 : Int) == 45) = false := beq_eq_false_iff_ne.2 (by omega)
    have HR : Hid (decide (startsI s.data.toList) = false) := Lib.hid (decide_eq_false (fun h => by
      rcases h.2 with h1 | ⟨h1, _⟩
      · exact hns h1
      · exact h45 h1))
    obtain ⟨x, hx⟩ : ∃ x, x = tb s.data.toList 0 := ⟨_, rfl⟩
    rw [← hx] at D HS HN b1 b2
    clear hns hr hv hn hd hx h45
    go_enter Tryf.func17, Tryf.ntmps17
    go_wp2_with (first | (go_at_call 21; (with_reducible refine D.out.mono ?_); rintro e w1 ⟨rfl, hb⟩; have HB := Lib.hid hb; clear hb) | (go_at_call 22; (with_reducible refine (HS.out _).mono ?_); rw [HN.out]; rintro e wz ⟨rfl, rfl⟩))
    go_ret
    exact ⟨ret_bool HR.out.symm, HB.out⟩
  rw [h45] at D HS HN b1 hns hd
  have HSx : Hid (∀ w : World, Calls Tryf.prog 22 #[.int .i32 45] w fun e w' => e = .returned (.bool (decide (nsB 45))) ∧ w = w') := Lib.hid HS.out
  clear HS
  have HS := HSx
  obtain ⟨u, hu⟩ : ∃ u, u = s.extract 1 s.size := ⟨_, rfl⟩
  have HU := Lib.hid hu
  have hsl : (0 : Int) ≤ 1 ∧ (1 : Int) ≤ (s.size : Int) := by omega
  by_cases h1 : s.size = 1
  · have e1 : Lib.decodeGo ByteArray.empty = (65533, 0) := by decide
    have HR : Hid (decide (startsI s.data.toList) = false) := Lib.hid (decide_eq_false (fun h => by
      rcases h.2 with h2 | ⟨_, h2, _⟩
      · exact hns (by rw [h45] at h2; exact h2)
      · omega))
    have D1 : ∀ w', Below w.heap.size w w' → Calls Tryf.prog 21 #[.string ByteArray.empty] w' fun e w2 => e = .returned (.tuple #[.int .i32 65533, .int .i64 0]) ∧ Below w.heap.size w' w2 := fun w' hb => by
      have := Tryf.utf8_DecodeRuneInString ByteArray.empty w' (Utf8Tabs_below hT hb)
      rw [e1] at this
      exact this.mono fun e w2 ⟨a, b⟩ => ⟨a, b.mono hb.size⟩
    have HD1 := Lib.hid D1
    clear hu D1 hns hr hv hn hd
    go_enter Tryf.func17, Tryf.ntmps17
    go_wp2_with (first | (go_at_call 21; (with_reducible refine D.out.mono ?_); rintro e w1 ⟨rfl, hb⟩; have HB := Lib.hid hb; clear hb) | (go_at_call 22; (with_reducible refine (HS.out _).mono ?_); rw [HN.out]; rintro e wz ⟨rfl, rfl⟩) | (go_at_call 21; (with_reducible refine (HD1.out _ HB.out).mono ?_); rintro e w2 ⟨rfl, hb⟩; have HB2 := Lib.hid hb; clear hb))
    go_ret
    exact ⟨ret_bool HR.out.symm, HB.out.trans HB2.out⟩
  obtain ⟨c2, wd2, hd2⟩ : ∃ c wd, Utf8.decode s 1 = (c, wd) := ⟨_, _, rfl⟩
  have e1 : Lib.decodeGo u = (c2, wd2) := by rw [hu]; rw [decode_cut s 1 (by omega), hd2]
  have hg2 : ¬ (c2 = 65533 ∧ wd2 = 1) := by
    have hp : pos s 1 = 1 := by
      show (if pos s 0 < s.size then pos s 0 + (Utf8.decode s (pos s 0)).2 else pos s 0) = 1
      rw [show pos s 0 = 0 from rfl, if_pos (by omega), hd]; rfl
    have := hv 1 (by rw [hp]; omega)
    unfold good at this
    rw [hp, hd2] at this
    exact this
  have hr2 := rune_at s 1 c2 wd2 (by omega) (hn 1 (by omega)) hd2
  have hS2 := start_any (c2 : Int)
  rw [hr2.start] at hS2
  have HS2 := Lib.hid hS2
  have htop2 := hr2.top
  have hw2 := hr2.wd1
  have HST : Hid (startsI s.data.toList ↔ (nsB (tb s.data.toList 1) ∨ tb s.data.toList 1 = 45)) := Lib.hid (by
    unfold startsI
    constructor
    · rintro ⟨_, h2 | ⟨_, _, h2⟩⟩
      · exact absurd (by rw [h45] at h2; exact h2) hns
      · exact h2
    · intro h2
      exact ⟨by omega, .inr ⟨h45, by omega, h2⟩⟩)
  have D1 : ∀ w', Below w.heap.size w w' → Calls Tryf.prog 21 #[.string u] w' fun e w2 => e = .returned (.tuple #[.int .i32 c2, .int .i64 wd2]) ∧ Below w.heap.size w' w2 := fun w' hb => by
    have := Tryf.utf8_DecodeRuneInString u w' (Utf8Tabs_below hT hb)
    rw [e1] at this
    exact this.mono fun e w2 ⟨a, b⟩ => ⟨a, b.mono hb.size⟩
  have HD1 := Lib.hid D1
  clear hu D1 hS2 e1
  have h45c : tb s.data.toList 1 ≠ 45 → c2 ≠ 45 := fun h e => by
    rcases Nat.lt_or_ge (tb s.data.toList 1) 128 with h3 | h3
    · have := (hr2.low h3).1; omega
    · have := (hr2.high h3).1; omega
  by_cases hns2 : nsB (tb s.data.toList 1)
  · have HN2 := Lib.hid (decide_eq_true hns2)
    have HR : Hid (decide (startsI s.data.toList) = true) := Lib.hid (decide_eq_true (HST.out.2 (.inl hns2)))
    by_cases hc : c2 = 65533
    · have x1 : ((c2 : Int) == 65533) = true := by rw [hc]; rfl
      have x2 : ¬ (wd2 : Int) ≤ 1 := by omega
      clear hns hr hv hn hd hns2 hr2 hd2 hc h45c
      go_enter Tryf.func17, Tryf.ntmps17
      go_wp2_with (first | (go_at_call 21; (with_reducible refine D.out.mono ?_); rintro e w1 ⟨rfl, hb⟩; have HB := Lib.hid hb; clear hb) | (go_at_call 22; (with_reducible refine (HS.out _).mono ?_); rw [HN.out]; rintro e wz ⟨rfl, rfl⟩) | (go_at_call 21; rw [← HU.out]; (with_reducible refine (HD1.out _ HB.out).mono ?_); rintro e w2 ⟨rfl, hb⟩; have HB2 := Lib.hid hb; clear hb) | (go_at_call 22; (with_reducible refine (HS2.out _).mono ?_); rw [HN2.out]; rintro e wz ⟨rfl, rfl⟩))
      go_ret
      exact ⟨ret_bool HR.out.symm, HB.out.trans HB2.out⟩
    · have x1 : ((c2 : Int) == 65533) = false := beq_eq_false_iff_ne.2 (by omega)
      clear hns hr hv hn hd hns2 hr2 hd2 hc h45c
      go_enter Tryf.func17, Tryf.ntmps17
      go_wp2_with (first | (go_at_call 21; (with_reducible refine D.out.mono ?_); rintro e w1 ⟨rfl, hb⟩; have HB := Lib.hid hb; clear hb) | (go_at_call 22; (with_reducible refine (HS.out _).mono ?_); rw [HN.out]; rintro e wz ⟨rfl, rfl⟩) | (go_at_call 21; rw [← HU.out]; (with_reducible refine (HD1.out _ HB.out).mono ?_); rintro e w2 ⟨rfl, hb⟩; have HB2 := Lib.hid hb; clear hb) | (go_at_call 22; (with_reducible refine (HS2.out _).mono ?_); rw [HN2.out]; rintro e wz ⟨rfl, rfl⟩))
      go_ret
      exact ⟨ret_bool HR.out.symm, HB.out.trans HB2.out⟩
  have HN2 := Lib.hid (decide_eq_false hns2)
  have hlow2 : tb s.data.toList 1 < 128 := by
    refine Decidable.byContradiction fun h => hns2 ?_
    unfold nsB; omega
  obtain ⟨hc2, _⟩ := hr2.low hlow2
  have x1 : ((c2 : Int) == 65533) = false := beq_eq_false_iff_ne.2 (by omega)
  by_cases h452 : tb s.data.toList 1 = 45
  · have x2 : ((c2 : Int) == 45) = true := by rw [hc2, h452]; rfl
    have HR : Hid (decide (startsI s.data.toList) = true) := Lib.hid (decide_eq_true (HST.out.2 (.inr h452)))
    clear hns hr hv hn hd hns2 hr2 hd2 h45c hc2 h452
    go_enter Tryf.func17, Tryf.ntmps17
    go_wp2_with (first | (go_at_call 21; (with_reducible refine D.out.mono ?_); rintro e w1 ⟨rfl, hb⟩; have HB := Lib.hid hb; clear hb) | (go_at_call 22; (with_reducible refine (HS.out _).mono ?_); rw [HN.out]; rintro e wz ⟨rfl, rfl⟩) | (go_at_call 21; rw [← HU.out]; (with_reducible refine (HD1.out _ HB.out).mono ?_); rintro e w2 ⟨rfl, hb⟩; have HB2 := Lib.hid hb; clear hb) | (go_at_call 22; (with_reducible refine (HS2.out _).mono ?_); rw [HN2.out]; rintro e wz ⟨rfl, rfl⟩))
    go_ret
    exact ⟨ret_bool HR.out.symm, HB.out.trans HB2.out⟩
  · have x2 : ((c2 : Int) == 45) = false := beq_eq_false_iff_ne.2 (by omega)
    have HR : Hid (decide (startsI s.data.toList) = false) := Lib.hid (decide_eq_false (fun h => by
      rcases HST.out.1 h with h2 | h2
      · exact hns2 h2
      · exact h452 h2))
    clear hns hr hv hn hd hns2 hr2 hd2 h45c hc2 h452
    go_enter Tryf.func17, Tryf.ntmps17
    go_wp2_with (first | (go_at_call 21; (with_reducible refine D.out.mono ?_); rintro e w1 ⟨rfl, hb⟩; have HB := Lib.hid hb; clear hb) | (go_at_call 22; (with_reducible refine (HS.out _).mono ?_); rw [HN.out]; rintro e wz ⟨rfl, rfl⟩) | (go_at_call 21; rw [← HU.out]; (with_reducible refine (HD1.out _ HB.out).mono ?_); rintro e w2 ⟨rfl, hb⟩; have HB2 := Lib.hid hb; clear hb) | (go_at_call 22; (with_reducible refine (HS2.out _).mono ?_); rw [HN2.out]; rintro e wz ⟨rfl, rfl⟩))
    go_ret
    exact ⟨ret_bool HR.out.symm, HB.out.trans HB2.out⟩
set_option maxRecDepth 100000 in
theorem runelen_any (c : Int) (w : World) : Calls Tryf.prog 19 #[.int .i32 c] w fun e w' => (∃ n : Int, e = .returned (.int .i64 n) ∧ -1 ≤ n ∧ n ≤ 4) ∧ w = w' := by
  go_enter Tryf.func19, Tryf.ntmps19
  go_wp2
  all_goals
    go_ret
    exact ⟨⟨_, rfl, by omega, by omega⟩, rfl⟩
end Go.Proofs.YtppcjkajjahclaaFmt
