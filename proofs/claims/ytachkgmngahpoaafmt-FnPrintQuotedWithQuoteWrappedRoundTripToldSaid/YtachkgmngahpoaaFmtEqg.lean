/- strings.EqualFold of five bytes of a text with "style", whatever they are. -/
import Derived.Test.YtachkgmngahpoaaFmtEqf
import Derived.Test.YtachkgmngahpoaaFmtQh1
namespace Go.Proofs.YtachkgmngahpoaaFmt
open Go.RowKit
set_option linter.unusedVariables false
set_option linter.unusedSimpArgs false
def EfPost (b : Bool) (w : World) (e : Ending) (w' : World) : Prop := e = .returned (.bool b) ∧ Below w.heap.size w w'
theorem lowA_letter {x m : Nat} (hx : x < 256) (hm : 97 ≤ m) (hm2 : m ≤ 122) : (x = m ∨ (65 ≤ x ∧ x ≤ 90 ∧ m = x + 32) ∨ (65 ≤ m ∧ m ≤ 90 ∧ x = m + 32)) ↔ lowA x = m := by
  unfold lowA
  split <;> omega
theorem fold_letter (x : UInt8) (m : UInt8) (hm : 97 ≤ m.toNat) (hm2 : m.toNat ≤ 122) : Lib.foldEq x m = decide (lowA x.toNat = m.toNat) := by
  unfold Lib.foldEq
  exact decide_eq_decide.2 (lowA_letter x.toNat_lt hm hm2)
theorem fold_list (a b c d e : UInt8) : Lib.equalFold [a, b, c, d, e] [115, 116, 121, 108, 101] = decide (lowA a.toNat = 115 ∧ lowA b.toNat = 116 ∧ lowA c.toNat = 121 ∧ lowA d.toNat = 108 ∧ lowA e.toNat = 101) := by
  simp only [Lib.equalFold, fold_letter a 115 (by decide) (by decide), fold_letter b 116 (by decide) (by decide), fold_letter c 121 (by decide) (by decide), fold_letter d 108 (by decide) (by decide), fold_letter e 101 (by decide) (by decide), Bool.and_true]
  rw [Bool.eq_iff_iff]
  simp only [Bool.and_eq_true, decide_eq_true_eq]
  exact Iff.rfl
theorem cut5 (s : ByteArray) (i : Nat) (hi : i + 5 ≤ s.size) : (s.extract i (i + 5)).data.toList = [s.data.toList.getD i 0, s.data.toList.getD (i + 1) 0, s.data.toList.getD (i + 2) 0, s.data.toList.getD (i + 3) 0, s.data.toList.getD (i + 4) 0] := by
  have hsz : (s.extract i (i + 5)).size = 5 := by rw [ByteArray.size_extract]; omega
  apply List.ext_getElem
  · rw [qsize, hsz]; rfl
  · intro k h1 h2
    have hk : k < 5 := by simpa using h2
    have e : (s.extract i (i + 5)).data.toList[k] = (s.extract i (i + 5))[k]'(by omega) := by
      rw [qget _ _ (by omega), List.getD_eq_getElem?_getD, List.getElem?_eq_getElem h1]; rfl
    rw [e, ByteArray.getElem_extract, qget s (i + k) (by omega)]
    rcases (by omega : k = 0 ∨ k = 1 ∨ k = 2 ∨ k = 3 ∨ k = 4) with rfl | rfl | rfl | rfl | rfl <;> rfl
theorem ef_any (s : ByteArray) (i : Nat) (hi : i + 6 ≤ s.size) (w : World) (hF : FoldTabs w) :
    Calls Tryf.prog 19 #[.string (s.extract (i + 1) (i + 6)), .string sty] w (EfPost (decide (styleFrom s.data.toList (i + 1))) w) := by
  have hsz : (s.extract (i + 1) (i + 6)).size = 5 := by rw [ByteArray.size_extract]; omega
  have hc := cut5 s (i + 1) (by omega)
  have hl := qsize s
  by_cases hn : ∃ k, ∃ h : k < (s.extract (i + 1) (i + 6)).size, 128 ≤ ((s.extract (i + 1) (i + 6))[k]'h).toNat
  · refine (ef_non _ hsz hn w hF).mono ?_
    rintro e w' ⟨rfl, hb⟩
    refine ⟨?_, hb⟩
    obtain ⟨k, h, hk⟩ := hn
    rw [decide_eq_false]
    rintro ⟨_, a0, a1, a2, a3, a4⟩
    rw [ByteArray.getElem_extract, qget s (i + 1 + k) (by omega)] at hk
    have hk' : 128 ≤ tb s.data.toList (i + 1 + k) := hk
    have low : ∀ x m, lowA x = m → m < 128 → x < 128 := fun x m h h2 => by unfold lowA at h; split at h <;> omega
    rcases (by omega : k = 0 ∨ k = 1 ∨ k = 2 ∨ k = 3 ∨ k = 4) with rfl | rfl | rfl | rfl | rfl
    · have := low _ _ a0 (by omega); rw [Nat.add_zero] at hk'; omega
    · have := low _ _ a1 (by omega); omega
    · have := low _ _ a2 (by omega); omega
    · have := low _ _ a3 (by omega); omega
    · have := low _ _ a4 (by omega); omega
  · refine (Tryf.strings_EqualFold _ sty w (by omega) ?_ ?_).mono ?_
    · intro j b hb
      have hj : j < (s.extract (i + 1) (i + 6)).size := by
        have := (List.getElem?_eq_some_iff.1 hb).1
        rwa [qsize] at this
      have := qget (s.extract (i + 1) (i + 6)) j hj
      rw [List.getD_eq_getElem?_getD, hb, Option.getD_some] at this
      rw [← this]
      exact Nat.lt_of_not_le fun h => hn ⟨j, hj, h⟩
    · intro j b hb
      have hall : sty.data.toList.all (fun x => decide (x.toNat < 128)) = true := by decide
      exact of_decide_eq_true (List.all_eq_true.1 hall b (List.mem_of_getElem? hb))
    · rintro e w' ⟨rfl, rfl⟩
      refine ⟨?_, Below.refl _ _⟩
      rw [hc, show sty.data.toList = [115, 116, 121, 108, 101] from rfl, fold_list]
      congr 2
      refine decide_eq_decide.2 ?_
      unfold styleFrom
      constructor
      · rintro ⟨a0, a1, a2, a3, a4⟩
        exact ⟨by omega, a0, a1, a2, a3, a4⟩
      · rintro ⟨_, a0, a1, a2, a3, a4⟩
        exact ⟨a0, a1, a2, a3, a4⟩
end Go.Proofs.YtachkgmngahpoaaFmt
