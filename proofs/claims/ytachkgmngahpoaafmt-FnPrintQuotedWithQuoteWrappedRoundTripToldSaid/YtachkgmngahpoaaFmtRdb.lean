/- What is printed between the quotes, read back. -/
import Derived.Test.YtachkgmngahpoaaFmtQh3
namespace Go.Proofs.YtachkgmngahpoaaFmt
open Go.RowKit
set_option linter.unusedVariables false
set_option linter.unusedSimpArgs false
abbrev pcs (wr : Nat → Bool) (q : Nat) (t : List UInt8) (i : Nat) : List UInt8 := (if wr i = true then [92, 10] else []) ++ outB q t i
theorem pc_at (wr : Nat → Bool) (q : Nat) (t : List UInt8) {i n : Nat} (h : i < n) (j : Nat) (hj : j < (pcs wr q t i).length) : tb (outW wr q t n) ((outW wr q t i).length + j) = tb (pcs wr q t i) j := by
  unfold tb
  rw [List.getD_eq_getElem?_getD, List.getD_eq_getElem?_getD, outW_at wr q t h j hj]
theorem pc_len (wr : Nat → Bool) (q : Nat) (t : List UInt8) (i : Nat) : (outW wr q t (i + 1)).length = (outW wr q t i).length + (pcs wr q t i).length := by
  rw [outW_succ, List.length_append]
theorem out_mono (wr : Nat → Bool) (q : Nat) (t : List UInt8) {i n : Nat} (h : i ≤ n) : (outW wr q t i).length ≤ (outW wr q t n).length := by
  obtain ⟨r, hr⟩ := outW_split wr q t i (n - i)
  rw [show i + (n - i) = n by omega] at hr
  rw [hr, List.length_append]; omega
/-- The reader stands at place j: k bytes are read; e = 2: behind a wrapped line's backslash and line feed. -/
def RB (wr : Nat → Bool) (q : Nat) (t : List UInt8) (k e j : Nat) : Prop := k ≤ t.length ∧ j = (outW wr q t k).length + e ∧ (e = 0 ∨ (e = 2 ∧ k < t.length ∧ wr k = true))
theorem rb_end {wr : Nat → Bool} {q : Nat} {t : List UInt8} {k e j : Nat} (h : RB wr q t k e j) (hk : ¬ k < t.length) : k = t.length ∧ j = (outW wr q t t.length).length := by
  obtain ⟨h1, h2, h3⟩ := h
  have e1 : k = t.length := by omega
  subst e1
  rcases h3 with rfl | ⟨_, h, _⟩
  · exact ⟨rfl, by omega⟩
  · omega
theorem rb_le {wr : Nat → Bool} {q : Nat} {t : List UInt8} {k e j : Nat} (h : RB wr q t k e j) : j ≤ (outW wr q t t.length).length := by
  obtain ⟨h1, h2, h3⟩ := h
  rcases h3 with rfl | ⟨rfl, hk, hw⟩
  · have := out_mono wr q t h1; omega
  · have h4 := out_mono wr q t (show k + 1 ≤ t.length by omega)
    have h5 := pc_len wr q t k
    have h6 : 2 ≤ (pcs wr q t k).length := by unfold pcs; rw [if_pos hw]; simp
    omega
theorem rb_step {wr : Nat → Bool} {q : Nat} {t : List UInt8} (hfree : hexFree t) (hq : q ≠ 0) {k e j : Nat} (h : RB wr q t k e j) (hk : k < t.length) :
    (tb (outW wr q t t.length) j = 92 ∧ tb (outW wr q t t.length) (j + 1) = 10 ∧ j + 1 < (outW wr q t t.length).length ∧ RB wr q t k 2 (j + 2)) ∨
    (tb (outW wr q t t.length) j = 92 ∧ tb (outW wr q t t.length) (j + 1) = tb t k ∧ tb t k ≠ 10 ∧ j + 1 < (outW wr q t t.length).length ∧ RB wr q t (k + 1) 0 (j + 2)) ∨
    (tb (outW wr q t t.length) j = tb t k ∧ tb t k ≠ 92 ∧ tb t k ≠ q ∧ tb t k ≠ 10 ∧ j < (outW wr q t t.length).length ∧ RB wr q t (k + 1) 0 (j + 1)) := by
  obtain ⟨h1, h2, h3⟩ := h
  have hm := out_mono wr q t (show k + 1 ≤ t.length by omega)
  have hl := pc_len wr q t k
  have hob : (outB q t k).length = if needs q t k then 2 else 1 := by unfold outB; split <;> rfl
  obtain ⟨_, _, n10, _, _⟩ := hfree k hk
  by_cases hA : e = 0 ∧ wr k = true
  · obtain ⟨rfl, hw⟩ := hA
    have hp : pcs wr q t k = 92 :: 10 :: outB q t k := by unfold pcs; rw [if_pos hw]; rfl
    have hpl : (pcs wr q t k).length = 2 + (outB q t k).length := by rw [hp]; simp; omega
    have a0 := pc_at wr q t hk 0 (by omega)
    have a1 := pc_at wr q t hk 1 (by omega)
    have hob1 : 1 ≤ (outB q t k).length := outB_ne q t k
    rw [hp] at a0 a1
    left
    refine ⟨by rw [h2]; exact a0, by rw [h2]; exact a1, by omega, by omega, by omega, .inr ⟨rfl, hk, hw⟩⟩
  · right
    have hi : (pcs wr q t k).length = e + (outB q t k).length ∧ ∀ d, d < (outB q t k).length → tb (pcs wr q t k) (e + d) = tb (outB q t k) d := by
      rcases h3 with rfl | ⟨rfl, _, hw⟩
      · have hw : wr k = false := by
          cases hh : wr k
          · rfl
          · exact absurd ⟨rfl, hh⟩ hA
        have hp : pcs wr q t k = outB q t k := by unfold pcs; rw [hw]; simp
        rw [hp]
        exact ⟨by omega, fun d _ => by rw [Nat.zero_add]⟩
      · have hp : pcs wr q t k = 92 :: 10 :: outB q t k := by unfold pcs; rw [if_pos hw]; rfl
        rw [hp]
        refine ⟨by simp; omega, fun d _ => ?_⟩
        rw [Nat.add_comm]
        rfl
    obtain ⟨hil, hid⟩ := hi
    by_cases hn : needs q t k
    · left
      rw [if_pos hn] at hob
      have a0 := pc_at wr q t hk e (by omega)
      have a1 := pc_at wr q t hk (e + 1) (by omega)
      have b0 := hid 0 (by omega)
      have b1 := hid 1 (by omega)
      rw [Nat.add_zero] at b0
      rw [b0] at a0
      rw [b1] at a1
      have hb : outB q t k = [92, t.getD k 0] := by unfold outB; rw [if_pos hn]
      rw [hb] at a0 a1
      refine ⟨by rw [h2]; exact a0, by rw [h2, Nat.add_assoc]; exact a1, n10, by omega, by omega, by omega, .inl rfl⟩
    · right
      rw [if_neg hn] at hob
      have a0 := pc_at wr q t hk e (by omega)
      have b0 := hid 0 (by omega)
      rw [Nat.add_zero] at b0
      rw [b0] at a0
      have hb : outB q t k = [t.getD k 0] := by unfold outB; rw [if_neg hn]
      rw [hb] at a0
      have hn' := hn
      unfold needs at hn'
      refine ⟨by rw [h2]; exact a0, fun e => hn' (.inl e), fun e => hn' (.inr (.inl ⟨hq, e⟩)), n10, by omega, by omega, by omega, .inl rfl⟩
end Go.Proofs.YtachkgmngahpoaaFmt
