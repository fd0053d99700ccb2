/- Plain facts on escaped identifiers: what is printed of a text, and how it reads back. -/
import Derived.Test.YtppcjkajjahclaaFmtQpl
namespace Go.Proofs.YtppcjkajjahclaaFmt
open Go.RowKit
set_option linter.unusedVariables false
set_option linter.unusedSimpArgs false
/-- A byte that starts a name (a byte from 128 on stands for its rune). -/
def nsB (b : Nat) : Prop := (97 ≤ b ∧ b ≤ 122) ∨ (65 ≤ b ∧ b ≤ 90) ∨ b = 95 ∨ 128 ≤ b
/-- An ASCII byte of a name. -/
def nmB (b : Nat) : Prop := (97 ≤ b ∧ b ≤ 122) ∨ (65 ≤ b ∧ b ≤ 90) ∨ (48 ≤ b ∧ b ≤ 57) ∨ b = 95 ∨ b = 45
def startsI (t : List UInt8) : Prop := 0 < t.length ∧ (nsB (tb t 0) ∨ (tb t 0 = 45 ∧ 1 < t.length ∧ (nsB (tb t 1) ∨ tb t 1 = 45)))
def escI (t : List UInt8) (i : Nat) : Prop := tb t i < 128 ∧ (¬ nmB (tb t i) ∨ (i = 0 ∧ ¬ startsI t))
instance (b : Nat) : Decidable (nsB b) := by unfold nsB; infer_instance
instance (b : Nat) : Decidable (nmB b) := by unfold nmB; infer_instance
instance (t : List UInt8) : Decidable (startsI t) := by unfold startsI; infer_instance
instance (t : List UInt8) (i : Nat) : Decidable (escI t i) := by unfold escI; infer_instance
def pcI (t : List UInt8) (i : Nat) : List UInt8 := if escI t i then [92, t.getD i 0] else [t.getD i 0]
def outI (t : List UInt8) : Nat → List UInt8
  | 0 => []
  | i + 1 => outI t i ++ pcI t i
theorem pcI_len (t : List UInt8) (i : Nat) : (pcI t i).length = if escI t i then 2 else 1 := by unfold pcI; split <;> rfl
theorem outI_succ (t : List UInt8) (i : Nat) : outI t (i + 1) = outI t i ++ pcI t i := rfl
theorem outI_le (t : List UInt8) : ∀ i, (outI t i).length ≤ 2 * i
  | 0 => by simp [outI]
  | i + 1 => by
    have := outI_le t i
    have h := pcI_len t i
    rw [outI_succ, List.length_append]
    split at h <;> omega
theorem outI_split (t : List UInt8) (i : Nat) : ∀ d, ∃ r, outI t (i + d) = outI t i ++ r
  | 0 => ⟨[], by simp⟩
  | d + 1 => by
    obtain ⟨r, hr⟩ := outI_split t i d
    refine ⟨r ++ pcI t (i + d), ?_⟩
    show outI t ((i + d) + 1) = _
    rw [outI_succ, hr, List.append_assoc]
theorem outI_mono (t : List UInt8) {i n : Nat} (h : i ≤ n) : (outI t i).length ≤ (outI t n).length := by
  obtain ⟨r, hr⟩ := outI_split t i (n - i)
  rw [show i + (n - i) = n by omega] at hr
  rw [hr, List.length_append]; omega
theorem outI_at (t : List UInt8) {i n : Nat} (h : i < n) (j : Nat) (hj : j < (pcI t i).length) : tb (outI t n) ((outI t i).length + j) = tb (pcI t i) j := by
  obtain ⟨r, hr⟩ := outI_split t (i + 1) (n - (i + 1))
  rw [show i + 1 + (n - (i + 1)) = n by omega] at hr
  unfold tb
  rw [List.getD_eq_getElem?_getD, List.getD_eq_getElem?_getD, hr, outI_succ, List.append_assoc, List.getElem?_append_right (by omega), Nat.add_sub_cancel_left, List.getElem?_append_left hj]
/-- The bytes of a rune beyond ASCII are printed as they are. -/
theorem outI_high (t : List UInt8) (i : Nat) : ∀ w, (∀ j, i ≤ j → j < i + w → 128 ≤ tb t j) → i + w ≤ t.length → outI t (i + w) = outI t i ++ (t.drop i).take w
  | 0, _, _ => by simp
  | w + 1, h, hl => by
    show outI t ((i + w) + 1) = _
    rw [outI_succ, outI_high t i w (fun j h1 h2 => h j h1 (by omega)) (by omega)]
    have hb := h (i + w) (by omega) (by omega)
    have hn : ¬ escI t (i + w) := fun e => by have := e.1; omega
    have hlt : w < (t.drop i).length := by rw [List.length_drop]; omega
    have hd : (t.drop i).take (w + 1) = (t.drop i).take w ++ [t.getD (i + w) 0] := by
      rw [List.take_succ_eq_append_getElem hlt]
      congr 2
      rw [List.getElem_drop, List.getD_eq_getElem?_getD, List.getElem?_eq_getElem (by omega)]
      rfl
    unfold pcI
    rw [if_neg hn, hd, List.append_assoc]
/-- The reader stands at place j: k bytes are read. -/
def RI (t : List UInt8) (k j : Nat) : Prop := k ≤ t.length ∧ j = (outI t k).length
theorem ri_le {t : List UInt8} {k j : Nat} (h : RI t k j) : j ≤ (outI t t.length).length := by
  have := outI_mono t h.1; have := h.2; omega
theorem ri_step {t : List UInt8} {k j : Nat} (h : RI t k j) (hk : k < t.length) :
    (tb (outI t t.length) j = 92 ∧ tb (outI t t.length) (j + 1) = tb t k ∧ j + 1 < (outI t t.length).length ∧ RI t (k + 1) (j + 2)) ∨
    (tb (outI t t.length) j = tb t k ∧ tb t k ≠ 92 ∧ (128 ≤ tb t k ∨ nmB (tb t k)) ∧ j < (outI t t.length).length ∧ RI t (k + 1) (j + 1)) := by
  obtain ⟨h1, h2⟩ := h
  have hm := outI_mono t (show k + 1 ≤ t.length by omega)
  have hl : (outI t (k + 1)).length = (outI t k).length + (pcI t k).length := by rw [outI_succ, List.length_append]
  have hp := pcI_len t k
  by_cases he : escI t k
  · left
    rw [if_pos he] at hp
    have a0 := outI_at t hk 0 (by omega)
    have a1 := outI_at t hk 1 (by omega)
    have hb : pcI t k = [92, t.getD k 0] := by unfold pcI; rw [if_pos he]
    rw [hb] at a0 a1
    exact ⟨by rw [h2]; exact a0, by rw [h2]; exact a1, by omega, by omega, by omega⟩
  · right
    rw [if_neg he] at hp
    have a0 := outI_at t hk 0 (by omega)
    have hb : pcI t k = [t.getD k 0] := by unfold pcI; rw [if_neg he]
    rw [hb] at a0
    have hn : 128 ≤ tb t k ∨ nmB (tb t k) := by
      rcases Nat.lt_or_ge (tb t k) 128 with h3 | h3
      · right
        refine Decidable.byContradiction fun h4 => he ⟨h3, .inl h4⟩
      · exact .inl h3
    refine ⟨by rw [h2]; exact a0, fun e => ?_, hn, by omega, by omega, by omega⟩
    rw [e] at hn
    rcases hn with h3 | h3
    · omega
    · unfold nmB at h3; omega
theorem ri_end {t : List UInt8} {k j : Nat} (h : RI t k j) (hk : ¬ k < t.length) : k = t.length ∧ j = (outI t t.length).length := by
  obtain ⟨h1, h2⟩ := h
  have e : k = t.length := by omega
  subst e
  exact ⟨rfl, h2⟩
/-- A non-empty text's output starts as an identifier does. -/
theorem out_starts (t : List UInt8) (ht : 0 < t.length) : tb (outI t t.length) 0 = 92 ∨ nsB (tb (outI t t.length) 0) ∨ (tb (outI t t.length) 0 = 45 ∧ 1 < (outI t t.length).length ∧ (nsB (tb (outI t t.length) 1) ∨ tb (outI t t.length) 1 = 45 ∨ tb (outI t t.length) 1 = 92)) := by
  have h0 : RI t 0 0 := ⟨by omega, rfl⟩
  rcases ri_step h0 ht with ⟨a, _, _, _⟩ | ⟨a, b, c, d, e⟩
  · exact .inl a
  · right
    rw [a]
    have hs : startsI t := Decidable.byContradiction fun hn => by
      have he : ¬ escI t 0 := fun he => by
        have hb : pcI t 0 = [92, t.getD 0 0] := by unfold pcI; rw [if_pos he]
        have a0 := outI_at t ht 0 (by rw [hb]; simp)
        rw [hb] at a0
        have a0' : tb (outI t t.length) 0 = 92 := a0
        omega
      rcases Nat.lt_or_ge (tb t 0) 128 with h3 | h3
      · exact he ⟨h3, .inr ⟨rfl, hn⟩⟩
      · exact hn ⟨ht, .inl (by unfold nsB; omega)⟩
    rcases hs.2 with h1 | ⟨h1, h2, h3⟩
    · exact .inl h1
    · right
      refine ⟨h1, ?_⟩
      rcases ri_step e h2 with ⟨a1, _, l1, _⟩ | ⟨a1, _, _, l1, _⟩
      · exact ⟨by omega, .inr (.inr a1)⟩
      · refine ⟨by omega, ?_⟩
        rw [a1]
        rcases h3 with h3 | h3
        · exact .inl h3
        · exact .inr (.inl h3)
end Go.Proofs.YtppcjkajjahclaaFmt
