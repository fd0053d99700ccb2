/- Plain facts on runes and lines: where the runes of a text start, and the lines and the last column behind so many of them. -/
import Derived.Test.YtgdcpladehcegaaDoorDec
namespace Go.Proofs.YtgdcpladehcegaaDoor
open Go.RowKit
set_option linter.unusedVariables false
set_option linter.unusedSimpArgs false
theorem byte_out (s : ByteArray) (i : Nat) (h : ¬ i < s.size) : byteAt s i = 0 := by
  unfold byteAt
  obtain ⟨d⟩ := s
  show (d[i]!).toNat = 0
  rw [getElem!_neg d i (by exact h)]; rfl
theorem dec_facts (s : ByteArray) (i c wd : Nat) (hi : i < s.size) (hd : Utf8.decode s i = (c, wd)) : 1 ≤ wd ∧ wd ≤ 4 ∧ i + wd ≤ s.size ∧ c ≤ 2097151 ∧ (128 ≤ c → c ≠ 65533 → 2 ≤ wd) := by
  rw [decode_dec] at hd
  have l0 := byteAt_lt s i; have l1 := byteAt_lt s (i + 1); have l2 := byteAt_lt s (i + 2); have l3 := byteAt_lt s (i + 3)
  unfold dec at hd
  repeat' split at hd
  all_goals
    simp only [Prod.mk.injEq] at hd
    obtain ⟨h1, h2⟩ := hd
    omega
/-- Where the runes start. -/
def pos (s : ByteArray) : Nat → Nat
  | 0 => 0
  | k + 1 => if pos s k < s.size then pos s k + (Utf8.decode s (pos s k)).2 else pos s k
theorem pos_step (s : ByteArray) (m c wd : Nat) (h : pos s m < s.size) (hd : Utf8.decode s (pos s m) = (c, wd)) : pos s (m + 1) = pos s m + wd := by
  show (if pos s m < s.size then _ else _) = _
  rw [if_pos h, hd]
theorem pos_mono (s : ByteArray) {m k : Nat} (h : m ≤ k) : pos s m ≤ pos s k := by
  obtain ⟨d, rfl⟩ : ∃ d, k = m + d := ⟨k - m, by omega⟩
  clear h
  induction d with
  | zero => exact Nat.le_refl _
  | succ d ih =>
    refine Nat.le_trans ih ?_
    have e : pos s (m + (d + 1)) = (if pos s (m + d) < s.size then pos s (m + d) + (Utf8.decode s (pos s (m + d))).2 else pos s (m + d)) := rfl
    rw [e]
    split <;> omega
theorem pos_le (s : ByteArray) : ∀ k, pos s k ≤ s.size
  | 0 => Nat.zero_le _
  | k + 1 => by
    have ih := pos_le s k
    by_cases h : pos s k < s.size
    · obtain ⟨c, wd, hd⟩ : ∃ c wd, Utf8.decode s (pos s k) = (c, wd) := ⟨_, _, rfl⟩
      rw [pos_step s k c wd h hd]
      have := dec_facts s (pos s k) _ _ h hd
      omega
    · show (if pos s k < s.size then _ else _) ≤ _
      rw [if_neg h]
      exact ih
theorem pos_lt_succ (s : ByteArray) (k : Nat) (h : pos s k < s.size) : pos s k < pos s (k + 1) := by
  obtain ⟨c, wd, hd⟩ : ∃ c wd, Utf8.decode s (pos s k) = (c, wd) := ⟨_, _, rfl⟩
  rw [pos_step s k c wd h hd]
  have := dec_facts s (pos s k) _ _ h hd
  omega
theorem pos_strict (s : ByteArray) {m k : Nat} (h : m < k) (hm : pos s m < s.size) : pos s m < pos s k :=
  Nat.lt_of_lt_of_le (pos_lt_succ s m hm) (pos_mono s h)
theorem pos_ge (s : ByteArray) : ∀ k, k ≤ pos s k ∨ pos s k = s.size
  | 0 => .inl (Nat.zero_le _)
  | k + 1 => by
    have hl := pos_le s k
    have hl1 := pos_le s (k + 1)
    have hm := pos_mono s (Nat.le_succ k)
    by_cases h : pos s k < s.size
    · have := pos_lt_succ s k h
      rcases pos_ge s k with h1 | h1
      · left; omega
      · omega
    · right; simp only [Nat.succ_eq_add_one] at hm; omega
theorem pos_end (s : ByteArray) : pos s s.size = s.size := by
  have := pos_ge s s.size
  have := pos_le s s.size
  omega
/-- A rune c at place p ends a line. -/
def isTerm (s : ByteArray) (p c : Nat) : Prop := c = 10 ∨ c = 8232 ∨ c = 8233 ∨ (c = 13 ∧ ¬ (p + 1 < s.size ∧ byteAt s (p + 1) = 10))
instance (s : ByteArray) (p c : Nat) : Decidable (isTerm s p c) := by unfold isTerm; infer_instance
def units (c : Nat) : Nat := if c ≤ 65535 then 1 else 2
def lcStep (s : ByteArray) (p c : Nat) (lc : Nat × Nat) : Nat × Nat := if isTerm s p c then (lc.1 + 1, 0) else if c = 13 then lc else (lc.1, lc.2 + units c)
/-- Line breaks, and units on the last line, of the first k runes. -/
def lc (s : ByteArray) : Nat → Nat × Nat
  | 0 => (0, 0)
  | k + 1 => if pos s k < s.size then lcStep s (pos s k) (Utf8.decode s (pos s k)).1 (lc s k) else lc s k
theorem lc_step (s : ByteArray) (k c wd : Nat) (h : pos s k < s.size) (hd : Utf8.decode s (pos s k) = (c, wd)) : lc s (k + 1) = lcStep s (pos s k) c (lc s k) := by
  show (if pos s k < s.size then _ else _) = _
  rw [if_pos h, hd]
theorem lc_flat (s : ByteArray) {m k : Nat} (h : m ≤ k) (he : ¬ pos s m < s.size) : lc s k = lc s m := by
  obtain ⟨d, rfl⟩ : ∃ d, k = m + d := ⟨k - m, by omega⟩
  clear h
  induction d with
  | zero => rfl
  | succ d ih =>
    have e : lc s (m + (d + 1)) = (if pos s (m + d) < s.size then lcStep s (pos s (m + d)) (Utf8.decode s (pos s (m + d))).1 (lc s (m + d)) else lc s (m + d)) := rfl
    rw [e, if_neg, ih]
    have := pos_mono s (show m ≤ m + d by omega)
    omega
theorem lc_same (s : ByteArray) {m k : Nat} (h : pos s m = pos s k) : lc s m = lc s k := by
  have key : ∀ {m k : Nat}, m ≤ k → pos s m = pos s k → lc s k = lc s m := by
    intro m k hmk e
    by_cases hlt : pos s m < s.size
    · rcases Nat.lt_or_ge m k with h1 | h1
      · have := pos_strict s h1 hlt
        omega
      · obtain rfl : m = k := by omega
        rfl
    · exact lc_flat s hmk hlt
  rcases Nat.le_total m k with h1 | h1
  · exact (key h1 h).symm
  · exact key h1 h.symm
theorem lc_le (s : ByteArray) : ∀ k, (lc s k).1 ≤ pos s k ∧ (lc s k).2 ≤ 2 * pos s k
  | 0 => ⟨Nat.zero_le _, Nat.zero_le _⟩
  | k + 1 => by
    obtain ⟨h1, h2⟩ := lc_le s k
    by_cases h : pos s k < s.size
    · have hp := pos_lt_succ s k h
      obtain ⟨c, wd, hd⟩ : ∃ c wd, Utf8.decode s (pos s k) = (c, wd) := ⟨_, _, rfl⟩
      rw [lc_step s k c wd h hd]
      unfold lcStep
      split
      · exact ⟨by show (lc s k).1 + 1 ≤ _; omega, Nat.zero_le _⟩
      · split
        · omega
        · refine ⟨by show (lc s k).1 ≤ _; omega, ?_⟩
          show (lc s k).2 + units c ≤ _
          unfold units
          split <;> omega
    · have e := lc_flat s (Nat.le_succ k) h
      have := pos_mono s (Nat.le_succ k)
      simp only [Nat.succ_eq_add_one] at e this
      rw [e]
      omega
/-- The whole text's line breaks, and the units on its last line. -/
def lcEnd (s : ByteArray) : Nat × Nat := lc s s.size
theorem lc_end (s : ByteArray) (k : Nat) (h : pos s k = s.size) : lc s k = lcEnd s := lc_same s (by rw [h, pos_end])
theorem lcEnd_le (s : ByteArray) : (lcEnd s).1 ≤ s.size ∧ (lcEnd s).2 ≤ 2 * s.size := by
  have := lc_le s s.size
  rw [pos_end] at this
  exact this
theorem lcStep_term (s : ByteArray) (p c : Nat) (l : Nat × Nat) (h : isTerm s p c) : lcStep s p c l = (l.1 + 1, 0) := by unfold lcStep; rw [if_pos h]
theorem lcStep_cr (s : ByteArray) (p : Nat) (l : Nat × Nat) (h : ¬ isTerm s p 13) : lcStep s p 13 l = l := by unfold lcStep; rw [if_neg h, if_pos rfl]
theorem lcStep_else (s : ByteArray) (p c : Nat) (l : Nat × Nat) (h : ¬ isTerm s p c) (h13 : c ≠ 13) : lcStep s p c l = (l.1, l.2 + units c) := by unfold lcStep; rw [if_neg h, if_neg h13]
/- A piece of a text. -/
theorem piece_size (s : ByteArray) (a cut : Nat) (h : cut ≤ s.size) : (s.extract a cut).size = cut - a := by rw [ByteArray.size_extract]; omega
theorem piece_byte (s : ByteArray) (a cut i : Nat) (h : cut ≤ s.size) (hi : a + i < cut) : byteAt (s.extract a cut) i = byteAt s (a + i) := by
  rw [byteAt_eq _ _ (by rw [piece_size s a cut h]; omega), byteAt_eq _ _ (by omega), ByteArray.getElem_extract]
theorem dec_cut (b0 b1 b2 b3 c1 c2 c3 n m c wd : Nat) (hn : m ≤ n) (h1 : 1 < m → c1 = b1) (h2 : 2 < m → c2 = b2) (h3 : 3 < m → c3 = b3) (hd : dec b0 b1 b2 b3 n = (c, wd)) (hw : wd ≤ m) :
    dec b0 c1 c2 c3 m = (c, wd) := by
  by_cases a1 : b0 < 128
  · rw [dec_1 _ _ _ _ _ a1] at hd ⊢; exact hd
  by_cases m1 : 1 < m
  case neg =>
    have hw1 : wd ≤ 1 := by omega
    have e : dec b0 c1 c2 c3 m = (65533, 1) := by
      unfold dec
      rw [if_neg a1, if_neg (by omega), if_neg (by omega), if_neg (by omega)]
    rw [e]
    unfold dec at hd
    rw [if_neg a1] at hd
    repeat' split at hd
    all_goals
      simp only [Prod.mk.injEq] at hd ⊢
      omega
  obtain rfl := h1 m1
  by_cases m2 : 2 < m
  case neg =>
    unfold dec at hd ⊢
    rw [if_neg a1] at hd ⊢
    by_cases q : b0 / 32 = 6 ∧ 1 < m ∧ c1 / 64 = 2
    · rw [if_pos q]; rw [if_pos (by omega)] at hd; exact hd
    · rw [if_neg q, if_neg (by omega), if_neg (by omega)]
      rw [if_neg (by omega)] at hd
      repeat' split at hd
      all_goals
        simp only [Prod.mk.injEq] at hd ⊢
        omega
  obtain rfl := h2 m2
  by_cases m3 : 3 < m
  case neg =>
    unfold dec at hd ⊢
    rw [if_neg a1] at hd ⊢
    by_cases q : b0 / 32 = 6 ∧ 1 < m ∧ c1 / 64 = 2
    · rw [if_pos q]; rw [if_pos (by omega)] at hd; exact hd
    · rw [if_neg q]
      rw [if_neg (by omega)] at hd
      by_cases q2 : b0 / 16 = 14 ∧ (1 < m ∧ c1 / 64 = 2) ∧ (2 < m ∧ c2 / 64 = 2)
      · rw [if_pos q2]; rw [if_pos (by omega)] at hd; exact hd
      · rw [if_neg q2, if_neg (by omega)]
        rw [if_neg (by omega)] at hd
        repeat' split at hd
        all_goals
          simp only [Prod.mk.injEq] at hd ⊢
          omega
  obtain rfl := h3 m3
  have e : ∀ k, k < 4 → (k < m) = (k < n) := fun k hk => by rw [eq_iff_iff]; omega
  unfold dec at hd ⊢
  simp only [e 1 (by omega), e 2 (by omega), e 3 (by omega)]
  exact hd
theorem piece_dec (s : ByteArray) (a cut i c wd : Nat) (h : cut ≤ s.size) (hi : a + i < cut) (hd : Utf8.decode s (a + i) = (c, wd)) (hw : a + i + wd ≤ cut) : Utf8.decode (s.extract a cut) i = (c, wd) := by
  have hb : ∀ j, a + (i + j) < cut → byteAt (s.extract a cut) (i + j) = byteAt s (a + i + j) := fun j hj => by rw [piece_byte s a cut _ h hj]; congr 1; omega
  rw [decode_dec] at hd ⊢
  rw [piece_size s a cut h, show byteAt (s.extract a cut) i = byteAt s (a + i) from piece_byte s a cut i h hi]
  exact dec_cut _ _ _ _ _ _ _ (s.size - (a + i)) _ c wd (by omega) (fun q => hb 1 (by omega)) (fun q => hb 2 (by omega)) (fun q => hb 3 (by omega)) hd (by omega)
/-- The runes of a piece between two rune starts are the text's runes there. -/
theorem piece_pos (s : ByteArray) (k m : Nat) : ∀ j, k + j ≤ m → pos s k + pos (s.extract (pos s k) (pos s m)) j = pos s (k + j)
  | 0, _ => by simp [pos]
  | j + 1, h => by
    have ih := piece_pos s k m j (by omega)
    have hm := pos_le s m
    have hmm : pos s (k + j) ≤ pos s m := pos_mono s (by omega)
    have hmm1 : pos s (k + (j + 1)) ≤ pos s m := pos_mono s h
    by_cases hlt : pos s (k + j) < pos s m
    · obtain ⟨c, wd, hd⟩ : ∃ c wd, Utf8.decode s (pos s (k + j)) = (c, wd) := ⟨_, _, rfl⟩
      have e1 := pos_step s (k + j) c wd (by omega) hd
      have e2 : Utf8.decode (s.extract (pos s k) (pos s m)) (pos (s.extract (pos s k) (pos s m)) j) = (c, wd) :=
        piece_dec s _ _ _ c wd hm (by omega) (by rw [ih]; exact hd) (by rw [ih]; rw [show k + (j + 1) = k + j + 1 by omega] at hmm1; omega)
      rw [pos_step _ j c wd (by rw [piece_size _ _ _ hm]; omega) e2]
      have : k + (j + 1) = k + j + 1 := by omega
      rw [this]
      omega
    · have e1 : pos s (k + (j + 1)) = pos s (k + j) := by
        have := pos_mono s (show k + j ≤ k + (j + 1) by omega)
        omega
      have e2 : pos (s.extract (pos s k) (pos s m)) (j + 1) = pos (s.extract (pos s k) (pos s m)) j := by
        show (if _ then _ else _) = _
        rw [if_neg (by rw [piece_size _ _ _ hm]; omega)]
      rw [e1, e2, ih]
/-- A cut that does not part a CR from its LF. -/
def Clean (s : ByteArray) (cut : Nat) : Prop := ¬ (0 < cut ∧ cut < s.size ∧ byteAt s (cut - 1) = 13 ∧ byteAt s cut = 10)
theorem clean_end (s : ByteArray) : Clean s s.size := by rintro ⟨_, h, _⟩; omega
theorem dec13 (s : ByteArray) (p wd : Nat) (hd : Utf8.decode s p = (13, wd)) : byteAt s p = 13 ∧ wd = 1 := by
  rw [decode_dec] at hd
  unfold dec at hd
  repeat' split at hd
  all_goals
    simp only [Prod.mk.injEq] at hd
    omega
/-- The look behind a CR within the part that ends at the cut. -/
theorem clean_look (s : ByteArray) (p cut wd : Nat) (hc : Clean s cut) (hp : p < cut) (hcut : cut ≤ s.size) (hd : Utf8.decode s p = (13, wd)) :
    isTerm s p 13 ↔ ¬ (p + 1 < cut ∧ byteAt s (p + 1) = 10) := by
  obtain ⟨h0, _⟩ := dec13 s p wd hd
  unfold isTerm
  constructor
  · rintro (h | h | h | ⟨_, h⟩) ⟨h1, h2⟩
    · omega
    · omega
    · omega
    · exact h ⟨by omega, h2⟩
  · intro h
    refine .inr (.inr (.inr ⟨rfl, fun ⟨h1, h2⟩ => ?_⟩))
    by_cases h3 : p + 1 < cut
    · exact h ⟨h3, h2⟩
    · obtain rfl : cut = p + 1 := by omega
      exact hc ⟨by omega, h1, by simpa using h0, h2⟩
end Go.Proofs.YtgdcpladehcegaaDoor
