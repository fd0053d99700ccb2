/- Plain law of a quoted CSS text: the pieces that are printed (a wrapped line ahead of a piece, a backslash ahead of a byte that needs it), the byte-wise model, and that no '</style' comes up. -/
import Derived.Test.YtppcjkajjahclaaFmtWords
namespace Go.Proofs.YtppcjkajjahclaaFmt
set_option linter.unusedVariables false
set_option linter.unusedSimpArgs false

def lowA (b : Nat) : Nat := if 65 ≤ b ∧ b ≤ 90 then b + 32 else b
def tb (t : List UInt8) (i : Nat) : Nat := (t.getD i 0).toNat
/-- "style" in whatever case lies from place i on. -/
def styleFrom (t : List UInt8) (i : Nat) : Prop := i + 5 ≤ t.length ∧ lowA (tb t i) = 115 ∧ lowA (tb t (i + 1)) = 116 ∧ lowA (tb t (i + 2)) = 121 ∧ lowA (tb t (i + 3)) = 108 ∧ lowA (tb t (i + 4)) = 101
instance (t : List UInt8) (i : Nat) : Decidable (styleFrom t i) := by unfold styleFrom; infer_instance
def needs (q : Nat) (t : List UInt8) (i : Nat) : Prop :=
  tb t i = 92 ∨ (q ≠ 0 ∧ tb t i = q) ∨ (q = 0 ∧ (tb t i = 40 ∨ tb t i = 41 ∨ tb t i = 32 ∨ tb t i = 9 ∨ tb t i = 34 ∨ tb t i = 39)) ∨ (tb t i = 47 ∧ 1 ≤ i ∧ tb t (i - 1) = 60 ∧ styleFrom t (i + 1))
instance (q : Nat) (t : List UInt8) (i : Nat) : Decidable (needs q t i) := by unfold needs; infer_instance
def outB (q : Nat) (t : List UInt8) (i : Nat) : List UInt8 := if needs q t i then [92, t.getD i 0] else [t.getD i 0]
/-- What is printed of the bytes ahead of i, a wrapped line where wr says so. -/
def outW (wr : Nat → Bool) (q : Nat) (t : List UInt8) : Nat → List UInt8
  | 0 => []
  | i + 1 => outW wr q t i ++ ((if wr i = true then [92, 10] else []) ++ outB q t i)
theorem outW_succ (wr : Nat → Bool) (q : Nat) (t : List UInt8) (i : Nat) : outW wr q t (i + 1) = outW wr q t i ++ ((if wr i = true then [92, 10] else []) ++ outB q t i) := rfl
theorem outW_ext {wr wr' : Nat → Bool} {q : Nat} {t : List UInt8} : ∀ i, (∀ j, j < i → wr j = wr' j) → outW wr q t i = outW wr' q t i
  | 0, _ => rfl
  | i + 1, h => by
    unfold outW
    rw [outW_ext i (fun j hj => h j (by omega)), h i (by omega)]
theorem outB_ne (q : Nat) (t : List UInt8) (i : Nat) : 1 ≤ (outB q t i).length := by unfold outB; split <;> simp
theorem outW_len (wr : Nat → Bool) (q : Nat) (t : List UInt8) : ∀ i, i ≤ (outW wr q t i).length
  | 0 => by simp [outW]
  | i + 1 => by
    have := outW_len wr q t i
    have := outB_ne q t i
    unfold outW
    simp only [List.length_append]
    omega
/-- Bytes from 128 on need nothing: they are printed as they are. -/
theorem outW_high (wr : Nat → Bool) (q : Nat) (t : List UInt8) (hq : q < 128) (i : Nat) : ∀ w, (∀ j, i ≤ j → j < i + w → 128 ≤ tb t j) → i + w ≤ t.length → (∀ j, i ≤ j → j < i + w → wr j = false) → outW wr q t (i + w) = outW wr q t i ++ (t.drop i).take w
  | 0, _, _, _ => by simp
  | w + 1, h, hl, hw => by
    show outW wr q t ((i + w) + 1) = _
    rw [outW_succ, outW_high wr q t hq i w (fun j h1 h2 => h j h1 (by omega)) (by omega) (fun j h1 h2 => hw j h1 (by omega)), hw (i + w) (by omega) (by omega)]
    have hb := h (i + w) (by omega) (by omega)
    have hn : ¬ needs q t (i + w) := by
      unfold needs
      omega
    have hd : (t.drop i).take (w + 1) = (t.drop i).take w ++ [t.getD (i + w) 0] := by
      have hlt : w < (t.drop i).length := by rw [List.length_drop]; omega
      rw [List.take_succ_eq_append_getElem hlt]
      congr 2
      rw [List.getElem_drop, List.getD_eq_getElem?_getD, List.getElem?_eq_getElem (by omega)]
      rfl
    unfold outB
    rw [if_neg hn, hd]
    simp
theorem outW_split (wr : Nat → Bool) (q : Nat) (t : List UInt8) (i : Nat) : ∀ d, ∃ r, outW wr q t (i + d) = outW wr q t i ++ r
  | 0 => ⟨[], by simp⟩
  | d + 1 => by
    obtain ⟨r, h⟩ := outW_split wr q t i d
    refine ⟨r ++ ((if wr (i + d) = true then [92, 10] else []) ++ outB q t (i + d)), ?_⟩
    show outW wr q t ((i + d) + 1) = _
    rw [outW_succ, h, List.append_assoc]
theorem outW_at (wr : Nat → Bool) (q : Nat) (t : List UInt8) {i n : Nat} (h : i < n) (j : Nat) (hj : j < ((if wr i = true then [92, 10] else []) ++ outB q t i).length) :
    (outW wr q t n)[(outW wr q t i).length + j]? = ((if wr i = true then [92, 10] else []) ++ outB q t i)[j]? := by
  obtain ⟨r, hr⟩ := outW_split wr q t (i + 1) (n - (i + 1))
  rw [show i + 1 + (n - (i + 1)) = n by omega] at hr
  rw [hr]
  show ((outW wr q t i ++ ((if wr i = true then [92, 10] else []) ++ outB q t i)) ++ r)[_]? = _
  rw [List.append_assoc, List.getElem?_append_right (by omega), Nat.add_sub_cancel_left, List.getElem?_append_left hj]
/-- Each place of what is printed lies in a piece. -/
theorem outW_piece (wr : Nat → Bool) (q : Nat) (t : List UInt8) : ∀ (n p : Nat), p < (outW wr q t n).length → ∃ i j, i < n ∧ p = (outW wr q t i).length + j ∧ j < ((if wr i = true then [92, 10] else []) ++ outB q t i).length
  | 0, p, h => by simp [outW] at h
  | n + 1, p, h => by
    by_cases hp : p < (outW wr q t n).length
    · obtain ⟨i, j, h1, h2, h3⟩ := outW_piece wr q t n p hp
      exact ⟨i, j, by omega, h2, h3⟩
    · refine ⟨n, p - (outW wr q t n).length, by omega, by omega, ?_⟩
      unfold outW at h
      rw [List.length_append] at h
      omega
/-- A byte that is no backslash and no line feed, at the head of piece i: the piece is that byte alone. -/
theorem head_plain (wr : Nat → Bool) (q : Nat) (t : List UInt8) {i n : Nat} (h : i < n) {c : UInt8} (hc : (outW wr q t n)[(outW wr q t i).length]? = some c) (h92 : c.toNat ≠ 92) :
    c = t.getD i 0 ∧ ¬ needs q t i ∧ (outW wr q t (i + 1)).length = (outW wr q t i).length + 1 := by
  have h0 := outW_at wr q t h 0 (by have := outB_ne q t i; rw [List.length_append]; omega)
  rw [Nat.add_zero, hc] at h0
  by_cases hw : wr i = true
  · rw [if_pos hw] at h0
    simp at h0
    subst h0
    exact absurd rfl h92
  · rw [if_neg hw] at h0
    by_cases hn : needs q t i
    · unfold outB at h0
      rw [if_pos hn] at h0
      simp at h0
      subst h0
      exact absurd rfl h92
    · unfold outB at h0
      rw [if_neg hn] at h0
      simp at h0
      refine ⟨h0, hn, ?_⟩
      show (outW wr q t i ++ ((if wr i = true then [92, 10] else []) ++ outB q t i)).length = _
      rw [if_neg hw]
      unfold outB
      rw [if_neg hn]
      simp
/-- The last byte of a piece is the text's own. -/
theorem last_own (wr : Nat → Bool) (q : Nat) (t : List UInt8) {i n j : Nat} (h : i < n) (hj : j < ((if wr i = true then [92, 10] else []) ++ outB q t i).length) {c : UInt8} (hc : (outW wr q t n)[(outW wr q t i).length + j]? = some c) (h92 : c.toNat ≠ 92) (h10 : c.toNat ≠ 10) :
    c = t.getD i 0 ∧ (outW wr q t (i + 1)).length = (outW wr q t i).length + j + 1 := by
  have h0 := outW_at wr q t h j hj
  rw [hc] at h0
  have hl : (outW wr q t (i + 1)).length = (outW wr q t i).length + ((if wr i = true then [92, 10] else []) ++ outB q t i).length := by
    show (outW wr q t i ++ _).length = _
    rw [List.length_append]
  by_cases hw : wr i = true <;> by_cases hn : needs q t i <;> simp only [hw, if_true, if_false, outB, hn, Bool.false_eq_true] at h0 hl hj
  · rcases (by simp at hj; omega : j = 0 ∨ j = 1 ∨ j = 2 ∨ j = 3) with rfl | rfl | rfl | rfl
    · simp at h0; subst h0; exact absurd rfl h92
    · simp at h0; subst h0; exact absurd rfl h10
    · simp at h0; subst h0; exact absurd rfl h92
    · simp at h0; exact ⟨h0, by rw [hl]; rfl⟩
  · rcases (by simp at hj; omega : j = 0 ∨ j = 1 ∨ j = 2) with rfl | rfl | rfl
    · simp at h0; subst h0; exact absurd rfl h92
    · simp at h0; subst h0; exact absurd rfl h10
    · simp at h0; exact ⟨h0, by rw [hl]; rfl⟩
  · rcases (by simp at hj; omega : j = 0 ∨ j = 1) with rfl | rfl
    · simp at h0; subst h0; exact absurd rfl h92
    · simp at h0; exact ⟨h0, by rw [hl]; rfl⟩
  · obtain rfl : j = 0 := by simp at hj; omega
    simp at h0
    exact ⟨h0, by rw [hl]; rfl⟩
/-- The quote, the pieces, the quote. -/
def quoted (wr : Nat → Bool) (qb : UInt8) (t : List UInt8) : List UInt8 := qb :: (outW wr qb.toNat t t.length ++ [qb])
theorem step_own (wr : Nat → Bool) (qb : UInt8) (t : List UInt8) {k x : Nat} (hk : k ≤ t.length) (hp : (outW wr qb.toNat t k).length = x) {c : UInt8} (hc : (quoted wr qb t)[x + 1]? = some c) (hq : c ≠ qb) (h92 : c.toNat ≠ 92) :
    k < t.length ∧ c = t.getD k 0 ∧ ¬ needs qb.toNat t k ∧ (outW wr qb.toNat t (k + 1)).length = x + 1 := by
  unfold quoted at hc
  rw [List.getElem?_cons_succ] at hc
  rcases Nat.lt_or_ge k t.length with hlt | hge
  · have hx : x < (outW wr qb.toNat t t.length).length := by
      obtain ⟨r, hr⟩ := outW_split wr qb.toNat t (k + 1) (t.length - (k + 1))
      rw [show k + 1 + (t.length - (k + 1)) = t.length by omega] at hr
      rw [hr, outW_succ, List.length_append, List.length_append, List.length_append]
      have := outB_ne qb.toNat t k
      omega
    rw [List.getElem?_append_left hx, ← hp] at hc
    obtain ⟨h1, h2, h3⟩ := head_plain wr qb.toNat t hlt hc h92
    exact ⟨hlt, h1, h2, by rw [h3, hp]⟩
  · obtain rfl : k = t.length := by omega
    rw [List.getElem?_append_right (by omega), hp, Nat.sub_self] at hc
    simp at hc
    exact absurd hc.symm hq
/-- No '</style' comes up from the opening quote on. -/
theorem no_style (wr : Nat → Bool) (qb : UInt8) (t : List UInt8) (hq : qb.toNat = 34 ∨ qb.toNat = 39) (p : Nat) (hp : p + 7 ≤ (quoted wr qb t).length)
    (h0 : tb (quoted wr qb t) p = 60) (h1 : tb (quoted wr qb t) (p + 1) = 47) : ¬ styleFrom (quoted wr qb t) (p + 2) := by
  intro hs
  obtain ⟨_, s0, s1, s2, s3, s4⟩ := hs
  have get : ∀ x, x < (quoted wr qb t).length → ∃ c, (quoted wr qb t)[x]? = some c ∧ c.toNat = tb (quoted wr qb t) x := fun x hx =>
    ⟨_, List.getElem?_eq_getElem hx, by unfold tb; rw [List.getD_eq_getElem?_getD, List.getElem?_eq_getElem hx]; rfl⟩
  obtain ⟨c, hc, hcv⟩ := get p (by omega)
  rcases p with _ | P
  · unfold quoted at hc
    simp at hc
    subst hc
    omega
  have hlen : (quoted wr qb t).length = (outW wr qb.toNat t t.length).length + 2 := by unfold quoted; simp
  have hc' := hc
  unfold quoted at hc'
  rw [List.getElem?_cons_succ, List.getElem?_append_left (by omega)] at hc'
  obtain ⟨i, j, hi, rfl, hj⟩ := outW_piece wr qb.toNat t t.length P (by omega)
  obtain ⟨e0, l0⟩ := last_own wr qb.toNat t hi hj hc' (by omega) (by omega)
  have ne_q : ∀ c : UInt8, c.toNat ≠ 34 → c.toNat ≠ 39 → c ≠ qb := fun c h1 h2 e => by subst e; omega
  have low : ∀ b m, lowA b = m → 97 ≤ m → b ≠ 92 ∧ b ≠ 34 ∧ b ≠ 39 := fun b m h h2 => by unfold lowA at h; split at h <;> omega
  obtain ⟨c1, hc1, v1⟩ := get _ (show (outW wr qb.toNat t i).length + j + 1 + 1 < _ by omega)
  obtain ⟨k1, e1, n1, l1⟩ := step_own wr qb t (by omega) l0 hc1 (ne_q c1 (by omega) (by omega)) (by omega)
  obtain ⟨c2, hc2, v2⟩ := get _ (show (outW wr qb.toNat t i).length + j + 1 + 2 < _ by omega)
  obtain ⟨a2, b2, d2⟩ := low c2.toNat 115 (by rw [v2]; exact s0) (by omega)
  obtain ⟨k2, e2, _, l2⟩ := step_own wr qb t (by omega) l1 hc2 (ne_q c2 b2 d2) a2
  obtain ⟨c3, hc3, v3⟩ := get _ (show (outW wr qb.toNat t i).length + j + 1 + 2 + 1 < _ by omega)
  obtain ⟨a3, b3, d3⟩ := low c3.toNat 116 (by rw [v3]; exact s1) (by omega)
  obtain ⟨k3, e3, _, l3⟩ := step_own wr qb t (by omega) l2 hc3 (ne_q c3 b3 d3) a3
  obtain ⟨c4, hc4, v4⟩ := get _ (show (outW wr qb.toNat t i).length + j + 1 + 2 + 2 < _ by omega)
  obtain ⟨a4, b4, d4⟩ := low c4.toNat 121 (by rw [v4]; exact s2) (by omega)
  obtain ⟨k4, e4, _, l4⟩ := step_own wr qb t (by omega) l3 hc4 (ne_q c4 b4 d4) a4
  obtain ⟨c5, hc5, v5⟩ := get _ (show (outW wr qb.toNat t i).length + j + 1 + 2 + 3 < _ by omega)
  obtain ⟨a5, b5, d5⟩ := low c5.toNat 108 (by rw [v5]; exact s3) (by omega)
  obtain ⟨k5, e5, _, l5⟩ := step_own wr qb t (by omega) l4 hc5 (ne_q c5 b5 d5) a5
  obtain ⟨c6, hc6, v6⟩ := get _ (show (outW wr qb.toNat t i).length + j + 1 + 2 + 4 < _ by omega)
  obtain ⟨a6, b6, d6⟩ := low c6.toNat 101 (by rw [v6]; exact s4) (by omega)
  obtain ⟨k6, e6, _, l6⟩ := step_own wr qb t (by omega) l5 hc6 (ne_q c6 b6 d6) a6
  have T : ∀ (c : UInt8) k, c = t.getD k 0 → tb t k = c.toNat := fun c k h => by unfold tb; rw [← h]
  refine n1 (.inr (.inr (.inr ⟨by rw [T _ _ e1, v1]; exact h1, by omega, by rw [show i + 1 - 1 = i by omega, T _ _ e0, hcv]; exact h0, by omega, ?_, ?_, ?_, ?_, ?_⟩)))
  · rw [show i + 1 + 1 = i + 1 + 1 from rfl, T _ _ e2, v2]; exact s0
  · rw [T _ _ e3, v3]; exact s1
  · rw [T _ _ e4, v4]; exact s2
  · rw [T _ _ e5, v5]; exact s3
  · rw [T _ _ e6, v6]; exact s4
end Go.Proofs.YtppcjkajjahclaaFmt
