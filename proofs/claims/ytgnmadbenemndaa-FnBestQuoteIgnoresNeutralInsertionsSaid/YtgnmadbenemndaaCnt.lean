/- Plain facts: counting bytes of a kind in a text; ASCII bytes are counted alike by runes and by bytes. -/
import Derived.Test.YtgnmadbenemndaaDec
import Derived.Test.YtgnmadbenemndaaWords
namespace Go.Proofs.Ytgnmadbenemndaa
open Go.RowKit
set_option linter.unusedVariables false
set_option linter.unusedSimpArgs false

def cntTo (p : Nat → Bool) (s : ByteArray) : Nat → Nat
  | 0 => 0
  | k + 1 => cntTo p s k + if p (byteAt s k) = true then 1 else 0
theorem cntTo_le (p : Nat → Bool) (s : ByteArray) (k : Nat) : cntTo p s k ≤ k := by
  induction k with
  | zero => simp [cntTo]
  | succ k ih => rw [cntTo]; split <;> omega
theorem size_app (s t : ByteArray) : (s ++ t).size = s.size + t.size := ByteArray.size_append
theorem byteAt_left (s t : ByteArray) (k : Nat) (h : k < s.size) : byteAt (s ++ t) k = byteAt s k := by
  rw [byteAt_eq _ _ (by rw [size_app]; omega), byteAt_eq _ _ h, ByteArray.getElem_append_left h]
theorem byteAt_right (s t : ByteArray) (k : Nat) (h : k < t.size) : byteAt (s ++ t) (s.size + k) = byteAt t k := by
  rw [byteAt_eq _ _ (by rw [size_app]; omega), byteAt_eq _ _ h, ByteArray.getElem_append_right (by omega)]
  congr 2
  omega
theorem cnt_left (p : Nat → Bool) (s t : ByteArray) (k : Nat) (h : k ≤ s.size) : cntTo p (s ++ t) k = cntTo p s k := by
  induction k with
  | zero => rfl
  | succ k ih => rw [cntTo, cntTo, ih (by omega), byteAt_left s t k (by omega)]
theorem cnt_right (p : Nat → Bool) (s t : ByteArray) (k : Nat) (h : k ≤ t.size) : cntTo p (s ++ t) (s.size + k) = cntTo p s s.size + cntTo p t k := by
  induction k with
  | zero => rw [Nat.add_zero, cnt_left p s t s.size (Nat.le_refl _)]; rfl
  | succ k ih => rw [← Nat.add_assoc, cntTo, cntTo, ih (by omega), byteAt_right s t k (by omega), Nat.add_assoc]
theorem cnt_app (p : Nat → Bool) (s t : ByteArray) : cntTo p (s ++ t) (s ++ t).size = cntTo p s s.size + cntTo p t t.size := by
  rw [size_app]; exact cnt_right p s t t.size (Nat.le_refl _)
theorem cnt_none (p : Nat → Bool) (s : ByteArray) (k : Nat) (h : ∀ i, i < k → p (byteAt s i) = false) : cntTo p s k = 0 := by
  induction k with
  | zero => rfl
  | succ k ih => rw [cntTo, ih (fun i hi => h i (by omega)), h k (by omega)]; simp
/-- A rune of more than one byte is all beyond ASCII, and lies within the text. -/
theorem dec_tail (b0 b1 b2 b3 n c wd : Nat) (hn : 1 ≤ n) (h : dec b0 b1 b2 b3 n = (c, wd)) : wd ≤ n ∧ (2 ≤ wd → 128 ≤ b1) ∧ (3 ≤ wd → 128 ≤ b2) ∧ (4 ≤ wd → 128 ≤ b3) := by
  unfold dec at h
  by_cases a0 : b0 < 128
  · rw [if_pos a0] at h; simp only [Prod.mk.injEq] at h; omega
  · rw [if_neg a0] at h
    by_cases a1 : b0 / 32 = 6 ∧ 1 < n ∧ b1 / 64 = 2
    · rw [if_pos a1] at h
      split at h <;> (simp only [Prod.mk.injEq] at h; omega)
    · rw [if_neg a1] at h
      by_cases a2 : b0 / 16 = 14 ∧ (1 < n ∧ b1 / 64 = 2) ∧ (2 < n ∧ b2 / 64 = 2)
      · rw [if_pos a2] at h
        split at h <;> (simp only [Prod.mk.injEq] at h; omega)
      · rw [if_neg a2] at h
        by_cases a3 : b0 / 8 = 30 ∧ (1 < n ∧ b1 / 64 = 2) ∧ (2 < n ∧ b2 / 64 = 2) ∧ (3 < n ∧ b3 / 64 = 2)
        · rw [if_pos a3] at h
          split at h <;> (simp only [Prod.mk.injEq] at h; omega)
        · rw [if_neg a3] at h
          simp only [Prod.mk.injEq] at h; omega
theorem rune_tail (s : ByteArray) (pos c wd : Nat) (hp : pos < s.size) (hd : Utf8.decode s pos = (c, wd)) : pos + wd ≤ s.size ∧ 1 ≤ wd ∧ wd ≤ 4 ∧ ((byteAt s pos < 128 ∧ c = byteAt s pos ∧ wd = 1) ∨ (128 ≤ c ∧ ∀ j, j < wd → 128 ≤ byteAt s (pos + j))) := by
  have h4 : wd ≤ 4 := by have := decode_width s pos; rw [hd] at this; exact this
  have h5 := hd
  rw [decode_dec] at h5
  have ht := dec_tail _ _ _ _ _ _ _ (by omega) h5
  by_cases ha : (s[pos]'hp).toNat < 128
  · have e := byteAt_eq s pos hp
    rw [decode_ascii s pos hp ha] at hd
    simp only [Prod.mk.injEq] at hd
    exact ⟨by omega, by omega, h4, .inl ⟨by omega, by omega, by omega⟩⟩
  · have e := byteAt_eq s pos hp
    have h6 := decode_high s pos hp (by omega)
    rw [hd] at h6
    simp only at h6
    refine ⟨by omega, h6.2, h4, .inr ⟨h6.1, fun j hj => ?_⟩⟩
    match j, hj with
    | 0, _ => rw [Nat.add_zero]; omega
    | 1, _ => exact ht.2.1 (by omega)
    | 2, _ => exact ht.2.2.1 (by omega)
    | 3, _ => exact ht.2.2.2 (by omega)
    | j + 4, _ => omega
theorem cnt_more (p : Nat → Bool) (s : ByteArray) (pos n : Nat) (h : ∀ j, j < n → p (byteAt s (pos + j)) = false) : cntTo p s (pos + n) = cntTo p s pos := by
  induction n with
  | zero => rfl
  | succ n ih => rw [← Nat.add_assoc, cntTo, ih (fun j hj => h j (by omega)), h n (by omega)]; simp
theorem cnt_rune (p : Nat → Bool) (hp : ∀ x, 128 ≤ x → p x = false) (s : ByteArray) (pos c wd : Nat) (hlt : pos < s.size) (hd : Utf8.decode s pos = (c, wd)) : cntTo p s (pos + wd) = cntTo p s pos + if p c = true then 1 else 0 := by
  obtain ⟨_, _, _, ⟨h1, rfl, rfl⟩ | ⟨h1, h2⟩⟩ := rune_tail s pos c wd hlt hd
  · rw [cntTo]
  · rw [cnt_more p s pos wd (fun j hj => hp _ (h2 j hj)), hp c h1]; simp
end Go.Proofs.Ytgnmadbenemndaa
