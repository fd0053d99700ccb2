/- Plain facts: advancing over two texts, one after the other, where the first is well-formed and no CR LF pair is cut. -/
import Derived.Test.YtniamejelnmdgaaAdv
import Derived.Test.YtniamejelnmdgaaDec
namespace Go.Proofs.Ytniamejelnmdgaa
open Go.RowKit
set_option linter.unusedVariables false

theorem okTok_err : okTok 65533 1 = false := rfl
def validTo (s : ByteArray) : Nat → Nat → Bool
  | 0, _ => true
  | f + 1, pos => if pos < s.size then okTok (Utf8.decode s pos).1 (Utf8.decode s pos).2 && validTo s f (pos + (Utf8.decode s pos).2) else true

theorem advStep_shift (s : ByteArray) (pos c n u : Nat) : advStep s pos c n u = ((advStep s pos c 0 0).1 + n, if (advStep s pos c 0 0).1 = 0 then u + (advStep s pos c 0 0).2 else (advStep s pos c 0 0).2) := by
  unfold advStep
  by_cases h1 : c = 13 ∧ pos + 1 < s.size ∧ (s.get! (pos + 1)).toNat = 10
  · simp [h1]
  · simp only [h1, if_false]
    by_cases h2 : c = 13 ∨ c = 10 ∨ c = 8232 ∨ c = 8233
    · simp [h2]; omega
    · simp only [h2, if_false]
      by_cases h3 : c ≤ 65535 <;> simp [h3]
theorem advTo_shift (s : ByteArray) (f : Nat) : ∀ pos n u, advTo s f pos n u = ((advTo s f pos 0 0).1 + n, if (advTo s f pos 0 0).1 = 0 then u + (advTo s f pos 0 0).2 else (advTo s f pos 0 0).2) := by
  induction f with
  | zero => intro pos n u; simp [advTo]
  | succ f ih =>
    intro pos n u
    by_cases hp : pos < s.size
    · have e1 : advTo s (f + 1) pos n u = advTo s f (pos + (Utf8.decode s pos).2) (advStep s pos (Utf8.decode s pos).1 n u).1 (advStep s pos (Utf8.decode s pos).1 n u).2 := by rw [advTo, if_pos hp]
      have e2 : advTo s (f + 1) pos 0 0 = advTo s f (pos + (Utf8.decode s pos).2) (advStep s pos (Utf8.decode s pos).1 0 0).1 (advStep s pos (Utf8.decode s pos).1 0 0).2 := by rw [advTo, if_pos hp]
      rw [e1, e2, ih _ (advStep s pos (Utf8.decode s pos).1 n u).1, ih _ (advStep s pos (Utf8.decode s pos).1 0 0).1, advStep_shift s pos _ n u]
      generalize advStep s pos (Utf8.decode s pos).1 0 0 = p
      generalize advTo s f (pos + (Utf8.decode s pos).2) 0 0 = q
      obtain ⟨a, b⟩ := p
      obtain ⟨x, y⟩ := q
      simp only [Prod.mk.injEq]
      refine ⟨by omega, ?_⟩
      by_cases hx : x = 0 <;> by_cases ha : a = 0 <;> simp [hx, ha] <;> omega
    · rw [advTo_end s _ pos n u hp, advTo_end s _ pos 0 0 hp]; simp
theorem advTo_fuel (s : ByteArray) (f : Nat) : ∀ g pos n u, s.size ≤ pos + f → s.size ≤ pos + g → advTo s f pos n u = advTo s g pos n u := by
  induction f with
  | zero => intro g pos n u h1 h2; rw [advTo_end s g pos n u (by omega)]; rfl
  | succ f ih =>
    intro g pos n u h1 h2
    by_cases hp : pos < s.size
    · have hw := adv_width s pos hp
      cases g with
      | zero => omega
      | succ g =>
        rw [advTo, if_pos hp, advTo, if_pos hp]
        exact ih _ _ _ _ (by omega) (by omega)
    · rw [advTo_end s _ pos n u hp, advTo_end s _ pos n u hp]

theorem dec_ok (b0 b1 b2 b3 n c1 c2 c3 m c w : Nat) (h : dec b0 b1 b2 b3 n = (c, w)) (hok : okTok c w = true) (hn : 1 ≤ n) (hm : n ≤ m)
    (h1 : 1 < n → c1 = b1) (h2 : 2 < n → c2 = b2) (h3 : 3 < n → c3 = b3) : dec b0 c1 c2 c3 m = (c, w) ∧ w ≤ n := by
  have bad : ∀ {P : Prop}, (65533, 1) = (c, w) → P := fun hh => by
    simp only [Prod.mk.injEq] at hh
    rw [← hh.1, ← hh.2] at hok
    exact absurd hok (by decide)
  unfold dec at h
  by_cases a0 : b0 < 128
  · rw [if_pos a0] at h
    unfold dec
    rw [if_pos a0]
    simp only [Prod.mk.injEq] at h
    exact ⟨by rw [h.1, h.2], by omega⟩
  · rw [if_neg a0] at h
    by_cases a1 : b0 / 32 = 6 ∧ 1 < n ∧ b1 / 64 = 2
    · rw [if_pos a1] at h
      by_cases a2 : 128 ≤ (b0 % 32) * 64 + b1 % 64
      · rw [if_pos a2] at h
        obtain rfl := h1 a1.2.1
        unfold dec
        rw [if_neg a0, if_pos ⟨a1.1, by omega, a1.2.2⟩, if_pos a2]
        simp only [Prod.mk.injEq] at h
        exact ⟨by rw [h.1, h.2], by omega⟩
      · rw [if_neg a2] at h; exact bad h
    · rw [if_neg a1] at h
      by_cases a3 : b0 / 16 = 14 ∧ (1 < n ∧ b1 / 64 = 2) ∧ (2 < n ∧ b2 / 64 = 2)
      · rw [if_pos a3] at h
        split at h
        · rename_i a4
          obtain rfl := h1 a3.2.1.1
          obtain rfl := h2 a3.2.2.1
          unfold dec
          rw [if_neg a0, if_neg (by omega), if_pos ⟨a3.1, ⟨by omega, a3.2.1.2⟩, by omega, a3.2.2.2⟩, if_pos a4]
          simp only [Prod.mk.injEq] at h
          exact ⟨by rw [h.1, h.2], by omega⟩
        · exact bad h
      · rw [if_neg a3] at h
        by_cases a5 : b0 / 8 = 30 ∧ (1 < n ∧ b1 / 64 = 2) ∧ (2 < n ∧ b2 / 64 = 2) ∧ (3 < n ∧ b3 / 64 = 2)
        · rw [if_pos a5] at h
          split at h
          · rename_i a6
            obtain rfl := h1 a5.2.1.1
            obtain rfl := h2 a5.2.2.1.1
            obtain rfl := h3 a5.2.2.2.1
            unfold dec
            rw [if_neg a0, if_neg (by omega), if_neg (by omega), if_pos ⟨a5.1, ⟨by omega, a5.2.1.2⟩, ⟨by omega, a5.2.2.1.2⟩, by omega, a5.2.2.2.2⟩, if_pos a6]
            simp only [Prod.mk.injEq] at h
            exact ⟨by rw [h.1, h.2], by omega⟩
          · exact bad h
        · rw [if_neg a5] at h; exact bad h

theorem size_app (s t : ByteArray) : (s ++ t).size = s.size + t.size := ByteArray.size_append
theorem byteAt_left (s t : ByteArray) (k : Nat) (h : k < s.size) : byteAt (s ++ t) k = byteAt s k := by
  rw [byteAt_eq _ _ (by rw [size_app]; omega), byteAt_eq _ _ h, ByteArray.getElem_append_left h]
theorem byteAt_right (s t : ByteArray) (k : Nat) (h : k < t.size) : byteAt (s ++ t) (s.size + k) = byteAt t k := by
  rw [byteAt_eq _ _ (by rw [size_app]; omega), byteAt_eq _ _ h, ByteArray.getElem_append_right (by omega)]
  congr 2
  omega
theorem dec_far (b0 b1 b2 b3 n c1 c2 c3 : Nat) (h1 : 1 < n → c1 = b1) (h2 : 2 < n → c2 = b2) (h3 : 3 < n → c3 = b3) : dec b0 c1 c2 c3 n = dec b0 b1 b2 b3 n := by
  unfold dec
  by_cases g1 : 1 < n
  · obtain rfl := h1 g1
    by_cases g2 : 2 < n
    · obtain rfl := h2 g2
      by_cases g3 : 3 < n
      · obtain rfl := h3 g3; rfl
      · simp [g3]
    · have g3 : ¬ 3 < n := by omega
      simp [g2, g3]
  · have g2 : ¬ 2 < n := by omega
    have g3 : ¬ 3 < n := by omega
    simp [g1, g2, g3]
theorem decode_right (s t : ByteArray) (q : Nat) (h : q < t.size) : Utf8.decode (s ++ t) (s.size + q) = Utf8.decode t q := by
  rw [decode_dec, decode_dec, byteAt_right s t q h, size_app, show s.size + t.size - (s.size + q) = t.size - q by omega]
  exact dec_far _ _ _ _ _ _ _ _ (fun g => byteAt_right s t (q + 1) (by omega)) (fun g => byteAt_right s t (q + 2) (by omega)) (fun g => byteAt_right s t (q + 3) (by omega))
theorem decode_left (s t : ByteArray) (pos : Nat) (h : pos < s.size) (hok : okTok (Utf8.decode s pos).1 (Utf8.decode s pos).2 = true) :
    Utf8.decode (s ++ t) pos = Utf8.decode s pos ∧ pos + (Utf8.decode s pos).2 ≤ s.size := by
  have hd := decode_dec s pos
  obtain ⟨c, w, e⟩ : ∃ c w, Utf8.decode s pos = (c, w) := ⟨_, _, rfl⟩
  rw [e] at hok hd ⊢
  have := dec_ok (byteAt s pos) (byteAt s (pos + 1)) (byteAt s (pos + 2)) (byteAt s (pos + 3)) (s.size - pos) (byteAt (s ++ t) (pos + 1)) (byteAt (s ++ t) (pos + 2)) (byteAt (s ++ t) (pos + 3)) ((s ++ t).size - pos) c w hd.symm hok (by omega) (by rw [size_app]; omega)
    (fun g => byteAt_left s t _ (by omega)) (fun g => byteAt_left s t _ (by omega)) (fun g => byteAt_left s t _ (by omega))
  refine ⟨?_, by simp only; omega⟩
  rw [decode_dec, byteAt_left s t pos h]
  exact this.1

theorem advStep_right (s t : ByteArray) (q c n u : Nat) : advStep (s ++ t) (s.size + q) c n u = advStep t q c n u := by
  unfold advStep
  have e : (c = 13 ∧ s.size + q + 1 < (s ++ t).size ∧ ((s ++ t).get! (s.size + q + 1)).toNat = 10) = (c = 13 ∧ q + 1 < t.size ∧ (t.get! (q + 1)).toNat = 10) := by
    rw [eq_iff_iff, size_app]
    constructor
    · rintro ⟨a, b, d⟩
      refine ⟨a, by omega, ?_⟩
      have := byteAt_right s t (q + 1) (by omega)
      unfold byteAt at this
      rw [← this]; exact d
    · rintro ⟨a, b, d⟩
      refine ⟨a, by omega, ?_⟩
      have := byteAt_right s t (q + 1) (by omega)
      unfold byteAt at this
      rw [← this] at d; exact d
  simp only [e]
theorem advTo_right (s t : ByteArray) (f : Nat) : ∀ q n u, advTo (s ++ t) f (s.size + q) n u = advTo t f q n u := by
  induction f with
  | zero => intro q n u; rfl
  | succ f ih =>
    intro q n u
    by_cases hq : q < t.size
    · rw [advTo, if_pos (by rw [size_app]; omega), advTo, if_pos hq, decode_right s t q hq, advStep_right, Nat.add_assoc, ih]
    · rw [advTo_end _ _ _ _ _ (by rw [size_app]; omega), advTo_end _ _ _ _ _ hq]
/-- No CR LF pair is cut: it is not so that s ends in CR and t begins with LF. -/
def NoCut (s t : ByteArray) : Prop := ¬ (0 < s.size ∧ byteAt s (s.size - 1) = 13 ∧ 0 < t.size ∧ byteAt t 0 = 10)
theorem decode_13 (s : ByteArray) (pos w : Nat) (h : Utf8.decode s pos = (13, w)) : byteAt s pos = 13 := by
  rw [decode_dec] at h
  unfold dec at h
  by_cases a0 : byteAt s pos < 128
  · rw [if_pos a0] at h; simp only [Prod.mk.injEq] at h; exact h.1
  · rw [if_neg a0] at h
    repeat' split at h
    all_goals (simp only [Prod.mk.injEq] at h; omega)
theorem advStep_left (s t : ByteArray) (pos w n u : Nat) (c : Nat) (hp : pos < s.size) (hd : Utf8.decode s pos = (c, w)) (hc : NoCut s t) : advStep (s ++ t) pos c n u = advStep s pos c n u := by
  unfold advStep
  have e : (c = 13 ∧ pos + 1 < (s ++ t).size ∧ ((s ++ t).get! (pos + 1)).toNat = 10) = (c = 13 ∧ pos + 1 < s.size ∧ (s.get! (pos + 1)).toNat = 10) := by
    rw [eq_iff_iff, size_app]
    constructor
    · rintro ⟨rfl, b, d⟩
      by_cases hl : pos + 1 < s.size
      · have := byteAt_left s t (pos + 1) hl
        unfold byteAt at this
        exact ⟨rfl, hl, by rw [← this]; exact d⟩
      · exfalso
        apply hc
        have h13 := decode_13 s pos w hd
        have he : pos + 1 = s.size + 0 := by omega
        have := byteAt_right s t 0 (by omega)
        unfold byteAt at this
        rw [he, this] at d
        exact ⟨by omega, by rw [show s.size - 1 = pos by omega]; exact h13, by omega, d⟩
    · rintro ⟨a, b, d⟩
      have := byteAt_left s t (pos + 1) b
      unfold byteAt at this
      exact ⟨a, by omega, by rw [this]; exact d⟩
  simp only [e]
theorem advTo_left (s t : ByteArray) (hc : NoCut s t) (f : Nat) : ∀ g pos n u, pos ≤ s.size → s.size ≤ pos + f → validTo s f pos = true → (s ++ t).size ≤ pos + g →
    advTo (s ++ t) g pos n u = advTo (s ++ t) (s ++ t).size s.size (advTo s f pos n u).1 (advTo s f pos n u).2 := by
  induction f with
  | zero =>
    intro g pos n u h1 h2 _ h3
    obtain rfl : pos = s.size := by omega
    exact advTo_fuel _ _ _ _ _ _ h3 (by omega)
  | succ f ih =>
    intro g pos n u h1 h2 hv h3
    by_cases hp : pos < s.size
    · rw [validTo, if_pos hp, Bool.and_eq_true] at hv
      obtain ⟨hok, hv⟩ := hv
      obtain ⟨e, hle⟩ := decode_left s t pos hp hok
      have hw := adv_width s pos hp
      cases g with
      | zero => rw [size_app] at h3; omega
      | succ g =>
        rw [advTo, if_pos (by rw [size_app]; omega), e, advStep_left s t pos (Utf8.decode s pos).2 n u (Utf8.decode s pos).1 hp rfl hc]
        rw [ih g _ _ _ hle (by omega) hv (by omega)]
        have e2 : advTo s (f + 1) pos n u = advTo s f (pos + (Utf8.decode s pos).2) (advStep s pos (Utf8.decode s pos).1 n u).1 (advStep s pos (Utf8.decode s pos).1 n u).2 := by rw [advTo, if_pos hp]
        rw [e2]
    · obtain rfl : pos = s.size := by omega
      rw [advTo_end s _ _ _ _ hp]
      exact advTo_fuel _ _ _ _ _ _ h3 (by omega)
/-- The whole: over s ++ t one comes to what s gives, gone on over t. -/
theorem adv_app (s t : ByteArray) (hc : NoCut s t) (hv : validTo s s.size 0 = true) (a b x y : Nat) (h1 : advTo s s.size 0 0 0 = (a, b)) (h2 : advTo t t.size 0 0 0 = (x, y)) :
    advTo (s ++ t) (s ++ t).size 0 0 0 = (x + a, if x = 0 then b + y else y) := by
  rw [advTo_left s t hc s.size _ 0 0 0 (by omega) (by omega) hv (by omega), h1]
  have := advTo_right s t (s ++ t).size 0 a b
  rw [Nat.add_zero] at this
  rw [this, advTo_fuel t _ t.size 0 a b (by rw [size_app]; omega) (by omega), advTo_shift, h2]
end Go.Proofs.Ytniamejelnmdgaa
