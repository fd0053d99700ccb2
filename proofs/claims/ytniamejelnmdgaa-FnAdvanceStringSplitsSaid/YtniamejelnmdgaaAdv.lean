/- Plain facts on how a text moves a line and column: the count of line breaks and the UTF-16 length since the last one. -/
import Derived.WalkKit
import Derived.Laws.RangeAny
namespace Go.Proofs.Ytniamejelnmdgaa
open Go.RowKit

/-- One token's effect on (breaks, units since the last break): the rune c at pos. -/
def advStep (s : ByteArray) (pos c : Nat) (n u : Nat) : Nat × Nat :=
  if c = 13 ∧ pos + 1 < s.size ∧ (s.get! (pos + 1)).toNat = 10 then (n, u + 1)
  else if c = 13 ∨ c = 10 ∨ c = 8232 ∨ c = 8233 then (n + 1, 0)
  else if c ≤ 65535 then (n, u + 1) else (n, u + 2)

def advTo (s : ByteArray) : Nat → Nat → Nat → Nat → Nat × Nat
  | 0, _, n, u => (n, u)
  | f + 1, pos, n, u => if pos < s.size then advTo s f (pos + (Utf8.decode s pos).2) (advStep s pos (Utf8.decode s pos).1 n u).1 (advStep s pos (Utf8.decode s pos).1 n u).2 else (n, u)

theorem adv_width (s : ByteArray) (pos : Nat) (h : pos < s.size) : 1 ≤ (Utf8.decode s pos).2 := by
  by_cases ha : (s[pos]'h).toNat < 128
  · rw [decode_ascii s pos h ha]
    exact Nat.le_refl _
  · exact (decode_high s pos h (by omega)).2

theorem advTo_end (s : ByteArray) (f pos n u : Nat) (h : ¬ pos < s.size) : advTo s f pos n u = (n, u) := by
  cases f with
  | zero => rfl
  | succ f => rw [advTo, if_neg h]

theorem advStep_le (s : ByteArray) (pos c n u : Nat) : (advStep s pos c n u).1 ≤ n + 1 ∧ (advStep s pos c n u).2 ≤ u + 2 := by
  unfold advStep
  split
  · exact ⟨by simp, by simp⟩
  · split
    · exact ⟨by simp, by simp⟩
    · split <;> exact ⟨by simp, by simp⟩

theorem advTo_le (s : ByteArray) (f : Nat) : ∀ pos n u, (advTo s f pos n u).1 ≤ n + f ∧ (advTo s f pos n u).2 ≤ u + 2 * f := by
  induction f with
  | zero => intro pos n u; simp [advTo]
  | succ f ih =>
    intro pos n u
    rw [advTo]
    split
    · have h1 := advStep_le s pos (Utf8.decode s pos).1 n u
      have h2 := ih (pos + (Utf8.decode s pos).2) (advStep s pos (Utf8.decode s pos).1 n u).1 (advStep s pos (Utf8.decode s pos).1 n u).2
      omega
    · exact ⟨by omega, by omega⟩

/-- Where one was before, at or past (n, u) in the lexicographic order, one stays; a step goes strictly on. -/
theorem advStep_pos (s : ByteArray) (pos c n u : Nat) : n < (advStep s pos c n u).1 ∨ (advStep s pos c n u).1 = n ∧ u < (advStep s pos c n u).2 := by
  unfold advStep
  split
  · right; exact ⟨rfl, by simp⟩
  · split
    · left; simp
    · split
      · right; exact ⟨rfl, by simp⟩
      · right; exact ⟨rfl, by simp⟩
theorem advTo_mono (s : ByteArray) (f : Nat) : ∀ pos n u, n < (advTo s f pos n u).1 ∨ (advTo s f pos n u).1 = n ∧ u ≤ (advTo s f pos n u).2 := by
  induction f with
  | zero => intro pos n u; right; exact ⟨rfl, Nat.le_refl _⟩
  | succ f ih =>
    intro pos n u
    rw [advTo]
    split
    · have h1 := advStep_pos s pos (Utf8.decode s pos).1 n u
      have h2 := ih (pos + (Utf8.decode s pos).2) (advStep s pos (Utf8.decode s pos).1 n u).1 (advStep s pos (Utf8.decode s pos).1 n u).2
      omega
    · right; exact ⟨rfl, Nat.le_refl _⟩
/-- A non-empty text moves on. -/
theorem advTo_moves (s : ByteArray) (h : 0 < s.size) : 0 < (advTo s s.size 0 0 0).1 ∨ 0 < (advTo s s.size 0 0 0).2 := by
  obtain ⟨f, hf⟩ : ∃ f, s.size = f + 1 := ⟨s.size - 1, by omega⟩
  have e : advTo s s.size 0 0 0 = advTo s (f + 1) 0 0 0 := by rw [hf]
  rw [e, advTo, if_pos h]
  have h1 := advStep_pos s 0 (Utf8.decode s 0).1 0 0
  have h2 := advTo_mono s f (0 + (Utf8.decode s 0).2) (advStep s 0 (Utf8.decode s 0).1 0 0).1 (advStep s 0 (Utf8.decode s 0).1 0 0).2
  omega

/-- The column from which one goes on after n breaks. -/
def advBase (C : Int) (n : Nat) : Int := if n = 0 then C else 0
end Go.Proofs.Ytniamejelnmdgaa
