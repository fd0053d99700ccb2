/- Plain facts for FnAdvanceBytesMatchesLineModel: one pass (breaks, units since the last) against two passes (breaks and the place behind the last; then the units of the last line). -/
import Derived.WalkKit
import Derived.Laws.RangeAny
namespace Go.Proofs.YtkciffbedngdnaaDoor
open Go.RowKit
set_option linter.unusedVariables false

theorem line_width (s : ByteArray) (pos : Nat) (h : pos < s.size) : 1 ≤ (Utf8.decode s pos).2 := by
  by_cases ha : (s[pos]'h).toNat < 128
  · rw [decode_ascii s pos h ha]
    exact Nat.le_refl _
  · exact (decode_high s pos h (by omega)).2
/-- A CR that stands right before an LF. -/
def crlf (s : ByteArray) (pos c : Nat) : Prop := c = 13 ∧ pos + 1 < s.size ∧ (s.get! (pos + 1)).toNat = 10
instance (s : ByteArray) (pos c : Nat) : Decidable (crlf s pos c) := by unfold crlf; infer_instance
/-- A rune that ends a line. -/
def isTerm (c : Nat) : Prop := c = 13 ∨ c = 10 ∨ c = 8232 ∨ c = 8233
instance (c : Nat) : Decidable (isTerm c) := by unfold isTerm; infer_instance
def units (c : Nat) : Nat := if c ≤ 65535 then 1 else 2
/-- From pos on, n breaks and u units behind us, the last line begun at t: what the end will be. -/
def lineF (s : ByteArray) (pos n u t : Nat) : Nat × Nat × Nat :=
  if h : pos < s.size then
    if crlf s pos (Utf8.decode s pos).1 then lineF s (pos + (Utf8.decode s pos).2) n (u + 1) t
    else if isTerm (Utf8.decode s pos).1 then lineF s (pos + (Utf8.decode s pos).2) (n + 1) 0 (pos + (Utf8.decode s pos).2)
    else lineF s (pos + (Utf8.decode s pos).2) n (u + units (Utf8.decode s pos).1) t
  else (n, u, t)
  termination_by s.size - pos
  decreasing_by all_goals (have := line_width s pos h; omega)
/-- The units from pos to the end. -/
def unitsF (s : ByteArray) (pos acc : Nat) : Nat :=
  if h : pos < s.size then unitsF s (pos + (Utf8.decode s pos).2) (acc + units (Utf8.decode s pos).1) else acc
  termination_by s.size - pos
  decreasing_by (have := line_width s pos h; omega)
theorem lineF_end {s : ByteArray} {pos n u t : Nat} (h : ¬ pos < s.size) : lineF s pos n u t = (n, u, t) := by rw [lineF, dif_neg h]
theorem lineF_crlf {s : ByteArray} {pos n u t c wd : Nat} (h : pos < s.size) (hd : Utf8.decode s pos = (c, wd)) (hc : crlf s pos c) : lineF s pos n u t = lineF s (pos + wd) n (u + 1) t := by
  rw [lineF, dif_pos h, hd, if_pos hc]
theorem lineF_brk {s : ByteArray} {pos n u t c wd : Nat} (h : pos < s.size) (hd : Utf8.decode s pos = (c, wd)) (hc : ¬ crlf s pos c) (ht : isTerm c) : lineF s pos n u t = lineF s (pos + wd) (n + 1) 0 (pos + wd) := by
  rw [lineF, dif_pos h, hd, if_neg hc, if_pos ht]
theorem lineF_plain {s : ByteArray} {pos n u t c wd : Nat} (h : pos < s.size) (hd : Utf8.decode s pos = (c, wd)) (ht : ¬ isTerm c) : lineF s pos n u t = lineF s (pos + wd) n (u + units c) t := by
  rw [lineF, dif_pos h, hd, if_neg (fun hc => ht (.inl hc.1)), if_neg ht]
theorem unitsF_end {s : ByteArray} {pos acc : Nat} (h : ¬ pos < s.size) : unitsF s pos acc = acc := by rw [unitsF, dif_neg h]
theorem unitsF_step {s : ByteArray} {pos acc c wd : Nat} (h : pos < s.size) (hd : Utf8.decode s pos = (c, wd)) : unitsF s pos acc = unitsF s (pos + wd) (acc + units c) := by
  rw [unitsF, dif_pos h, hd]
/-- The second pass finds the units that the first one counted. -/
theorem line_units (s : ByteArray) : ∀ (k pos n u t : Nat), s.size - pos ≤ k → unitsF s t 0 = unitsF s pos u → unitsF s (lineF s pos n u t).2.2 0 = (lineF s pos n u t).2.1 := by
  intro k
  induction k with
  | zero =>
    intro pos n u t hk h
    rw [lineF_end (by omega)]
    show unitsF s t 0 = u
    rw [h, unitsF_end (by omega)]
  | succ k ih =>
    intro pos n u t hk h
    by_cases hp : pos < s.size
    · obtain ⟨c, wd, hd⟩ : ∃ c wd, Utf8.decode s pos = (c, wd) := ⟨_, _, rfl⟩
      have hw : 1 ≤ wd := by have := line_width s pos hp; rw [hd] at this; exact this
      by_cases hc : crlf s pos c
      · rw [lineF_crlf hp hd hc]
        refine ih _ _ _ _ (by omega) ?_
        rw [h, unitsF_step hp hd]
        have : units c = 1 := by unfold units; rw [if_pos (by have := hc.1; omega)]
        rw [this]
      · by_cases ht : isTerm c
        · rw [lineF_brk hp hd hc ht]
          exact ih _ _ _ _ (by omega) rfl
        · rw [lineF_plain hp hd ht]
          refine ih _ _ _ _ (by omega) ?_
          rw [h, unitsF_step hp hd]
    · rw [lineF_end hp]
      show unitsF s t 0 = u
      rw [h, unitsF_end hp]
/-- Where no break has come the line begins at the start. -/
theorem line_start (s : ByteArray) : ∀ (k pos n u t : Nat), s.size - pos ≤ k → (n = 0 → t = 0) → ((lineF s pos n u t).1 = 0 → (lineF s pos n u t).2.2 = 0) := by
  intro k
  induction k with
  | zero => intro pos n u t hk h; rw [lineF_end (by omega)]; exact h
  | succ k ih =>
    intro pos n u t hk h
    by_cases hp : pos < s.size
    · obtain ⟨c, wd, hd⟩ : ∃ c wd, Utf8.decode s pos = (c, wd) := ⟨_, _, rfl⟩
      have hw : 1 ≤ wd := by have := line_width s pos hp; rw [hd] at this; exact this
      by_cases hc : crlf s pos c
      · rw [lineF_crlf hp hd hc]; exact ih _ _ _ _ (by omega) h
      · by_cases ht : isTerm c
        · rw [lineF_brk hp hd hc ht]; exact ih _ _ _ _ (by omega) (fun h => by omega)
        · rw [lineF_plain hp hd ht]; exact ih _ _ _ _ (by omega) h
    · rw [lineF_end hp]; exact h
end Go.Proofs.YtkciffbedngdnaaDoor
