/- Plain facts: runs of decimal digits, their value, and how strconv.Atoi ends at them. -/
import Derived.Lib.AtoiAllCases
namespace Go.Proofs.YtanhijhhceakjaaDoor
set_option linter.unusedVariables false
set_option linter.unusedSimpArgs false
def isD (c : UInt8) : Bool := decide (48 ≤ c.toNat ∧ c.toNat ≤ 57)
def digL (l : List UInt8) : Bool := l.all isD
def decL (acc : Nat) (l : List UInt8) : Nat := l.foldl (fun a c => a * 10 + (c.toNat - 48)) acc
theorem decL_nil (acc : Nat) : decL acc [] = acc := List.foldl_nil
theorem decL_cons (acc : Nat) (c : UInt8) (r : List UInt8) : decL acc (c :: r) = decL (acc * 10 + (c.toNat - 48)) r := List.foldl_cons
theorem decL_ge (l : List UInt8) : ∀ acc, acc ≤ decL acc l := by
  induction l with
  | nil => intro acc; rw [decL_nil]; exact Nat.le_refl _
  | cons c r ih => intro acc; have := ih (acc * 10 + (c.toNat - 48)); rw [decL_cons]; omega
theorem decL_append (l r : List UInt8) : ∀ acc, decL acc (l ++ r) = decL (decL acc l) r := by
  induction l with
  | nil => intro acc; rw [List.nil_append, decL_nil]
  | cons d t ih => intro acc; rw [List.cons_append, decL_cons, decL_cons]; exact ih _
theorem decL_snoc (l : List UInt8) (c : UInt8) (acc : Nat) : decL acc (l ++ [c]) = decL acc l * 10 + (c.toNat - 48) := by
  rw [decL_append, decL_cons, decL_nil]
theorem parse_dig (l : List UInt8) : ∀ acc, acc < 18446744073709551616 → digL l = true → Lib.parseUint10 acc l = if decL acc l < 18446744073709551616 then .ok (decL acc l) else .range := by
  induction l with
  | nil => intro acc ha _; rw [decL_nil, if_pos ha, Lib.parseUint10]
  | cons c r ih =>
    intro acc ha h
    simp only [digL, List.all_cons, Bool.and_eq_true] at h
    have h1 : 48 ≤ c.toNat ∧ c.toNat ≤ 57 := by simpa [isD] using h.1
    have hge := decL_ge r (acc * 10 + (c.toNat - 48))
    rw [decL_cons, Lib.parseUint10, if_pos h1]
    generalize hX : decL (acc * 10 + (c.toNat - 48)) r = X at hge
    by_cases q1 : 1844674407370955162 ≤ acc
    · rw [if_pos q1, if_neg (by omega)]
    · rw [if_neg q1]
      by_cases q2 : 18446744073709551616 ≤ acc * 10 + (c.toNat - 48)
      · rw [if_pos q2, if_neg (by omega)]
      · rw [if_neg q2, ← hX]; exact ih _ (by omega) h.2
theorem atoi_dig (l : List UInt8) (hne : l ≠ []) (h : digL l = true) : Lib.atoiAll l = if decL 0 l < 9223372036854775808 then .ok (decL 0 l : Int) else .range := by
  cases l with
  | nil => exact absurd rfl hne
  | cons c r =>
    have h1 : 48 ≤ c.toNat ∧ c.toNat ≤ 57 := by simp only [digL, List.all_cons, Bool.and_eq_true] at h; simpa [isD] using h.1
    rw [Lib.atoiAll_plain c r (by omega) (by omega), Lib.parseMag, if_neg (by simp), parse_dig (c :: r) 0 (by omega) h]
    by_cases q : decL 0 (c :: r) < 18446744073709551616
    · rw [if_pos q]
      simp only [Lib.signless]
      by_cases q2 : decL 0 (c :: r) < 9223372036854775808
      · rw [if_neg (by omega), if_pos q2]
      · rw [if_pos (by omega), if_neg q2]
    · rw [if_neg q, if_neg (by omega)]; rfl
theorem sat_dig (l : List UInt8) (h : digL l = true) : Lib.atoiSat l = 9223372036854775807 := by
  cases l with
  | nil => rfl
  | cons c r =>
    have h1 : 48 ≤ c.toNat ∧ c.toNat ≤ 57 := by simp only [digL, List.all_cons, Bool.and_eq_true] at h; simpa [isD] using h.1
    exact Lib.atoiSat_other c r (by omega)
/-- What preReleasePartToNumber answers. -/
def prN (l : List UInt8) : Int := if digL l = true ∧ l ≠ [] then (if decL 0 l < 9223372036854775808 then (decL 0 l : Int) else 9223372036854775807) else 0
def prB (l : List UInt8) : Bool := decide (digL l = true ∧ l ≠ [] ∧ decL 0 l < 9223372036854775808)
theorem prN_bounds (l : List UInt8) : 0 ≤ prN l ∧ prN l ≤ 9223372036854775807 := by
  unfold prN; split
  · split <;> omega
  · omega
end Go.Proofs.YtanhijhhceakjaaDoor
