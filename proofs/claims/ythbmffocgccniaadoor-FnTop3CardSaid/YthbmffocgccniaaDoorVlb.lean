/- Bits of small numbers of 64 bits: masks, parts that do not meet. -/
import Derived.Test.YthbmffocgccniaaDoorVlq
import Derived.Laws.BitsAllLaws
namespace Go.Proofs.YthbmffocgccniaaDoor
open Go.RowKit
set_option linter.unusedVariables false
set_option linter.unusedSimpArgs false
theorem wraps_i64 (n : Int) (h₀ : 0 ≤ n) (h₁ : n < 2 ^ 62) : IntKind.i64.wrap n = n := by rw [IntKind.wrap_i64]; omega
theorem and31_i64 (x : Nat) (h : x < 2 ^ 62) : bits .and .i64 (x : Int) 31 = ((x % 32 : Nat) : Int) := by
  have := bits_mask .i64 62 (by decide) wraps_i64 5 (by decide) (x : Int) (by omega) (by omega)
  rw [show ((2 : Int) ^ 5 - 1) = 31 from rfl, show ((2 : Int) ^ 5) = 32 from rfl] at this
  rw [this]; omega
theorem and1_i64 (x : Nat) (h : x < 2 ^ 62) : bits .and .i64 (x : Int) 1 = ((x % 2 : Nat) : Int) := by
  have := bits_mask .i64 62 (by decide) wraps_i64 1 (by decide) (x : Int) (by omega) (by omega)
  rw [show ((2 : Int) ^ 1 - 1) = 1 from rfl, show ((2 : Int) ^ 1) = 2 from rfl] at this
  rw [this]; omega
theorem and32_all : ∀ d : Fin 64, bits .and .i64 ((d.val : Nat) : Int) 32 = if d.val < 32 then 0 else 32 := by decide
theorem and32_i64 (d : Nat) (h : d < 64) : bits .and .i64 (d : Int) 32 = if d < 32 then 0 else 32 := and32_all ⟨d, h⟩
theorem or32_all : ∀ d : Fin 32, bits .or .i64 ((d.val : Nat) : Int) 32 = ((d.val + 32 : Nat) : Int) := by decide
theorem or32_i64 (d : Nat) (h : d < 32) : bits .or .i64 (d : Int) 32 = ((d + 32 : Nat) : Int) := or32_all ⟨d, h⟩
theorem or_i64 (v x i : Nat) (hv : v < 2 ^ i) (h : v + x * 2 ^ i < 2 ^ 62) : bits .or .i64 (v : Int) ((x * 2 ^ i : Nat) : Int) = ((v + x * 2 ^ i : Nat) : Int) := by
  have h1 := (bits_nat .i64 62 (by decide) wraps_i64 v (x * 2 ^ i) (by omega) (by omega)).2
  rw [h1]
  congr 1
  have h2 := Nat.shiftLeft_add_eq_or_of_lt hv x
  rw [Nat.shiftLeft_eq, Nat.or_comm] at h2
  omega
theorem or1_i64 (x : Nat) (h : 2 * x + 1 < 2 ^ 62) : bits .or .i64 ((2 * x : Nat) : Int) 1 = ((2 * x + 1 : Nat) : Int) := by
  have h1 := (bits_nat .i64 62 (by decide) wraps_i64 (2 * x) 1 (by omega) (by omega)).2
  rw [show ((1 : Nat) : Int) = 1 from rfl] at h1
  rw [h1]
  congr 1
  have h2 := Nat.shiftLeft_add_eq_or_of_lt (i := 1) (b := 1) (by omega) x
  rw [Nat.shiftLeft_eq, show x * 2 ^ 1 = 2 * x by omega] at h2
  omega
/-- One step of a reader: u is what is still to be read behind i digits, v what has been. -/
structure Rd (V i u v : Nat) : Prop where
  lt : v < 2 ^ (5 * i)
  eq : V = v + u * 2 ^ (5 * i)
theorem Rd.start (V : Nat) : Rd V 0 V 0 := ⟨by simp, by simp⟩
theorem pow5 (i : Nat) : 2 ^ (5 * (i + 1)) = 32 * 2 ^ (5 * i) := by
  rw [show 5 * (i + 1) = 5 * i + 5 by omega, Nat.pow_add]; omega
theorem Rd.step {V i u v : Nat} (h : Rd V i u v) : Rd V (i + 1) (u / 32) (v + (u % 32) * 2 ^ (5 * i)) := by
  obtain ⟨h1, h2⟩ := h
  have h3 : u % 32 + 1 ≤ 32 := by omega
  have h4 : (u % 32 + 1) * 2 ^ (5 * i) ≤ 32 * 2 ^ (5 * i) := Nat.mul_le_mul_right _ h3
  have h5 : u * 2 ^ (5 * i) = (u % 32) * 2 ^ (5 * i) + (u / 32) * (32 * 2 ^ (5 * i)) := by
    rw [← Nat.mul_assoc, ← Nat.add_mul]
    congr 1; omega
  rw [Nat.add_mul, Nat.one_mul] at h4
  exact ⟨by rw [pow5]; omega, by rw [pow5]; omega⟩
theorem Rd.last {V i u v : Nat} (h : Rd V i u v) (hu : u < 32) : v + (u % 32) * 2 ^ (5 * i) = V := by rw [Nat.mod_eq_of_lt hu]; exact h.eq.symm
theorem Rd.short {V i u v k : Nat} (h : Rd V i u v) (hu : 1 ≤ u) (hV : V < 2 ^ (5 * k)) : i < k := by
  rcases Nat.lt_or_ge i k with h1 | h1
  · exact h1
  · exfalso
    have h2 : 2 ^ (5 * k) ≤ 2 ^ (5 * i) := Nat.pow_le_pow_right (by omega) (by omega)
    have h3 : 1 * 2 ^ (5 * i) ≤ u * 2 ^ (5 * i) := Nat.mul_le_mul_right _ hu
    have := h.eq
    omega
theorem Rd.val_lt {V i u v : Nat} (h : Rd V i u v) : v + (u % 32) * 2 ^ (5 * i) ≤ V := by
  have h3 : (u % 32) * 2 ^ (5 * i) ≤ u * 2 ^ (5 * i) := Nat.mul_le_mul_right _ (Nat.mod_le _ _)
  have := h.eq
  omega
end Go.Proofs.YthbmffocgccniaaDoor
