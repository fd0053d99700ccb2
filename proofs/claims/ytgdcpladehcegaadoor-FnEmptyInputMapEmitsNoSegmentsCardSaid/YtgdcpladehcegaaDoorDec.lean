/- Plain facts: the model's UTF-8 decoder by its bytes, path by path. -/
import Derived.WalkKit
import Derived.Laws.RangeAny
namespace Go.Proofs.YtgdcpladehcegaaDoor
open Go.RowKit
set_option linter.unusedVariables false
set_option linter.unusedSimpArgs false

def dec (b0 b1 b2 b3 n : Nat) : Nat × Nat :=
  if b0 < 128 then (b0, 1)
  else if b0 / 32 = 6 ∧ 1 < n ∧ b1 / 64 = 2 then
    if 128 ≤ (b0 % 32) * 64 + b1 % 64 then ((b0 % 32) * 64 + b1 % 64, 2) else (65533, 1)
  else if b0 / 16 = 14 ∧ (1 < n ∧ b1 / 64 = 2) ∧ (2 < n ∧ b2 / 64 = 2) then
    if 2048 ≤ (b0 % 16) * 4096 + (b1 % 64) * 64 + b2 % 64 ∧ Utf8.valid (((b0 % 16) * 4096 + (b1 % 64) * 64 + b2 % 64 : Nat) : Int) = true then ((b0 % 16) * 4096 + (b1 % 64) * 64 + b2 % 64, 3) else (65533, 1)
  else if b0 / 8 = 30 ∧ (1 < n ∧ b1 / 64 = 2) ∧ (2 < n ∧ b2 / 64 = 2) ∧ (3 < n ∧ b3 / 64 = 2) then
    if 65536 ≤ (b0 % 8) * 262144 + (b1 % 64) * 4096 + (b2 % 64) * 64 + b3 % 64 ∧ Utf8.valid (((b0 % 8) * 262144 + (b1 % 64) * 4096 + (b2 % 64) * 64 + b3 % 64 : Nat) : Int) = true then ((b0 % 8) * 262144 + (b1 % 64) * 4096 + (b2 % 64) * 64 + b3 % 64, 4) else (65533, 1)
  else (65533, 1)

def okTok (c w : Nat) : Bool := !(c == 65533 && w == 1)
def byteAt (s : ByteArray) (i : Nat) : Nat := (s.get! i).toNat
theorem byteAt_lt (s : ByteArray) (i : Nat) : byteAt s i < 256 := (s.get! i).toNat_lt
theorem byteAt_eq (s : ByteArray) (i : Nat) (h : i < s.size) : byteAt s i = (s[i]'h).toNat := by
  unfold byteAt; rw [← get_at s i h]; rfl
theorem decode_dec (s : ByteArray) (i : Nat) : Utf8.decode s i = dec (byteAt s i) (byteAt s (i + 1)) (byteAt s (i + 2)) (byteAt s (i + 3)) (s.size - i) := by
  have e1 : (i + 1 < s.size) = (1 < s.size - i) := by rw [eq_iff_iff]; omega
  have e2 : (i + 2 < s.size) = (2 < s.size - i) := by rw [eq_iff_iff]; omega
  have e3 : (i + 3 < s.size) = (3 < s.size - i) := by rw [eq_iff_iff]; omega
  unfold Utf8.decode dec byteAt
  simp only [Nat.add_zero, e1, e2, e3, Bool.and_eq_true, decide_eq_true_eq, beq_iff_eq, Utf8.runeError, and_assoc, ge_iff_le]

theorem dec_1 (b0 b1 b2 b3 n : Nat) (h : b0 < 128) : dec b0 b1 b2 b3 n = (b0, 1) := by unfold dec; rw [if_pos h]
theorem dec_2 (b0 b1 b2 b3 n : Nat) (h1 : 194 ≤ b0) (h2 : b0 ≤ 223) (hn : 2 ≤ n) (h3 : 128 ≤ b1) (h4 : b1 ≤ 191) : ∃ c, dec b0 b1 b2 b3 n = (c, 2) ∧ 128 ≤ c ∧ c ≤ 2047 := by
  refine ⟨(b0 % 32) * 64 + b1 % 64, ?_, by omega, by omega⟩
  unfold dec
  rw [if_neg (by omega), if_pos (by omega), if_pos (by omega)]
theorem dec_2e (b0 b1 b2 b3 n : Nat) (h1 : 194 ≤ b0) (h2 : b0 ≤ 223) (hb : b1 < 256) (h : ¬ (2 ≤ n ∧ 128 ≤ b1 ∧ b1 ≤ 191)) : dec b0 b1 b2 b3 n = (65533, 1) := by
  unfold dec
  rw [if_neg (by omega), if_neg (by omega), if_neg (by omega), if_neg (by omega)]
theorem valid_nat (c : Nat) : Utf8.valid (c : Int) = true ↔ c < 55296 ∨ 57344 ≤ c ∧ c ≤ 1114111 := by
  unfold Utf8.valid
  simp only [Bool.or_eq_true, Bool.and_eq_true, decide_eq_true_eq]
  omega
/-- The least second byte that E0 lets by, and the greatest that ED lets by. -/
def lo3 (b0 : Nat) : Nat := if b0 = 224 then 160 else 128
def hi3 (b0 : Nat) : Nat := if b0 = 237 then 159 else 191
theorem dec_3 (b0 b1 b2 b3 n : Nat) (h1 : 224 ≤ b0) (h2 : b0 ≤ 239) (hn : 3 ≤ n) (h3 : lo3 b0 ≤ b1) (h4 : b1 ≤ hi3 b0) (h5 : 128 ≤ b2) (h6 : b2 ≤ 191) :
    dec b0 b1 b2 b3 n = ((b0 % 16) * 4096 + (b1 % 64) * 64 + b2 % 64, 3) := by
  unfold lo3 at h3
  unfold hi3 at h4
  have h7 : 128 ≤ b1 ∧ b1 ≤ 191 := by split at h3 <;> split at h4 <;> omega
  unfold dec
  rw [if_neg (by omega), if_neg (by omega), if_pos (by omega), if_pos]
  rw [valid_nat]
  split at h3 <;> split at h4 <;> omega
theorem dec_3e (b0 b1 b2 b3 n : Nat) (h1 : 224 ≤ b0) (h2 : b0 ≤ 239) (hb : b1 < 256) (hb2 : b2 < 256) (h : ¬ (3 ≤ n ∧ lo3 b0 ≤ b1 ∧ b1 ≤ hi3 b0 ∧ 128 ≤ b2 ∧ b2 ≤ 191)) : dec b0 b1 b2 b3 n = (65533, 1) := by
  unfold dec
  rw [if_neg (by omega), if_neg (by omega)]
  by_cases a : b0 / 16 = 14 ∧ (1 < n ∧ b1 / 64 = 2) ∧ (2 < n ∧ b2 / 64 = 2)
  · rw [if_pos a, if_neg]
    rw [valid_nat]
    intro hv
    apply h
    unfold lo3 hi3
    refine ⟨by omega, ?_, ?_, by omega, by omega⟩
    · split <;> omega
    · split <;> omega
  · rw [if_neg a, if_neg (by omega)]
def lo4 (b0 : Nat) : Nat := if b0 = 240 then 144 else 128
def hi4 (b0 : Nat) : Nat := if b0 = 244 then 143 else 191
theorem dec_4 (b0 b1 b2 b3 n : Nat) (h1 : 240 ≤ b0) (h2 : b0 ≤ 244) (hn : 4 ≤ n) (h3 : lo4 b0 ≤ b1) (h4 : b1 ≤ hi4 b0) (h5 : 128 ≤ b2) (h6 : b2 ≤ 191) (h7 : 128 ≤ b3) (h8 : b3 ≤ 191) :
    ∃ c, dec b0 b1 b2 b3 n = (c, 4) ∧ 65536 ≤ c := by
  unfold lo4 at h3
  unfold hi4 at h4
  have h9 : 128 ≤ b1 ∧ b1 ≤ 191 := by split at h3 <;> split at h4 <;> omega
  have h10 : 65536 ≤ (b0 % 8) * 262144 + (b1 % 64) * 4096 + (b2 % 64) * 64 + b3 % 64 := by split at h3 <;> omega
  refine ⟨(b0 % 8) * 262144 + (b1 % 64) * 4096 + (b2 % 64) * 64 + b3 % 64, ?_, h10⟩
  unfold dec
  rw [if_neg (by omega), if_neg (by omega), if_neg (by omega), if_pos (by omega), if_pos]
  rw [valid_nat]
  refine ⟨h10, .inr ⟨by omega, ?_⟩⟩
  split at h4 <;> omega
theorem dec_4e (b0 b1 b2 b3 n : Nat) (h1 : 240 ≤ b0) (h2 : b0 ≤ 244) (hb : b1 < 256) (hb2 : b2 < 256) (hb3 : b3 < 256) (h : ¬ (4 ≤ n ∧ lo4 b0 ≤ b1 ∧ b1 ≤ hi4 b0 ∧ 128 ≤ b2 ∧ b2 ≤ 191 ∧ 128 ≤ b3 ∧ b3 ≤ 191)) : dec b0 b1 b2 b3 n = (65533, 1) := by
  unfold dec
  rw [if_neg (by omega), if_neg (by omega), if_neg (by omega)]
  by_cases a : b0 / 8 = 30 ∧ (1 < n ∧ b1 / 64 = 2) ∧ (2 < n ∧ b2 / 64 = 2) ∧ (3 < n ∧ b3 / 64 = 2)
  · rw [if_pos a, if_neg]
    rw [valid_nat]
    intro hv
    apply h
    unfold lo4 hi4
    refine ⟨by omega, ?_, ?_, by omega, by omega, by omega, by omega⟩
    · split <;> omega
    · split <;> omega
  · rw [if_neg a]
theorem dec_5 (b0 b1 b2 b3 n : Nat) (hb : b0 < 256) (h1 : 128 ≤ b0) (h : b0 < 194 ∨ 244 < b0) : dec b0 b1 b2 b3 n = (65533, 1) := by
  unfold dec
  rw [if_neg (by omega)]
  by_cases a1 : b0 / 32 = 6 ∧ 1 < n ∧ b1 / 64 = 2
  · rw [if_pos a1, if_neg (by omega)]
  · rw [if_neg a1, if_neg (by omega)]
    by_cases a2 : b0 / 8 = 30 ∧ (1 < n ∧ b1 / 64 = 2) ∧ (2 < n ∧ b2 / 64 = 2) ∧ (3 < n ∧ b3 / 64 = 2)
    · rw [if_pos a2, if_neg]
      rw [valid_nat]
      omega
    · rw [if_neg a2]
theorem decode_width (s : ByteArray) (i : Nat) : (Utf8.decode s i).2 ≤ 4 := by
  rw [decode_dec]
  unfold dec
  repeat' split
  all_goals simp
end Go.Proofs.YtgdcpladehcegaaDoor
