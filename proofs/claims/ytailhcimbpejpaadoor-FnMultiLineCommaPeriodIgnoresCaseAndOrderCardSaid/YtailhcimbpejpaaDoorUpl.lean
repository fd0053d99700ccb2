/- Plain law: strings.ToLower takes no heed of ASCII letters' case. -/
import Derived.Test.YtailhcimbpejpaaDoorDec
import Derived.Lib.MapU
namespace Go.Proofs.YtailhcimbpejpaaDoor
open Go.RowKit
set_option linter.unusedVariables false
set_option linter.unusedSimpArgs false
def upB (b : UInt8) : UInt8 := if 97 ≤ b.toNat ∧ b.toNat ≤ 122 then b - 32 else b
def upL (l : List UInt8) : List UInt8 := l.map upB
theorem upB_ge {b : UInt8} (h : 128 ≤ b.toNat) : upB b = b := by unfold upB; rw [if_neg (by omega)]
theorem upB_nat (b : UInt8) : (upB b).toNat = if 97 ≤ b.toNat ∧ b.toNat ≤ 122 then b.toNat - 32 else b.toNat := by
  unfold upB
  split
  · rename_i h
    rw [UInt8.toNat_sub_of_le]
    · rfl
    · rw [UInt8.le_iff_toNat_le]; show 32 ≤ b.toNat; omega
  · rfl
theorem upB_cases (b : UInt8) : upB b = b ∨ (b.toNat < 128 ∧ (upB b).toNat < 128) := by
  by_cases h : 97 ≤ b.toNat ∧ b.toNat ≤ 122
  · right
    rw [upB_nat, if_pos h]
    omega
  · left
    unfold upB; rw [if_neg h]
theorem byteAt_list (l : List UInt8) (k : Nat) : byteAt ⟨l.toArray⟩ k = (l.getD k 0).toNat := by
  unfold byteAt
  congr 1
  show (l.toArray)[k]! = _
  simp [List.getD_eq_getElem?_getD]
  rfl
theorem getD_up (l : List UInt8) (k : Nat) : (upL l).getD k 0 = upB (l.getD k 0) := by
  unfold upL
  rw [List.getD_eq_getElem?_getD, List.getD_eq_getElem?_getD, List.getElem?_map]
  cases l[k]? with
  | none => rfl
  | some y => rfl
theorem dec_up (b0 b1 b2 b3 c1 c2 c3 n : Nat) (h0 : 128 ≤ b0) (h1 : c1 = b1 ∨ (b1 < 128 ∧ c1 < 128)) (h2 : c2 = b2 ∨ (b2 < 128 ∧ c2 < 128)) (h3 : c3 = b3 ∨ (b3 < 128 ∧ c3 < 128)) : dec b0 c1 c2 c3 n = dec b0 b1 b2 b3 n := by
  have n0 : ¬ b0 < 128 := by omega
  unfold dec
  rw [if_neg n0, if_neg n0]
  rcases h1 with rfl | ⟨h1, h1'⟩
  · rcases h2 with rfl | ⟨h2, h2'⟩
    · rcases h3 with rfl | ⟨h3, h3'⟩
      · rfl
      · have e1 : ¬ b3 / 64 = 2 := by omega
        have e2 : ¬ c3 / 64 = 2 := by omega
        simp only [e1, e2, and_false, if_false]
    · have e1 : ¬ b2 / 64 = 2 := by omega
      have e2 : ¬ c2 / 64 = 2 := by omega
      simp only [e1, e2, and_false, false_and, if_false]
  · have e1 : ¬ b1 / 64 = 2 := by omega
    have e2 : ¬ c1 / 64 = 2 := by omega
    simp only [e1, e2, and_false, false_and, if_false]
theorem decodeL_dec (l : List UInt8) : Lib.decodeL l = dec (l.getD 0 0).toNat (l.getD 1 0).toNat (l.getD 2 0).toNat (l.getD 3 0).toNat l.length := by
  unfold Lib.decodeL
  rw [decode_dec, byteAt_list, byteAt_list, byteAt_list, byteAt_list]
  rfl
theorem upL_len (l : List UInt8) : (upL l).length = l.length := by unfold upL; simp
theorem cases_nat (b : UInt8) : (upB b).toNat = b.toNat ∨ (b.toNat < 128 ∧ (upB b).toNat < 128) := by
  rcases upB_cases b with h | h
  · left; rw [h]
  · right; exact h
theorem decodeL_up_hi (l : List UInt8) (h : 128 ≤ (l.getD 0 0).toNat) : Lib.decodeL (upL l) = Lib.decodeL l := by
  rw [decodeL_dec, decodeL_dec, getD_up, getD_up, getD_up, getD_up, upL_len, upB_ge h]
  exact dec_up _ _ _ _ _ _ _ _ h (cases_nat _) (cases_nat _) (cases_nat _)
theorem decodeL_lo (l : List UInt8) (h : (l.getD 0 0).toNat < 128) : Lib.decodeL l = ((l.getD 0 0).toNat, 1) := by
  rw [decodeL_dec, dec_1 _ _ _ _ _ h]
theorem lower_up (b : UInt8) (h : b.toNat < 128) : Lib.toLowerU ((upB b).toNat : Nat) = Lib.toLowerU (b.toNat : Nat) := by
  rw [upB_nat]
  unfold Lib.toLowerU
  split
  · rename_i h1
    rw [if_pos (by omega), if_pos (by omega), if_pos (by omega), if_neg (by omega)]
    omega
  · rfl
theorem map_up : ∀ (n : Nat) (l : List UInt8), Lib.mapGoD Lib.toLowerU n (upL l) = Lib.mapGoD Lib.toLowerU n l
  | 0, _ => rfl
  | n + 1, l => by
    unfold Lib.mapGoD
    by_cases hl : l = []
    · rw [hl]; rfl
    · have hu : upL l ≠ [] := by unfold upL; simpa using hl
      rw [if_neg hl, if_neg hu]
      by_cases h : (l.getD 0 0).toNat < 128
      · have h' : ((upL l).getD 0 0).toNat < 128 := by
          rw [getD_up]
          rcases cases_nat (l.getD 0 0) with e | e
          · rw [e]; exact h
          · exact e.2
        rw [decodeL_lo l h, decodeL_lo (upL l) h', getD_up]
        simp only
        rw [lower_up _ h, show (upL l).drop 1 = upL (l.drop 1) from by unfold upL; rw [List.map_drop], map_up n]
      · rw [decodeL_up_hi l (by omega)]
        rw [show (upL l).drop (Lib.decodeL l).2 = upL (l.drop (Lib.decodeL l).2) from by unfold upL; rw [List.map_drop], map_up n]
theorem toLower_up (l : List UInt8) : Lib.toLowerD (upL l) = Lib.toLowerD l := by
  unfold Lib.toLowerD Lib.mapD
  rw [upL_len, map_up]
end Go.Proofs.YtailhcimbpejpaaDoor
