/- Plain laws: the decimal digits of a number; a list without repeats is no longer than a list that holds it; sets of names as lists. -/
import Derived.Lib.ItoaNum
import Derived.Test.YtlcdpccalaccjaaDoorRows
namespace Go.Proofs.YtlcdpccalaccjaaDoor
open Go.Lib
set_option linter.unusedVariables false
set_option linter.unusedSimpArgs false
def digVal (l : List UInt8) : Nat := l.foldl (fun a c => 10 * a + (c.toNat - 48)) 0
theorem digVal_snoc (l : List UInt8) (c : UInt8) : digVal (l ++ [c]) = 10 * digVal l + (c.toNat - 48) := by unfold digVal; rw [List.foldl_append]; rfl
theorem dig_nat {d : Nat} (h : d < 10) : (UInt8.ofNat (48 + d)).toNat = 48 + d := by rw [UInt8.toNat_ofNat']; omega
theorem digVal_dec (u : Nat) : digVal (decDigits u) = u := by
  induction u using Nat.strongRecOn with
  | _ u ih =>
    by_cases h : u < 10
    · rw [decDigits, dif_pos h]
      show 10 * 0 + ((UInt8.ofNat (48 + u)).toNat - 48) = u
      rw [dig_nat h]; omega
    · rw [decDigits, dif_neg h, digVal_snoc, ih (u / 10) (by omega), dig_nat (by omega)]; omega
theorem dec_inj {a b : Nat} (h : decDigits a = decDigits b) : a = b := by rw [← digVal_dec a, ← digVal_dec b, h]
theorem dec_digits (u : Nat) : ∀ c ∈ decDigits u, 48 ≤ c.toNat ∧ c.toNat ≤ 57 := by
  induction u using Nat.strongRecOn with
  | _ u ih =>
    intro c hc
    by_cases h : u < 10
    · rw [decDigits, dif_pos h] at hc
      obtain rfl := List.mem_singleton.1 hc
      rw [dig_nat h]; omega
    · rw [decDigits, dif_neg h, List.mem_append] at hc
      rcases hc with hc | hc
      · exact ih (u / 10) (by omega) c hc
      · obtain rfl := List.mem_singleton.1 hc
        rw [dig_nat (by omega)]; omega
theorem dec_ne (u : Nat) : decDigits u ≠ [] := by
  intro h
  have := decDigits_length u
  rw [h] at this
  have := nDigits_pos u
  simp at *
  omega
theorem dec_head (u : Nat) (hu : 1 ≤ u) : ((decDigits u).getD 0 0).toNat ≠ 48 := by
  induction u using Nat.strongRecOn with
  | _ u ih =>
    by_cases h : u < 10
    · rw [decDigits, dif_pos h]
      show (UInt8.ofNat (48 + u)).toNat ≠ 48
      rw [dig_nat h]; omega
    · rw [decDigits, dif_neg h]
      have hn := dec_ne (u / 10)
      have e : (decDigits (u / 10) ++ [UInt8.ofNat (48 + u % 10)]).getD 0 0 = (decDigits (u / 10)).getD 0 0 := by
        cases hd : decDigits (u / 10) with
        | nil => exact absurd hd hn
        | cons a l => rfl
      rw [e]
      exact ih (u / 10) (by omega) (by omega)
theorem dec_one : decDigits 1 = [49] := decDigits_one (i := 1) (by omega)
theorem nd_le : ∀ k u, u < 10 ^ (k + 1) → nDigits u ≤ k + 1
  | 0, u, h => by rw [nDigits_small (by simpa using h)]; omega
  | k + 1, u, h => by
    by_cases hu : u < 10
    · rw [nDigits_small hu]; omega
    · rw [nDigits_big hu]
      have := nd_le k (u / 10) (by rw [Nat.pow_succ] at h; omega)
      omega
theorem dec_len (u : Nat) (h : u < 10000000000) : (decDigits u).length ≤ 10 := by rw [decDigits_length]; exact nd_le 9 u (by simpa using h)
/-- A list without repeats is no longer than a list that holds it. -/
theorem nodup_le {α : Type} [DecidableEq α] : ∀ (l l' : List α), l.Nodup → (∀ x ∈ l, x ∈ l') → l.length ≤ l'.length
  | [], _, _, _ => by simp
  | x :: l, l', hn, hs => by
    have hx := hs x (by simp)
    have h1 := List.length_erase_of_mem hx
    have hp : 0 < l'.length := List.length_pos_of_mem hx
    have hn' := List.nodup_cons.1 hn
    have := nodup_le l (l'.erase x) hn'.2 (fun y hy => by
      have hne : y ≠ x := fun e => hn'.1 (e ▸ hy)
      exact (List.mem_erase_of_ne hne).2 (hs y (by simp [hy])))
    simp
    omega
theorem pigeon {α : Type} [DecidableEq α] (f : Nat → α) (hf : ∀ i j, f i = f j → i = j) (l : List α) (m : Nat) (h : ∀ j, j < m → f j ∈ l) : m ≤ l.length := by
  have := nodup_le ((List.range m).map f) l (by
    unfold List.Nodup
    rw [List.pairwise_map]
    exact List.nodup_range.imp (fun {a b} hab e => hab (hf _ _ e))) (fun x hx => by
      obtain ⟨j, hj, rfl⟩ := List.mem_map.1 hx
      exact h j (List.mem_range.1 hj))
  simpa using this
theorem ba_ext {a b : ByteArray} (h : a.data.toList = b.data.toList) : a = b := by
  obtain ⟨a⟩ := a; obtain ⟨b⟩ := b
  congr 1
  exact Array.toList_inj.1 h
theorem ba_app (a b : ByteArray) : (a ++ b).data.toList = a.data.toList ++ b.data.toList := by rw [ByteArray.data_append, Array.toList_append]
theorem ba_size (s : ByteArray) : s.data.toList.length = s.size := by rw [Array.length_toList]; rfl
/-- The text of a number. -/
def numS (t : Nat) : ByteArray := ⟨(decDigits t).toArray⟩
theorem numS_list (t : Nat) : (numS t).data.toList = decDigits t := rfl
theorem numS_size (t : Nat) (h : t < 10000000000) : (numS t).size ≤ 10 := by rw [← ba_size, numS_list]; exact dec_len t h
theorem cat_inj (nm : ByteArray) (t0 i j : Nat) (h : nm ++ numS (t0 + i) = nm ++ numS (t0 + j)) : i = j := by
  have := congrArg (fun s => s.data.toList) h
  simp only [ba_app, numS_list, List.append_cancel_left_eq] at this
  have := dec_inj this
  omega
def hasS (s : ByteArray) (ss : List ByteArray) : Bool := ss.any fun x => x.toList == s.toList
theorem hasS_iff {s : ByteArray} {ss : List ByteArray} : hasS s ss = true ↔ s ∈ ss := by
  unfold hasS
  rw [List.any_eq_true]
  constructor
  · rintro ⟨x, hx, e⟩
    have e' : x.toList = s.toList := by simpa using e
    rw [ByteArray.toList_eq, ByteArray.toList_eq] at e'
    rw [← ba_ext e']; exact hx
  · intro h; exact ⟨s, h, by simp⟩
theorem hasS_no {s : ByteArray} {ss : List ByteArray} (h : s ∉ ss) : hasS s ss = false := by
  cases e : hasS s ss
  · rfl
  · exact absurd (hasS_iff.1 e) h
theorem hasS_snoc (s x : ByteArray) (ss : List ByteArray) : hasS s (ss ++ [x]) = (hasS s ss || (x.toList == s.toList)) := by
  unfold hasS; rw [List.any_append]; simp
end Go.Proofs.YtlcdpccalaccjaaDoor
