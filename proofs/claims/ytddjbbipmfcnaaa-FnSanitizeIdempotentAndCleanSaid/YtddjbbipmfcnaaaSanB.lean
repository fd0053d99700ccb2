/- Plain facts: what has been encoded is read back rune by rune; a clean name is left as it is. -/
import Derived.Test.YtddjbbipmfcnaaaSan
namespace Go.Proofs.Ytddjbbipmfcnaaa
open Go.RowKit
set_option linter.unusedVariables false
set_option linter.unusedSimpArgs false

theorem size_list (l : List UInt8) : (⟨l.toArray⟩ : ByteArray).size = l.length := by simp [ByteArray.size]
theorem byteAt_list (l : List UInt8) (i : Nat) (h : i < l.length) : byteAt ⟨l.toArray⟩ i = (l[i]'h).toNat := by
  rw [byteAt_eq _ i (by rw [size_list]; exact h)]
  rfl
theorem byteAt_mid (p : List UInt8) (q : List UInt8) (i : Nat) (h : i < q.length) : byteAt ⟨(p ++ q).toArray⟩ (p.length + i) = (q[i]'h).toNat := by
  rw [byteAt_list _ _ (by rw [List.length_append]; omega), List.getElem_append_right (by omega)]
  simp
theorem enc_len (c : Nat) : 1 ≤ (Lib.encodeRune (c : Int)).length ∧ (Lib.encodeRune (c : Int)).length ≤ 4 := by
  have := Lib.runeCells_le (c : Int)
  rwa [Lib.runeCells_length] at this
theorem byte_nat (x : Int) (n : Nat) (h : x = n) (hn : n < 256) : (x.toNat.toUInt8).toNat = n := by
  subst h
  rw [Int.toNat_natCast]
  simp [Nat.toUInt8, UInt8.toNat_ofNat']
  omega
theorem decode_enc (p q : List UInt8) (c : Nat) (hc : c < 55296 ∨ 57344 ≤ c ∧ c ≤ 1114111) : Utf8.decode ⟨(p ++ (Lib.encodeRune (c : Int) ++ q)).toArray⟩ p.length = (c, (Lib.encodeRune (c : Int)).length) := by
  have hat : ∀ i (h : i < (Lib.encodeRune (c : Int)).length), byteAt ⟨(p ++ (Lib.encodeRune (c : Int) ++ q)).toArray⟩ (p.length + i) = ((Lib.encodeRune (c : Int))[i]'h).toNat := by
    intro i h
    rw [byteAt_mid p _ i (by rw [List.length_append]; omega), List.getElem_append_left h]
  have hn : (⟨(p ++ (Lib.encodeRune (c : Int) ++ q)).toArray⟩ : ByteArray).size - p.length = (Lib.encodeRune (c : Int)).length + q.length := by
    rw [size_list, List.length_append, List.length_append]; omega
  rw [decode_dec, hn]
  by_cases h1 : c < 128
  · have e := enc_ascii c h1
    have l1 : (Lib.encodeRune (c : Int)).length = 1 := by rw [e]; rfl
    have b0 := hat 0 (by omega)
    simp only [e, List.getElem_cons_zero, Nat.add_zero] at b0
    rw [l1, dec_1 _ _ _ _ _ (by rw [e, b0]; simp; omega), e, b0]
    simp; omega
  · by_cases h2 : c < 2048
    · have e : Lib.encodeRune (c : Int) = [(192 + (c : Int) / 64).toNat.toUInt8, (128 + (c : Int) % 64).toNat.toUInt8] := by
        unfold Lib.encodeRune; rw [Lib.encodeRuneZ_two (by omega) (by omega)]; rfl
      have l2 : (Lib.encodeRune (c : Int)).length = 2 := by rw [e]; rfl
      have b0 := hat 0 (by omega)
      have b1 := hat 1 (by omega)
      have c0 : ((192 + (c : Int) / 64).toNat.toUInt8).toNat = 192 + c / 64 := byte_nat _ _ (by omega) (by omega)
      have c1 : ((128 + (c : Int) % 64).toNat.toUInt8).toNat = 128 + c % 64 := byte_nat _ _ (by omega) (by omega)
      simp only [e, List.getElem_cons_zero, List.getElem_cons_succ, Nat.add_zero, c0, c1] at b0 b1
      rw [l2]
      rw [e, b0, b1]
      unfold dec
      rw [if_neg (by omega), if_pos (by omega), if_pos (by omega)]
      simp only [Prod.mk.injEq, and_true]
      omega
    · by_cases h3 : c < 65536
      · have e : Lib.encodeRune (c : Int) = [(224 + (c : Int) / 4096).toNat.toUInt8, (128 + (c : Int) / 64 % 64).toNat.toUInt8, (128 + (c : Int) % 64).toNat.toUInt8] := by
          unfold Lib.encodeRune; rw [Lib.encodeRuneZ_three (by omega)]; rfl
        have l3 : (Lib.encodeRune (c : Int)).length = 3 := by rw [e]; rfl
        have b0 := hat 0 (by omega)
        have b1 := hat 1 (by omega)
        have b2 := hat 2 (by omega)
        have c0 : ((224 + (c : Int) / 4096).toNat.toUInt8).toNat = 224 + c / 4096 := byte_nat _ _ (by omega) (by omega)
        have c1 : ((128 + (c : Int) / 64 % 64).toNat.toUInt8).toNat = 128 + c / 64 % 64 := byte_nat _ _ (by omega) (by omega)
        have c2 : ((128 + (c : Int) % 64).toNat.toUInt8).toNat = 128 + c % 64 := byte_nat _ _ (by omega) (by omega)
        simp only [e, List.getElem_cons_zero, List.getElem_cons_succ, Nat.add_zero, c0, c1, c2] at b0 b1 b2
        rw [l3]
        rw [e, b0, b1, b2]
        unfold dec
        rw [if_neg (by omega), if_neg (by omega), if_pos (by omega), if_pos]
        · simp only [Prod.mk.injEq, and_true]; omega
        · rw [valid_nat]; omega
      · have e : Lib.encodeRune (c : Int) = [(240 + (c : Int) / 262144).toNat.toUInt8, (128 + (c : Int) / 4096 % 64).toNat.toUInt8, (128 + (c : Int) / 64 % 64).toNat.toUInt8, (128 + (c : Int) % 64).toNat.toUInt8] := by
          unfold Lib.encodeRune; rw [Lib.encodeRuneZ_four (by omega) (by omega)]; rfl
        have l4 : (Lib.encodeRune (c : Int)).length = 4 := by rw [e]; rfl
        have b0 := hat 0 (by omega)
        have b1 := hat 1 (by omega)
        have b2 := hat 2 (by omega)
        have b3 := hat 3 (by omega)
        have c0 : ((240 + (c : Int) / 262144).toNat.toUInt8).toNat = 240 + c / 262144 := byte_nat _ _ (by omega) (by omega)
        have c1 : ((128 + (c : Int) / 4096 % 64).toNat.toUInt8).toNat = 128 + c / 4096 % 64 := byte_nat _ _ (by omega) (by omega)
        have c2 : ((128 + (c : Int) / 64 % 64).toNat.toUInt8).toNat = 128 + c / 64 % 64 := byte_nat _ _ (by omega) (by omega)
        have c3 : ((128 + (c : Int) % 64).toNat.toUInt8).toNat = 128 + c % 64 := byte_nat _ _ (by omega) (by omega)
        simp only [e, List.getElem_cons_zero, List.getElem_cons_succ, Nat.add_zero, c0, c1, c2, c3] at b0 b1 b2 b3
        rw [l4]
        rw [e, b0, b1, b2, b3]
        unfold dec
        rw [if_neg (by omega), if_neg (by omega), if_neg (by omega), if_pos (by omega), if_pos]
        · simp only [Prod.mk.injEq, and_true]; omega
        · rw [valid_nat]; omega
/-- No rune from pos on is forbidden. -/
def cleanTo (s : ByteArray) : Nat → Nat → Bool
  | 0, _ => true
  | f + 1, pos => if pos < s.size then !forb (Utf8.decode s pos).1 && cleanTo s f (pos + (Utf8.decode s pos).2) else true
theorem clean_runes (rs : List Nat) : ∀ (p : List UInt8) (f : Nat), Clean rs → cleanTo ⟨(p ++ encAll rs).toArray⟩ f p.length = true := by
  induction rs with
  | nil =>
    intro p f _
    cases f with
    | zero => rfl
    | succ f => rw [cleanTo, if_neg (by rw [size_list]; simp [encAll])]
  | cons c rs ih =>
    intro p f h
    cases f with
    | zero => rfl
    | succ f =>
      have hc := h c (List.mem_cons_self ..)
      have hl := enc_len c
      have e1 : encAll (c :: rs) = Lib.encodeRune (c : Int) ++ encAll rs := rfl
      have e := decode_enc p (encAll rs) c hc.2
      rw [e1, cleanTo, if_pos (by rw [size_list, List.length_append, List.length_append]; omega), e]
      simp only [hc.1, Bool.not_false, Bool.true_and]
      have := ih (p ++ Lib.encodeRune (c : Int)) f (fun x hx => h x (List.mem_cons_of_mem _ hx))
      rw [List.append_assoc, List.length_append] at this
      exact this
theorem san_runes (rs : List Nat) : ∀ (p : List UInt8) (f : Nat) (l : List UInt8), Clean rs → (encAll rs).length ≤ f → sanTo ⟨(p ++ encAll rs).toArray⟩ f p.length l false = (l ++ encAll rs, false) := by
  induction rs with
  | nil =>
    intro p f l _ _
    rw [sanTo_end _ _ _ _ _ (by rw [size_list]; simp [encAll])]; simp [encAll]
  | cons c rs ih =>
    intro p f l h hf
    have hc := h c (List.mem_cons_self ..)
    have hl := enc_len c
    have e1 : encAll (c :: rs) = Lib.encodeRune (c : Int) ++ encAll rs := rfl
    have e := decode_enc p (encAll rs) c hc.2
    rw [e1, List.length_append] at hf
    cases f with
    | zero => omega
    | succ f =>
      rw [e1, sanTo, if_pos (by rw [size_list, List.length_append, List.length_append]; omega), e]
      have hs : sanStep c l false = (l ++ Lib.encodeRune (c : Int), false) := by
        unfold sanStep; simp [hc.1]
      simp only [hs]
      have := ih (p ++ Lib.encodeRune (c : Int)) f (l ++ Lib.encodeRune (c : Int)) (fun x hx => h x (List.mem_cons_of_mem _ hx)) (by omega)
      rw [List.append_assoc, List.length_append] at this
      rw [this, List.append_assoc]
theorem san_again (s : ByteArray) : san ⟨(san s).toArray⟩ = san s ∧ san s ≠ [] ∧ cleanTo ⟨(san s).toArray⟩ (san s).length 0 = true := by
  obtain ⟨rs, h1, h2, h3⟩ := san_clean s
  rw [h1]
  have hne : encAll rs ≠ [] := by
    cases rs with
    | nil => exact absurd rfl h3
    | cons c rs =>
      intro h
      have e1 : encAll (c :: rs) = Lib.encodeRune (c : Int) ++ encAll rs := rfl
      rw [e1] at h
      exact enc_ne _ (List.append_eq_nil_iff.1 h).1
  have a := san_runes rs [] (⟨(encAll rs).toArray⟩ : ByteArray).size [] h2 (by rw [size_list]; omega)
  have b := clean_runes rs [] (encAll rs).length h2
  refine ⟨?_, hne, b⟩
  unfold san
  simp only [List.nil_append, List.length_nil] at a
  rw [a]
  unfold named
  rw [if_neg hne]
end Go.Proofs.Ytddjbbipmfcnaaa
