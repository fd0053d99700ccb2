/- Valid texts: each rune is printed as the bytes it was read from. -/
import Derived.Test.YtppcjkajjahclaaFmtDec
import Derived.Test.YtppcjkajjahclaaFmtIdp
import Derived.Lib.MapLaws
import Derived.Shelf.Unicode.DecodeSlow
namespace Go.Proofs.YtppcjkajjahclaaFmt
open Go.RowKit
set_option linter.unusedVariables false
set_option linter.unusedSimpArgs false
theorem qget (s : ByteArray) (k : Nat) (h : k < s.size) : s[k]'h = s.data.toList.getD k 0 := by
  rw [List.getD_eq_getElem?_getD, List.getElem?_eq_getElem (by simpa using h)]
  rfl
theorem tb_lt (t : List UInt8) (k : Nat) : tb t k < 256 := by unfold tb; exact (t.getD k 0).toNat_lt
theorem qsize (s : ByteArray) : s.data.toList.length = s.size := by rw [Array.length_toList]; rfl
theorem byte_out (s : ByteArray) (i : Nat) (h : ¬ i < s.size) : byteAt s i = 0 := by
  unfold byteAt
  obtain ⟨d⟩ := s
  show (d[i]!).toNat = 0
  rw [getElem!_neg d i (by exact h)]; rfl
theorem cut_size (s : ByteArray) (pos : Nat) : (s.extract pos s.size).size = s.size - pos := by rw [ByteArray.size_extract]; omega
theorem byte_cut (s : ByteArray) (pos k : Nat) : byteAt (s.extract pos s.size) k = byteAt s (pos + k) := by
  by_cases h : k < s.size - pos
  · rw [byteAt_eq _ _ (by rw [cut_size]; exact h), byteAt_eq _ _ (by omega), ByteArray.getElem_extract]
  · rw [byte_out _ _ (by rw [cut_size]; exact h), byte_out _ _ (by omega)]
theorem decode_cut (s : ByteArray) (pos : Nat) (h : pos < s.size) : Lib.decodeGo (s.extract pos s.size) = Utf8.decode s pos := by
  have e : Lib.decodeGo (s.extract pos s.size) = Utf8.decode (s.extract pos s.size) 0 := by
    unfold Lib.decodeGo
    rw [if_neg (by rw [cut_size]; omega)]
  rw [e, decode_dec, decode_dec, byte_cut, byte_cut, byte_cut, byte_cut, cut_size]
  simp
theorem bt (s : ByteArray) (i : Nat) (h : i < s.size) : byteAt s i = tb s.data.toList i := by rw [byteAt_eq s i h, qget s i h]; rfl
theorem dec_high (s : ByteArray) (i c wd : Nat) (hb : 128 ≤ byteAt s i) (hd : Utf8.decode s i = (c, wd)) :
    128 ≤ c ∧ c ≤ 2097151 ∧ (c = 65279 → byteAt s i = 239 ∧ i + 2 < s.size ∧ byteAt s (i + 1) = 187 ∧ byteAt s (i + 2) = 191) ∧ ∀ j, i ≤ j → j < i + wd → 128 ≤ byteAt s j := by
  have l0 := byteAt_lt s i; have l1 := byteAt_lt s (i + 1); have l2 := byteAt_lt s (i + 2); have l3 := byteAt_lt s (i + 3)
  rw [decode_dec] at hd
  unfold dec at hd
  repeat' split at hd
  all_goals
    simp only [Prod.mk.injEq] at hd
    obtain ⟨h1, h2⟩ := hd
  all_goals first
    | omega
    | (refine ⟨by omega, by omega, by omega, fun j h3 h4 => ?_⟩
       rcases (by omega : j = i ∨ j = i + 1 ∨ j = i + 2 ∨ j = i + 3) with rfl | rfl | rfl | rfl <;> omega)
theorem dec_facts (s : ByteArray) (i c wd : Nat) (hi : i < s.size) (hd : Utf8.decode s i = (c, wd)) : 1 ≤ wd ∧ i + wd ≤ s.size ∧ (128 ≤ c → c ≠ 65533 → 2 ≤ wd) := by
  rw [decode_dec] at hd
  unfold dec at hd
  repeat' split at hd
  all_goals
    simp only [Prod.mk.injEq] at hd
    obtain ⟨h1, h2⟩ := hd
    omega
def cellsB (l : List UInt8) : List Value := l.map (fun b => Value.int .u8 (b.toNat : Nat))
theorem cellsB_app (l m : List UInt8) : cellsB (l ++ m) = cellsB l ++ cellsB m := by unfold cellsB; rw [List.map_append]
/-- No faulty bytes stand at place i. -/
def good (s : ByteArray) (i : Nat) : Prop := ¬ ((Utf8.decode s i).1 = 65533 ∧ (Utf8.decode s i).2 = 1)
/-- Where the runes start. -/
def pos (s : ByteArray) : Nat → Nat
  | 0 => 0
  | k + 1 => if pos s k < s.size then pos s k + (Utf8.decode s (pos s k)).2 else pos s k
def ValidI (s : ByteArray) : Prop := ∀ k, pos s k < s.size → good s (pos s k)
theorem cut_eq (s : ByteArray) (i : Nat) : s.extract i s.size = ⟨(s.data.toList.drop i).toArray⟩ := by
  apply ByteArray.ext
  rw [ByteArray.data_extract]
  apply Array.ext'
  simp
  rw [List.take_of_length_le]
  rw [List.length_drop, ← qsize s]
  simp
theorem decodeL_cut (s : ByteArray) (i : Nat) (h : i < s.size) : Lib.decodeL (s.data.toList.drop i) = Utf8.decode s i := by
  unfold Lib.decodeL
  rw [← cut_eq, decode_dec, decode_dec, byte_cut, byte_cut, byte_cut, byte_cut, cut_size]
  simp
theorem enc_cells (r : Int) : Lib.runeCells r = cellsB (Lib.encodeRune r) := by
  unfold Lib.runeCells cellsB Lib.encodeRune
  rw [List.map_map]
  apply List.map_congr_left
  intro x hx
  obtain ⟨h0, h1⟩ := Lib.encodeRuneZ_byte r x hx
  show Value.int .u8 x = Value.int .u8 ((x.toNat.toUInt8).toNat : Nat)
  congr 1
  show x = ((x.toNat % 256 : Nat) : Int)
  omega
theorem enc_good (s : ByteArray) (i : Nat) (h : i < s.size) (hg : good s i) : Lib.runeCells ((Utf8.decode s i).1 : Int) = cellsB ((s.data.toList.drop i).take (Utf8.decode s i).2) := by
  have hne : s.data.toList.drop i ≠ [] := by
    intro e
    have := congrArg List.length e
    rw [List.length_drop, qsize] at this
    simp at this
    omega
  have h1 := Lib.encode_decode (s.data.toList.drop i) hne (by rw [decodeL_cut s i h]; exact hg)
  rw [decodeL_cut s i h] at h1
  rw [enc_cells, h1]
end Go.Proofs.YtppcjkajjahclaaFmt
