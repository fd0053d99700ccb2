/- Plain facts for printQuotedWithQuote: a rune that is no ASCII byte, the text's pieces. -/
import Derived.Test.YtachkgmngahpoaaFmtQh3
import Derived.Test.YtachkgmngahpoaaFmtEqf
namespace Go.Proofs.YtachkgmngahpoaaFmt
open Go.RowKit
set_option linter.unusedVariables false
set_option linter.unusedSimpArgs false
theorem byte_out (s : ByteArray) (i : Nat) (h : ¬ i < s.size) : byteAt s i = 0 := by
  unfold byteAt
  obtain ⟨d⟩ := s
  show (d[i]!).toNat = 0
  rw [getElem!_neg d i (by exact h)]; rfl
theorem cut_size (s : ByteArray) (pos : Nat) : (s.extract pos s.size).size = s.size - pos := by rw [ByteArray.size_extract]; omega
theorem byte_cut (s : ByteArray) (pos k : Nat) : byteAt (s.extract pos s.size) k = byteAt s (pos + k) := by
  by_cases h : k < s.size - pos
  · rw [byteAt_eq _ _ (by rw [cut_size]; exact h), byteAt_eq _ _ (by omega), ByteArray.getElem_extract]
  · rw [byte_out _ _ (by rw [cut_size]; exact h), byte_out _ _ (by omega)]
theorem decode_cut (s : ByteArray) (pos : Nat) (h : pos < s.size) : Lib.decodeGo (s.extract pos s.size) = Utf8.decode s pos := by
  have e : Lib.decodeGo (s.extract pos s.size) = Utf8.decode (s.extract pos s.size) 0 := by
    unfold Lib.decodeGo
    rw [if_neg (by rw [cut_size]; omega)]
  rw [e, decode_dec, decode_dec, byte_cut, byte_cut, byte_cut, byte_cut, cut_size]
  simp
theorem bt (s : ByteArray) (i : Nat) (h : i < s.size) : byteAt s i = tb s.data.toList i := by rw [byteAt_eq s i h, qget s i h]; rfl
theorem dec_high (s : ByteArray) (i c wd : Nat) (hb : 128 ≤ byteAt s i) (hd : Utf8.decode s i = (c, wd)) :
    128 ≤ c ∧ c ≤ 2097151 ∧ (c = 65279 → byteAt s i = 239 ∧ i + 2 < s.size ∧ byteAt s (i + 1) = 187 ∧ byteAt s (i + 2) = 191) ∧ ∀ j, i ≤ j → j < i + wd → 128 ≤ byteAt s j := by
  have l0 := byteAt_lt s i; have l1 := byteAt_lt s (i + 1); have l2 := byteAt_lt s (i + 2); have l3 := byteAt_lt s (i + 3)
  rw [decode_dec] at hd
  unfold dec at hd
  repeat' split at hd
  all_goals
    simp only [Prod.mk.injEq] at hd
    obtain ⟨h1, h2⟩ := hd
  all_goals first
    | omega
    | (refine ⟨by omega, by omega, by omega, fun j h3 h4 => ?_⟩
       rcases (by omega : j = i ∨ j = i + 1 ∨ j = i + 2 ∨ j = i + 3) with rfl | rfl | rfl | rfl <;> omega)
theorem take_more (t : List UInt8) (j k w : Nat) (h : j ≤ k) : (t.drop j).take (k + w - j) = (t.drop j).take (k - j) ++ (t.drop k).take w := by
  rw [show k + w - j = (k - j) + w by omega, List.take_add, List.drop_drop, show j + (k - j) = k by omega]
theorem take_none (t : List UInt8) (j k : Nat) (h : k ≤ j) : (t.drop j).take (k - j) = [] := by rw [show k - j = 0 by omega, List.take_zero]
theorem take_one (t : List UInt8) (k : Nat) (h : k < t.length) : (t.drop k).take 1 = [t.getD k 0] := by
  rw [List.drop_eq_getElem_cons h, List.getD_eq_getElem?_getD, List.getElem?_eq_getElem h]; rfl
/-- The bytes from k on that are printed as they are. -/
def plainW (wr : Nat → Bool) (q : Nat) (t : List UInt8) (k wd : Nat) : Prop := outW wr q t (k + wd) = outW wr q t k ++ (t.drop k).take wd
theorem plain_low (wr : Nat → Bool) (q : Nat) (t : List UInt8) (k : Nat) (hk : k < t.length) (hw : wr k = false) (hn : ¬ needs q t k) : plainW wr q t k 1 := by
  unfold plainW
  rw [outW_succ, hw, take_one t k hk]
  unfold outB
  rw [if_neg hn]
  simp
theorem cells_extract (s : ByteArray) (j k : Nat) : byteCells (s.extract j k) = cells ((s.data.toList.drop j).take (k - j)) := by
  unfold byteCells cells
  congr 1
  simp
/-- Where the printer stands at place k: what it has not yet flushed lies between j and k. -/
def AtQ (wr : Nat → Bool) (q : Nat) (t : List UInt8) (pre cur : List Value) (j k : Nat) : Prop := cur ++ cells ((t.drop j).take (k - j)) = pre ++ cells (outW wr q t k)
theorem AtQ.plain {wr : Nat → Bool} {q : Nat} {t : List UInt8} {pre cur : List Value} {j k wd : Nat} (h : AtQ wr q t pre cur j k) (hj : j ≤ k) (hp : plainW wr q t k wd) : AtQ wr q t pre cur j (k + wd) := by
  unfold AtQ at h ⊢
  unfold plainW at hp
  rw [take_more t j k wd hj, hp, cells_app, cells_app, ← List.append_assoc, h, List.append_assoc]
theorem AtQ.flush {wr : Nat → Bool} {q : Nat} {t : List UInt8} {pre cur : List Value} {j k : Nat} (h : AtQ wr q t pre cur j k) : AtQ wr q t pre (cur ++ cells ((t.drop j).take (k - j))) k k := by
  unfold AtQ at h ⊢
  rw [take_none t k k (Nat.le_refl _)]
  simpa [cells] using h
theorem AtQ.here {wr : Nat → Bool} {q : Nat} {t : List UInt8} {pre cur : List Value} {k : Nat} (h : AtQ wr q t pre cur k k) : cur = pre ++ cells (outW wr q t k) := by
  unfold AtQ at h
  rw [take_none t k k (Nat.le_refl _)] at h
  simpa [cells] using h
theorem AtQ.esc {wr : Nat → Bool} {q : Nat} {t : List UInt8} {pre cur : List Value} {k : Nat} (h : AtQ wr q t pre cur k k) (hw : wr k = false) (hn : needs q t k) : AtQ wr q t pre (cur ++ [.int .u8 92] ++ [.int .u8 (tb t k : Nat)]) (k + 1) (k + 1) := by
  have e := h.here
  unfold AtQ
  rw [take_none t (k + 1) (k + 1) (Nat.le_refl _), outW_succ, hw, e]
  unfold outB
  rw [if_pos hn]
  simp [cells, tb]
theorem AtQ.len {wr : Nat → Bool} {q : Nat} {t : List UInt8} {pre cur : List Value} {j k : Nat} (h : AtQ wr q t pre cur j k) : cur.length ≤ pre.length + 4 * k := by
  have := congrArg List.length h
  simp only [List.length_append, cells_len] at this
  have := outW_le wr q t k
  omega
theorem runeOne {x : Nat} (h : x < 128) : Lib.runeCells (x : Int) = [.int .u8 (x : Nat)] := by
  unfold Lib.runeCells
  rw [Lib.encodeRuneZ_one (by omega) (by omega)]
  rfl
theorem cut_at (s : ByteArray) (i j : Nat) (x y : Int) (hx : x = i) (hy : y = j) (hij : i ≤ j) (hj : j ≤ s.size) (W : World) : (Instr.sliceAt 9 (.string s) (some (.int .i64 x)) (some (.int .i64 y)) none).run Tryf.prog W = .ok (.string (s.extract i j)) W := by
  subst hx hy
  rw [run_sliceAt_string W 9 _ _ _ _ Tryf.underlying9, run_slice_string W 9 s .i64 .i64 (i : Int) (j : Int) Tryf.underlying9 (by omega) (by omega) (by omega)]
  simp
set_option maxRecDepth 100000 in
theorem has0 (w : World) : Calls Tryf.prog 18 #[.int .u16 0, .int .u16 64] w fun e w' => e = .returned (.bool false) ∧ w = w' := by
  go_enter Tryf.func18, Tryf.ntmps18
  go_wp2
  go_ret
  exact ⟨rfl, rfl⟩
theorem zf {c : Nat} {a u : Int} {b : Bool} (h : (c : Int) = a) (hu : (a == u) = b) : ((c : Int) == u) = b := by rw [h]; exact hu
theorem zn {c : Nat} (u : Nat) (h : ¬ c = u) : ((c : Int) == (u : Int)) = false := beq_eq_false_iff_ne.2 (by omega)
theorem notc {c x u : Nat} (hlow : x < 128 → c = x) (hhigh : 128 ≤ x → 128 ≤ c) (hu : u < 128) (hx : ¬ x = u) : ¬ c = u := by
  rcases Nat.lt_or_ge x 128 with h | h
  · have := hlow h; omega
  · have := hhigh h; omega
end Go.Proofs.YtachkgmngahpoaaFmt
