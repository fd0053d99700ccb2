/- Plain facts: a text cut at forbidden characters, two ways to say it; and that what comes out is clean and stays as it is. -/
import Derived.Test.YtddjbbipmfcnaaaDec
import Derived.Lib.RuneBytes
namespace Go.Proofs.Ytddjbbipmfcnaaa
open Go.RowKit
set_option linter.unusedVariables false
set_option linter.unusedSimpArgs false

def forb (c : Nat) : Bool := decide (c < 32) || c == 60 || c == 62 || c == 58 || c == 34 || c == 124 || c == 63 || c == 42
theorem forb_t (c : Nat) : forb c = true ↔ c < 32 ∨ c = 60 ∨ c = 62 ∨ c = 58 ∨ c = 34 ∨ c = 124 ∨ c = 63 ∨ c = 42 := by
  unfold forb; simp [or_assoc]
theorem forb_f (c : Nat) : forb c = false ↔ ¬ (c < 32 ∨ c = 60 ∨ c = 62 ∨ c = 58 ∨ c = 34 ∨ c = 124 ∨ c = 63 ∨ c = 42) := by
  rw [← forb_t]; simp
/-- The program's way: what is written, and whether a gap is owed. -/
def sanStep (c : Nat) (l : List UInt8) (g : Bool) : List UInt8 × Bool :=
  if forb c = true then (l, if l = [] then g else true) else ((if g = true then l ++ [95] else l) ++ Lib.encodeRune c, false)
def sanTo (s : ByteArray) : Nat → Nat → List UInt8 → Bool → List UInt8 × Bool
  | 0, _, l, g => (l, g)
  | f + 1, pos, l, g => if pos < s.size then sanTo s f (pos + (Utf8.decode s pos).2) (sanStep (Utf8.decode s pos).1 l g).1 (sanStep (Utf8.decode s pos).1 l g).2 else (l, g)
def named (l : List UInt8) : List UInt8 := if l = [] then [95] else l
def san (s : ByteArray) : List UInt8 := named (sanTo s s.size 0 [] false).1
/-- The model's way: the pieces joined so far, and the piece at hand. -/
def flush (out run : List UInt8) : List UInt8 := if run = [] then out else (if out = [] then out else out ++ [95]) ++ run
def modStep (c : Nat) (o r : List UInt8) : List UInt8 × List UInt8 := if forb c = true then (flush o r, []) else (o, r ++ Lib.encodeRune c)
def modTo (s : ByteArray) : Nat → Nat → List UInt8 → List UInt8 → List UInt8 × List UInt8
  | 0, _, o, r => (o, r)
  | f + 1, pos, o, r => if pos < s.size then modTo s f (pos + (Utf8.decode s pos).2) (modStep (Utf8.decode s pos).1 o r).1 (modStep (Utf8.decode s pos).1 o r).2 else (o, r)
def model (s : ByteArray) : List UInt8 := named (flush (modTo s s.size 0 [] []).1 (modTo s s.size 0 [] []).2)

theorem enc_ne (c : Int) : Lib.encodeRune c ≠ [] := by
  intro h
  have := Lib.runeCells_le c
  rw [Lib.runeCells_length, h] at this
  simp at this
theorem sanTo_end (s : ByteArray) (f pos : Nat) (l : List UInt8) (g : Bool) (h : ¬ pos < s.size) : sanTo s f pos l g = (l, g) := by
  cases f with
  | zero => rfl
  | succ f => rw [sanTo, if_neg h]
theorem modTo_end (s : ByteArray) (f pos : Nat) (o r : List UInt8) (h : ¬ pos < s.size) : modTo s f pos o r = (o, r) := by
  cases f with
  | zero => rfl
  | succ f => rw [modTo, if_neg h]
def SameAs (l : List UInt8) (g : Bool) (o r : List UInt8) : Prop := l = flush o r ∧ (g = true ↔ r = [] ∧ o ≠ [])
theorem same_step (c : Nat) (l : List UInt8) (g : Bool) (o r : List UInt8) (h : SameAs l g o r) : SameAs (sanStep c l g).1 (sanStep c l g).2 (modStep c o r).1 (modStep c o r).2 := by
  obtain ⟨rfl, hg⟩ := h
  unfold sanStep modStep
  by_cases hf : forb c = true
  · simp only [hf, if_true]
    refine ⟨by simp [flush], ?_⟩
    by_cases hn : flush o r = []
    · simp only [hn, if_true]
      constructor
      · intro h
        have := hg.1 h
        simp [flush, this.1] at hn
        exact absurd hn this.2
      · rintro ⟨_, h⟩; exact absurd rfl h
    · simp [hn]
  · simp only [hf, if_false]
    have he := enc_ne (c : Int)
    refine ⟨?_, by simp [he]⟩
    by_cases hgt : g = true
    · obtain ⟨rfl, ho⟩ := hg.1 hgt
      simp [hgt, flush, ho, he]
    · have hgf : g = false := by simpa using hgt
      subst hgf
      by_cases hr : r = []
      · subst hr
        have ho : o = [] := by
          by_cases ho : o = []
          · exact ho
          · exact absurd (hg.2 ⟨rfl, ho⟩) (by simp)
        subst ho
        simp [flush, he]
      · simp [flush, hr, he]
theorem same_to (s : ByteArray) (f : Nat) : ∀ pos l g o r, SameAs l g o r → SameAs (sanTo s f pos l g).1 (sanTo s f pos l g).2 (modTo s f pos o r).1 (modTo s f pos o r).2 := by
  induction f with
  | zero => intro pos l g o r h; exact h
  | succ f ih =>
    intro pos l g o r h
    by_cases hp : pos < s.size
    · rw [sanTo, if_pos hp, modTo, if_pos hp]
      exact ih _ _ _ _ _ (same_step _ _ _ _ _ h)
    · rw [sanTo_end _ _ _ _ _ hp, modTo_end _ _ _ _ _ hp]; exact h
theorem san_model (s : ByteArray) : san s = model s := by
  unfold san model
  have := (same_to s s.size 0 [] false [] [] ⟨by simp [flush], by simp⟩).1
  rw [this]

/-! What comes out is made of whole runes, none of them forbidden. -/
def encAll (rs : List Nat) : List UInt8 := rs.flatMap fun (c : Nat) => Lib.encodeRune (c : Int)
def Clean (rs : List Nat) : Prop := ∀ c ∈ rs, forb c = false ∧ (c < 55296 ∨ 57344 ≤ c ∧ c ≤ 1114111)
theorem encAll_app (a b : List Nat) : encAll (a ++ b) = encAll a ++ encAll b := by unfold encAll; rw [List.flatMap_append]
theorem enc_ascii (c : Nat) (h : c < 128) : Lib.encodeRune (c : Int) = [UInt8.ofNat c] := by
  unfold Lib.encodeRune
  rw [Lib.encodeRuneZ_one (by omega) (by omega)]
  simp
theorem encAll_95 : encAll [95] = [95] := by
  unfold encAll
  rw [List.flatMap_cons, List.flatMap_nil, enc_ascii 95 (by omega)]; rfl
theorem dec_scalar (b0 b1 b2 b3 n : Nat) (hb0 : b0 < 256) : (dec b0 b1 b2 b3 n).1 < 55296 ∨ 57344 ≤ (dec b0 b1 b2 b3 n).1 ∧ (dec b0 b1 b2 b3 n).1 ≤ 1114111 := by
  unfold dec
  by_cases a0 : b0 < 128
  · rw [if_pos a0]; left; simp only; omega
  · rw [if_neg a0]
    split
    · split
      · left; simp only; omega
      · right; simp
    · split
      · split
        · rename_i h; have := (valid_nat _).1 h.2; simpa using this
        · right; simp
      · split
        · split
          · rename_i h; have := (valid_nat _).1 h.2; simpa using this
          · right; simp
        · right; simp
theorem decode_scalar (s : ByteArray) (pos : Nat) : (Utf8.decode s pos).1 < 55296 ∨ 57344 ≤ (Utf8.decode s pos).1 ∧ (Utf8.decode s pos).1 ≤ 1114111 := by
  rw [decode_dec]; exact dec_scalar _ _ _ _ _ (byteAt_lt _ _)
theorem clean_step (c : Nat) (l : List UInt8) (g : Bool) (hc : c < 55296 ∨ 57344 ≤ c ∧ c ≤ 1114111) (h : ∃ rs, l = encAll rs ∧ Clean rs) : ∃ rs, (sanStep c l g).1 = encAll rs ∧ Clean rs := by
  obtain ⟨rs, rfl, hr⟩ := h
  unfold sanStep
  by_cases hf : forb c = true
  · simp only [hf, if_true]; exact ⟨rs, rfl, hr⟩
  · simp only [hf, if_false]
    have hf' : forb c = false := by simpa using hf
    have e1 : encAll [c] = Lib.encodeRune (c : Int) := by simp [encAll]
    cases g with
    | true =>
      refine ⟨rs ++ [95] ++ [c], by rw [encAll_app, encAll_app, encAll_95, e1]; simp, fun x hx => ?_⟩
      simp only [List.append_assoc, List.mem_append, List.mem_cons, List.not_mem_nil, or_false] at hx
      rcases hx with hx | rfl | rfl
      · exact hr x hx
      · exact ⟨by decide, .inl (by omega)⟩
      · exact ⟨hf', hc⟩
    | false =>
      refine ⟨rs ++ [c], by rw [encAll_app, e1]; simp, fun x hx => ?_⟩
      simp only [List.mem_append, List.mem_cons, List.not_mem_nil, or_false] at hx
      rcases hx with hx | rfl
      · exact hr x hx
      · exact ⟨hf', hc⟩
theorem clean_to (s : ByteArray) (f : Nat) : ∀ pos l g, (∃ rs, l = encAll rs ∧ Clean rs) → ∃ rs, (sanTo s f pos l g).1 = encAll rs ∧ Clean rs := by
  induction f with
  | zero => intro pos l g h; exact h
  | succ f ih =>
    intro pos l g h
    by_cases hp : pos < s.size
    · rw [sanTo, if_pos hp]
      exact ih _ _ _ (clean_step _ _ _ (decode_scalar s pos) h)
    · rw [sanTo_end _ _ _ _ _ hp]; exact h
theorem san_clean (s : ByteArray) : ∃ rs, san s = encAll rs ∧ Clean rs ∧ rs ≠ [] := by
  obtain ⟨rs, h1, h2⟩ := clean_to s s.size 0 [] false ⟨[], rfl, fun _ h => by cases h⟩
  unfold san named
  by_cases hn : (sanTo s s.size 0 [] false).1 = []
  · rw [if_pos hn]
    exact ⟨[95], encAll_95.symm, fun c hc => by
      simp only [List.mem_cons, List.not_mem_nil, or_false] at hc
      subst hc
      exact ⟨by decide, .inl (by omega)⟩, by simp⟩
  · rw [if_neg hn]
    refine ⟨rs, h1, h2, ?_⟩
    rintro rfl
    exact hn h1
end Go.Proofs.Ytddjbbipmfcnaaa
