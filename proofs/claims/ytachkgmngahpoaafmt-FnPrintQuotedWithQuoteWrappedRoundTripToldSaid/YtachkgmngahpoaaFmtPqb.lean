/- printQuotedWithQuote where lines may be wrapped: plain facts. -/
import Derived.Test.YtachkgmngahpoaaFmtPqa
namespace Go.Proofs.YtachkgmngahpoaaFmt
open Go.RowKit
set_option linter.unusedVariables false
set_option linter.unusedSimpArgs false
/-- What a wrap ahead of byte k puts. -/
def ins (wr : Nat → Bool) (k : Nat) : List UInt8 := if wr k = true then [92, 10] else []
/-- As AtQ, behind the place where a line may be wrapped. -/
def AtV (wr : Nat → Bool) (q : Nat) (t : List UInt8) (pre cur : List Value) (j k : Nat) : Prop := cur ++ cells ((t.drop j).take (k - j)) = pre ++ cells (outW wr q t k ++ ins wr k)
theorem outW_tail (q : Nat) (t : List UInt8) (k : Nat) : ∀ d, ∃ r, ∀ wr : Nat → Bool, (∀ i, k < i → wr i = false) → outW wr q t (k + (d + 1)) = outW wr q t k ++ (ins wr k ++ r)
  | 0 => ⟨outB q t k, fun wr _ => rfl⟩
  | d + 1 => by
    obtain ⟨r, hr⟩ := outW_tail q t k d
    refine ⟨r ++ outB q t (k + (d + 1)), fun wr h => ?_⟩
    show outW wr q t ((k + (d + 1)) + 1) = _
    rw [outW_succ, hr wr h, h (k + (d + 1)) (by omega)]
    simp
theorem AtV.plain {wr : Nat → Bool} {q : Nat} {t : List UInt8} {pre cur : List Value} {j k wd : Nat} (h : AtV wr q t pre cur j k) (hj : j ≤ k) (hw : 0 < wd) (hf : ∀ i, k < i → wr i = false) (hp : plainW noW q t k wd) : AtQ wr q t pre cur j (k + wd) := by
  obtain ⟨d, rfl⟩ : ∃ d, wd = d + 1 := ⟨wd - 1, by omega⟩
  obtain ⟨r, hr⟩ := outW_tail q t k d
  unfold plainW at hp
  rw [hr noW (fun _ _ => rfl)] at hp
  have e : r = (t.drop k).take (d + 1) := by
    have h1 := List.append_cancel_left hp
    simpa [ins, noW] using h1
  unfold AtV at h
  unfold AtQ
  rw [take_more t j k (d + 1) hj, hr wr hf, e, cells_app, ← List.append_assoc, h, ← List.append_assoc (outW wr q t k), cells_app (outW wr q t k ++ ins wr k), List.append_assoc]
theorem AtV.flush {wr : Nat → Bool} {q : Nat} {t : List UInt8} {pre cur : List Value} {j k : Nat} (h : AtV wr q t pre cur j k) : AtV wr q t pre (cur ++ cells ((t.drop j).take (k - j))) k k := by
  unfold AtV at h ⊢
  rw [take_none t k k (Nat.le_refl _)]
  simpa [cells] using h
theorem AtV.here {wr : Nat → Bool} {q : Nat} {t : List UInt8} {pre cur : List Value} {k : Nat} (h : AtV wr q t pre cur k k) : cur = pre ++ cells (outW wr q t k ++ ins wr k) := by
  unfold AtV at h
  rw [take_none t k k (Nat.le_refl _)] at h
  simpa [cells] using h
theorem AtV.esc {wr : Nat → Bool} {q : Nat} {t : List UInt8} {pre cur : List Value} {k : Nat} (h : AtV wr q t pre cur k k) (hn : needs q t k) : AtQ wr q t pre (cur ++ [.int .u8 92] ++ [.int .u8 (tb t k : Nat)]) (k + 1) (k + 1) := by
  have e := h.here
  unfold AtQ
  rw [take_none t (k + 1) (k + 1) (Nat.le_refl _), outW_succ, e]
  unfold outB ins
  rw [if_pos hn]
  simp [cells, tb]
theorem AtV.len {wr : Nat → Bool} {q : Nat} {t : List UInt8} {pre cur : List Value} {j k : Nat} (h : AtV wr q t pre cur j k) : cur.length ≤ pre.length + 4 * k + 2 := by
  have := congrArg List.length h
  simp only [List.length_append, cells_len] at this
  have := outW_le wr q t k
  have h2 : (ins wr k).length ≤ 2 := by unfold ins; split <;> simp
  omega
/-- No wrap. -/
theorem AtQ.stay {wr : Nat → Bool} {q : Nat} {t : List UInt8} {pre cur : List Value} {j k : Nat} (h : AtQ wr q t pre cur j k) (hf : ∀ i, k ≤ i → wr i = false) : AtV wr q t pre cur j k := by
  unfold AtQ at h
  unfold AtV ins
  rw [hf k (Nat.le_refl _)]
  simpa using h
def setW (wr : Nat → Bool) (k : Nat) : Nat → Bool := fun i => if i = k then true else wr i
theorem setW_after {wr : Nat → Bool} {k : Nat} (hf : ∀ i, k ≤ i → wr i = false) : ∀ i, k < i → setW wr k i = false := fun i hi => by
  unfold setW; rw [if_neg (by omega)]; exact hf i (by omega)
/-- A wrap. -/
theorem AtQ.wrap {wr : Nat → Bool} {q : Nat} {t : List UInt8} {pre cur : List Value} {k : Nat} (h : AtQ wr q t pre cur k k) : AtV (setW wr k) q t pre (cur ++ [.int .u8 92, .int .u8 10]) k k := by
  have e := h.here
  unfold AtV
  have e2 : outW (setW wr k) q t k = outW wr q t k := outW_ext k (fun j hj => by unfold setW; rw [if_neg (by omega)])
  have e3 : ins (setW wr k) k = [92, 10] := by unfold ins setW; simp
  rw [take_none t k k (Nat.le_refl _), e2, e3, e, cells_app]
  simp [cells]
/-- What the printer leaves, where lines may have been wrapped. -/
def PrintedW (B b q : Nat) (t : List UInt8) (A : Option Addr) (bs : List Value) (w : World) (e : Ending) (w' : World) : Prop :=
  e = .returned (.tuple #[]) ∧ (∃ (wr : Nat → Bool) (K : Array Value) (A' : Option Addr) (cap' : Nat), IsP B b K A' cap' (bs ++ (qCells q ++ cells (outW wr q t t.length) ++ qCells q)) w' ∧ RowAt (rb A) (rb A') w.heap.size) ∧ Below B w w' ∧ Kept b (rb A) w w'
/-- The line's length: some number, whatever the row holds; the printer's notes of it change. -/
def CllPost (B b : Nat) (K : Array Value) (A : Option Addr) (cap n : Nat) (bs : List Value) (w : World) (e : Ending) (w' : World) : Prop :=
  ∃ (r : Nat) (K' : Array Value), e = .returned (.int .i64 r) ∧ r ≤ n ∧ IsP B b K' A cap bs w' ∧ (∀ i, i ≠ 41 → i ≠ 42 → K'[i]? = K[i]?) ∧ Below B w w' ∧ Kept b (rb A) w w'
theorem IsP.put_ {B b : Nat} {K : Array Value} {A : Option Addr} {cap : Nat} {bs : List Value} {w : World} (h : IsP B b K A cap bs w) {i : Nat} (hi : i ≠ 15) (v : Value) : IsP B b (K.setIfInBounds i v) A cap bs (w.setCell ⟨b, i, none⟩ v) := by
  have hne := own_blk_ne h.own h.blk (by decide)
  have hset := h.blk.set_ i v
  rw [Array.setIfInBounds_comm _ _ (fun e => hi e.symm)] at hset
  refine ⟨h.base, by rw [Array.size_setIfInBounds]; exact h.size, hset, ⟨h.own.1, ?_⟩⟩
  rcases h.own.2 with h2 | ⟨g, cap2, cur, a, b2, c2, d⟩
  · exact .inl h2
  · refine .inr ⟨g, cap2, cur, a, b2, ?_, d⟩
    rw [Below.heap_setCell _ _ _ _ (show g ≠ b by
      rintro rfl
      exact hne (by rw [a]; rfl))]
    exact c2
end Go.Proofs.YtachkgmngahpoaaFmt
