/- AllocateTopLevelSymbolSlots: what it keeps (slots by namespace, slot of each symbol), plainly and in memory. -/
import Derived.Test.YtlpmkbdglpnjhaaAcc
import Derived.Test.YtlpmkbdglpnjhaaRfk
namespace Go.Proofs.Ytlpmkbdglpnjhaa
open Go.RowKit Go.Maps Go.WideMaps
set_option linter.unusedVariables false
set_option linter.unusedSimpArgs false
def nsJ (kd : Int) : Nat := if kd = 18 then 1 else 0
theorem nsJ_lt (kd : Int) : nsJ kd < 4 := by unfold nsJ; split <;> omega
/-- A list of slots as cells: no name, the count, the capital. -/
def slC (l : List (Int × Int)) : List Value := l.flatMap fun p => [.string ⟨#[]⟩, .int .u32 p.1, .int .u32 p.2]
theorem slC_cons (p : Int × Int) (l : List (Int × Int)) : slC (p :: l) = .string ⟨#[]⟩ :: .int .u32 p.1 :: .int .u32 p.2 :: slC l := rfl
theorem slC_app (l : List (Int × Int)) (p : Int × Int) : slC (l ++ [p]) = slC l ++ [.string ⟨#[]⟩, .int .u32 p.1, .int .u32 p.2] := by
  unfold slC; rw [List.flatMap_append]; rfl
theorem slC_len (l : List (Int × Int)) : (slC l).length = l.length * 3 := by
  induction l with
  | nil => rfl
  | cons p l ih => rw [slC_cons]; simp [ih]; omega
theorem slC_at : ∀ (l : List (Int × Int)) (k : Nat) (p : Int × Int), l[k]? = some p → (slC l)[k * 3]? = some (.string ⟨#[]⟩) ∧ (slC l)[k * 3 + 1]? = some (.int .u32 p.1) ∧ (slC l)[k * 3 + 2]? = some (.int .u32 p.2)
  | [], k, p, h => by cases h
  | a :: l, 0, p, h => by
    obtain rfl : a = p := Option.some.inj h
    exact ⟨rfl, rfl, rfl⟩
  | a :: l, k + 1, p, h => by
    obtain ⟨h0, h1, h2⟩ := slC_at l k p (by simpa using h)
    rw [slC_cons, show (k + 1) * 3 = k * 3 + 1 + 1 + 1 by omega, show k * 3 + 1 + 1 + 1 + 1 = (k * 3 + 1) + 1 + 1 + 1 by omega, show k * 3 + 1 + 1 + 1 + 2 = (k * 3 + 2) + 1 + 1 + 1 by omega]
    simp only [List.getElem?_cons_succ]
    exact ⟨h0, h1, h2⟩
theorem slC_cnt : ∀ (l : List (Int × Int)) (k : Nat) (p : Int × Int) (c : Int), l[k]? = some p → (slC l).set (k * 3 + 1) (.int .u32 c) = slC (l.set k (c, p.2))
  | [], k, p, c, h => by cases h
  | a :: l, 0, p, c, h => by
    obtain rfl : a = p := Option.some.inj h
    rfl
  | a :: l, k + 1, p, c, h => by
    rw [List.set_cons_succ, slC_cons, slC_cons, ← slC_cnt l k p c (by simpa using h), show (k + 1) * 3 + 1 = (k * 3 + 1) + 1 + 1 + 1 by omega]
    rfl
theorem slC_cap : ∀ (l : List (Int × Int)) (k : Nat) (p : Int × Int) (c : Int), l[k]? = some p → (slC l).set (k * 3 + 2) (.int .u32 c) = slC (l.set k (p.1, c))
  | [], k, p, c, h => by cases h
  | a :: l, 0, p, c, h => by
    obtain rfl : a = p := Option.some.inj h
    rfl
  | a :: l, k + 1, p, c, h => by
    rw [List.set_cons_succ, slC_cons, slC_cons, ← slC_cap l k p c (by simpa using h), show (k + 1) * 3 + 2 = (k * 3 + 2) + 1 + 1 + 1 by omega]
    rfl
structure TS where
  sl : Nat → List (Int × Int)
  tm : Nat → Option Nat
def updL (f : Nat → List (Int × Int)) (j : Nat) (l : List (Int × Int)) : Nat → List (Int × Int) := fun m => if m = j then l else f m
theorem updL_at (f : Nat → List (Int × Int)) (j : Nat) (l : List (Int × Int)) : updL f j l j = l := if_pos rfl
theorem updL_ne {f : Nat → List (Int × Int)} {j m : Nat} {l : List (Int × Int)} (h : m ≠ j) : updL f j l m = f m := if_neg h
/-- One entry. -/
def tStep (S : Nat → SymR) (t : TS) (e : Nat × Int) : TS :=
  match t.tm e.1 with
  | some k => ⟨updL t.sl (nsJ (S e.1).kd) ((t.sl (nsJ (S e.1).kd)).set k (IntKind.u32.wrap (((t.sl (nsJ (S e.1).kd)).getD k (0, 0)).1 + e.2), if bits .and .u16 (S e.1).fl 2 = 0 then ((t.sl (nsJ (S e.1).kd)).getD k (0, 0)).2 else 1)), t.tm⟩
  | none => ⟨updL t.sl (nsJ (S e.1).kd) (t.sl (nsJ (S e.1).kd) ++ [(e.2, if bits .and .u16 (S e.1).fl 2 = 0 then 0 else 1)]), fun m => if m = e.1 then some (t.sl (nsJ (S e.1).kd)).length else t.tm m⟩
/-- Each slot that the map names is there; the lists are short. -/
structure TOk (S : Nat → SymR) (M : Nat) (t : TS) : Prop where
  inn : ∀ i k, t.tm i = some k → k < (t.sl (nsJ (S i).kd)).length
  len : ∀ j, (t.sl j).length ≤ M
theorem TOk.step {S : Nat → SymR} {M : Nat} {t : TS} (h : TOk S M t) (e : Nat × Int) : TOk S (M + 1) (tStep S t e) := by
  unfold tStep
  cases he : t.tm e.1 with
  | some k =>
    refine ⟨fun i k' hk => ?_, fun j => ?_⟩
    · have := h.inn i k' hk
      simp only
      by_cases c : nsJ (S i).kd = nsJ (S e.1).kd
      · rw [c, updL_at, List.length_set, ← c]; exact this
      · rw [updL_ne c]; exact this
    · simp only
      by_cases c : j = nsJ (S e.1).kd
      · rw [c, updL_at, List.length_set]; have := h.len (nsJ (S e.1).kd); omega
      · rw [updL_ne c]; have := h.len j; omega
  | none =>
    refine ⟨fun i k' hk => ?_, fun j => ?_⟩
    · simp only at hk ⊢
      by_cases c : nsJ (S i).kd = nsJ (S e.1).kd
      · rw [c, updL_at, List.length_append]
        by_cases c2 : i = e.1
        · rw [if_pos c2] at hk; have := Option.some.inj hk; simp; omega
        · rw [if_neg c2] at hk; have := h.inn i k' hk; rw [c] at this; simp; omega
      · rw [updL_ne c]
        by_cases c2 : i = e.1
        · exact absurd (by rw [c2]) c
        · rw [if_neg c2] at hk; exact h.inn i k' hk
    · simp only
      by_cases c : j = nsJ (S e.1).kd
      · rw [c, updL_at, List.length_append]; have := h.len (nsJ (S e.1).kd); simp; omega
      · rw [updL_ne c]; have := h.len j; omega
abbrev TMap (w : World) (b n : Nat) (D : DataW Unit) : Prop := w.ownsMap (H := Unit) Try.prog 40 (plainElem Try.prog 24) b n D
/-- The map's keys, told by a list. -/
def KS (tm : Nat → Option Nat) (D : DataW Unit) : Prop := ∃ ks : List Nat, ks.Nodup ∧ (∀ r, (tm r).isSome = true ↔ r ∈ ks) ∧ Go.Maps.size D = ks.length
/-- What the map answers. -/
def TIs (tm : Nat → Option Nat) (D : DataW Unit) : Prop :=
  (∀ r : Nat, r ≤ 4294967295 → has D (refK r) = (tm r).isSome ∧ D.atKey (refK r) (.lit (.int .u32 0)) = .lit (.int .u32 (((tm r).getD 0 : Nat) : Int))) ∧ KS tm D
theorem refK_isKey (r : Nat) : WideAt.IsKeyLit (refK r) := by simp [refK, WideAt.IsKeyLit]
theorem TIs.step {tm : Nat → Option Nat} {D : DataW Unit} (hD : Tidy D) (h : TIs tm D) {q : Nat} (hq : q ≤ 4294967295) (v : Nat) :
    TIs (fun m => if m = q then some v else tm m) (D.put (refK q) (.lit (.int .u32 v))) := by
  refine ⟨fun r hr => ?_, ?_⟩
  · obtain ⟨a, b⟩ := h.1 r hr
    simp only
    by_cases c : r = q
    · subst c
      rw [if_pos rfl]
      exact ⟨has_put_same hD.isMap (refK_isKey _) _, atKey_put_same hD.isMap (refK_isKey _) _ _⟩
    · have hne : refK r ≠ refK q := fun h => c (refK_inj hr hq h)
      rw [if_neg c]
      exact ⟨(has_put_other hne _).trans a, (atKey_put_other hne _ _).trans b⟩
  · obtain ⟨ks, hn, hm, hs⟩ := h.2
    have hq1 := (h.1 q hq).1
    by_cases c : (tm q).isSome = true
    · refine ⟨ks, hn, fun r => ?_, by rw [size_put hD, hq1, if_pos c, hs]⟩
      simp only
      by_cases e : r = q
      · rw [if_pos e, e]
        exact ⟨fun _ => (hm q).1 c, fun _ => rfl⟩
      · rw [if_neg e]
        exact hm r
    · refine ⟨q :: ks, List.nodup_cons.2 ⟨fun hk => c ((hm q).2 hk), hn⟩, fun r => ?_, by rw [size_put hD, hq1, if_neg c, hs]; rfl⟩
      simp only [List.mem_cons]
      by_cases e : r = q
      · rw [if_pos e]
        exact ⟨fun _ => .inl e, fun _ => rfl⟩
      · rw [if_neg e]
        exact ⟨fun h => .inr ((hm r).1 h), fun h => by rcases h with h | h; exact absurd h e; exact (hm r).2 h⟩
/-- A renamer in memory. -/
structure TRen (B o : Nat) (mo : Option Nat) (br gm : Nat) (vs : Nat → Value) (g n : Nat) (S : Nat → SymR) (N : Nat) (t : TS) (w : World) : Prop where
  blk : Blk w br 76 (renCells o mo (vs 0) (vs 1) (vs 2) (vs 3) (.map (some gm)))
  own : ∀ j, j < 4 → w.ownsRow B 83 3 (vs j) (t.sl j).length (slC (t.sl j))
  sep : ∀ i j, i < 4 → j < 4 → i ≠ j → ∀ b, (vs i).ownBlock = some b → (vs j).ownBlock ≠ some b
  map : ∃ k D, k ≤ N ∧ TMap w gm k D ∧ TIs t.tm D
  out : Out1 w o g n
  tab : Tbl w g n S
end Go.Proofs.Ytlpmkbdglpnjhaa
