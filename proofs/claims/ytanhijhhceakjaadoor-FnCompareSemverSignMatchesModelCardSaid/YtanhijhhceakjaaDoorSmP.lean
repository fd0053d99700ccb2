/- Plain facts: semantic versions compared: parts, then pre-release texts piece by piece. -/
import Derived.Test.YtanhijhhceakjaaDoorPre
import Derived.WalkLawsBesides
namespace Go.Proofs.YtanhijhhceakjaaDoor
set_option linter.unusedVariables false
set_option linter.unusedSimpArgs false
abbrev Bs := List UInt8
/-- Ahead of the first dot, and behind it. -/
def hdP (l : Bs) : Bs := l.takeWhile (· != 46)
def tlP (l : Bs) : Bs := (l.dropWhile (· != 46)).drop 1
theorem tlP_lt (l : Bs) (h : l ≠ []) : (tlP l).length < l.length := by
  unfold tlP
  have h1 : (l.dropWhile (· != 46)).length ≤ l.length := (List.dropWhile_sublist _).length_le
  cases l with
  | nil => exact absurd rfl h
  | cons c r => simp only [List.length_drop, List.length_cons] at *; omega
theorem hd_none (l : Bs) (h : ∀ c ∈ l, c ≠ 46) : hdP l = l ∧ tlP l = [] := by
  induction l with
  | nil => exact ⟨rfl, rfl⟩
  | cons c r ih =>
    have hc : (c != 46) = true := by simpa using h c (by simp)
    have := ih (fun d hd => h d (by simp [hd]))
    unfold hdP tlP at *
    rw [List.takeWhile_cons, List.dropWhile_cons, if_pos hc, if_pos hc]
    exact ⟨by rw [this.1], this.2⟩
theorem hd_some (a b : Bs) (h : ∀ c ∈ a, c ≠ 46) : hdP (a ++ 46 :: b) = a ∧ tlP (a ++ 46 :: b) = b := by
  induction a with
  | nil => exact ⟨rfl, rfl⟩
  | cons c r ih =>
    have hc : (c != 46) = true := by simpa using h c (by simp)
    have := ih (fun d hd => h d (by simp [hd]))
    unfold hdP tlP at *
    rw [List.cons_append, List.takeWhile_cons, List.dropWhile_cons, if_pos hc, if_pos hc]
    exact ⟨by rw [this.1], this.2⟩
def stripP (l : Bs) : Bs := if l.head? = some 45 then l.drop 1 else l
/-- Two different pieces compared. -/
def headCmp (x y : Bs) : Int :=
  if prB x = false ∧ prB y = false then (if Op.bytesLess x y then -1 else 1)
  else if prB x = true ∧ prB y = true then (if prN x = prN y then (x.length : Int) - y.length else prN x - prN y)
  else if prB x = true then -1 else 1
def tailCmp : Nat → Bs → Bs → Int
  | 0, a, b => (a.length : Int) - b.length
  | f + 1, a, b => if a = [] ∨ b = [] then (a.length : Int) - b.length else if hdP a = hdP b then tailCmp f (tlP a) (tlP b) else headCmp (hdP a) (hdP b)
theorem tailCmp_succ (f : Nat) (a b : Bs) : tailCmp (f + 1) a b = if a = [] ∨ b = [] then (a.length : Int) - b.length else if hdP a = hdP b then tailCmp f (tlP a) (tlP b) else headCmp (hdP a) (hdP b) := by rw [tailCmp]
theorem tailCmp_fuel (f : Nat) : ∀ a b : Bs, a.length ≤ f → tailCmp (f + 1) a b = tailCmp f a b := by
  induction f with
  | zero =>
    intro a b h
    have : a = [] := List.eq_nil_of_length_eq_zero (by omega)
    subst this
    simp [tailCmp]
  | succ f ih =>
    intro a b h
    rw [tailCmp_succ (f + 1) a b, tailCmp_succ f a b]
    by_cases h1 : a = [] ∨ b = []
    · rw [if_pos h1, if_pos h1]
    · rw [if_neg h1, if_neg h1]
      by_cases h2 : hdP a = hdP b
      · rw [if_pos h2, if_pos h2]
        exact ih _ _ (by have := tlP_lt a (fun e => h1 (.inl e)); omega)
      · rw [if_neg h2, if_neg h2]
/-- Enough fuel: the first text's length. -/
def tlC (a b : Bs) : Int := tailCmp a.length a b
theorem tailCmp_more (a b : Bs) (f : Nat) (h : a.length ≤ f) : tailCmp f a b = tlC a b := by
  unfold tlC
  induction f with
  | zero => rw [show a.length = 0 by omega]
  | succ f ih =>
    by_cases e : a.length = f + 1
    · rw [e]
    · rw [tailCmp_fuel f a b (by omega)]; exact ih (by omega)
theorem tlC_end (a b : Bs) (h : a = [] ∨ b = []) : tlC a b = (a.length : Int) - b.length := by
  unfold tlC
  cases hn : a.length with
  | zero => rw [tailCmp]; omega
  | succ n => rw [tailCmp, if_pos h]; omega
theorem tlC_next (a b : Bs) (ha : a ≠ []) (hb : b ≠ []) (h : hdP a = hdP b) : tlC a b = tlC (tlP a) (tlP b) := by
  have hl := tlP_lt a ha
  obtain ⟨n, hn⟩ : ∃ n, a.length = n + 1 := ⟨a.length - 1, by omega⟩
  rw [show tlC a b = tailCmp (n + 1) a b by unfold tlC; rw [hn], tailCmp_succ, if_neg (by simp [ha, hb]), if_pos h]
  exact tailCmp_more _ _ _ (by omega)
theorem tlC_stop (a b : Bs) (ha : a ≠ []) (hb : b ≠ []) (h : hdP a ≠ hdP b) : tlC a b = headCmp (hdP a) (hdP b) := by
  have hl := tlP_lt a ha
  obtain ⟨n, hn⟩ : ∃ n, a.length = n + 1 := ⟨a.length - 1, by omega⟩
  rw [show tlC a b = tailCmp (n + 1) a b by unfold tlC; rw [hn], tailCmp_succ, if_neg (by simp [ha, hb]), if_neg h]
/-- The sign. -/
def sgn (x : Int) : Int := if x < 0 then -1 else if 0 < x then 1 else 0
theorem sgn_neg (x : Int) : sgn (-x) = - sgn x := by unfold sgn; split <;> split <;> (try split) <;> (try split) <;> omega
theorem less_anti : ∀ x y : Bs, x ≠ y → Op.bytesLess x y = !Op.bytesLess y x := by
  intro x
  induction x with
  | nil => intro y h; cases y with
    | nil => exact absurd rfl h
    | cons c r => rfl
  | cons c r ih =>
    intro y h
    cases y with
    | nil => rfl
    | cons d s =>
      rw [Op.bytesLess, Op.bytesLess]
      by_cases e : c = d
      · subst e
        have h1 : ¬ c < c := by rw [UInt8.lt_iff_toNat_lt]; omega
        have := ih s (fun q => h (by rw [q]))
        simp [h1, this]
      · have hne : c.toNat ≠ d.toNat := fun q => e (UInt8.toNat_inj.1 q)
        have e1 : (c == d) = false := by simpa using e
        have e2 : (d == c) = false := by simpa using fun q : d = c => e q.symm
        rw [e1, e2]
        by_cases q : c < d
        · have q2 : ¬ d < c := by rw [UInt8.lt_iff_toNat_lt] at q ⊢; omega
          simp [q, q2]
        · have q2 : d < c := by rw [UInt8.lt_iff_toNat_lt] at q ⊢; omega
          simp [q, q2]
theorem headCmp_anti (x y : Bs) (h : x ≠ y) : headCmp y x = - headCmp x y := by
  have hl := less_anti x y h
  unfold headCmp
  cases hx : prB x <;> cases hy : prB y <;> simp
  · cases hb : Op.bytesLess y x <;> rw [hb] at hl <;> simp [hl]
  · by_cases e : prN x = prN y
    · rw [if_pos e, if_pos e.symm]; omega
    · rw [if_neg e, if_neg (fun q => e q.symm)]; omega
theorem tlC_anti (n : Nat) : ∀ a b : Bs, a.length ≤ n → tlC b a = - tlC a b := by
  induction n with
  | zero =>
    intro a b h
    have : a = [] := List.eq_nil_of_length_eq_zero (by omega)
    rw [tlC_end b a (.inr this), tlC_end a b (.inl this)]; omega
  | succ n ih =>
    intro a b h
    by_cases h1 : a = [] ∨ b = []
    · rw [tlC_end b a h1.symm, tlC_end a b h1]; omega
    · have ha : a ≠ [] := fun e => h1 (.inl e)
      have hb : b ≠ [] := fun e => h1 (.inr e)
      by_cases h2 : hdP a = hdP b
      · rw [tlC_next a b ha hb h2, tlC_next b a hb ha h2.symm]
        exact ih _ _ (by have := tlP_lt a ha; omega)
      · rw [tlC_stop a b ha hb h2, tlC_stop b a hb ha (fun e => h2 e.symm)]
        exact headCmp_anti _ _ h2
theorem tlC_refl (a : Bs) : tlC a a = 0 := by
  have := tlC_anti a.length a a (Nat.le_refl _)
  omega
/-- The first difference of the parts. -/
def parD (f : Nat → Int) : Nat → Nat → Int
  | 0, _ => 0
  | n + 1, i => if f i = 0 then parD f n (i + 1) else f i
theorem parD_zero (f : Nat → Int) (n i : Nat) (h : ∀ j, i ≤ j → j < i + n → f j = 0) : parD f n i = 0 := by
  induction n generalizing i with
  | zero => rfl
  | succ n ih => rw [parD, if_pos (h i (by omega) (by omega))]; exact ih (i + 1) (fun j h1 h2 => h j (by omega) (by omega))
theorem parD_first (f : Nat → Int) (n i k : Nat) (hk : i ≤ k) (hk2 : k < i + n) (h : ∀ j, i ≤ j → j < k → f j = 0) (hne : f k ≠ 0) : parD f n i = f k := by
  induction n generalizing i with
  | zero => omega
  | succ n ih =>
    rw [parD]
    by_cases e : i = k
    · subst e; rw [if_neg hne]
    · rw [if_pos (h i (by omega) (by omega))]
      exact ih (i + 1) (by omega) (by omega) (fun j h1 h2 => h j (by omega) h2)
theorem parD_neg (f g : Nat → Int) (h : ∀ i, g i = - f i) (n i : Nat) : parD g n i = - parD f n i := by
  induction n generalizing i with
  | zero => rfl
  | succ n ih =>
    rw [parD, parD, h i]
    by_cases e : f i = 0
    · rw [if_pos e, if_pos (by omega)]; exact ih _
    · rw [if_neg e, if_neg (by omega)]
/-- What CompareSemver answers. -/
def semC (zs ys : List Int) (a b : Bs) : Int :=
  let d := parD (fun i => zs.getD i 0 - ys.getD i 0) (max zs.length ys.length) 0
  if d ≠ 0 then d
  else if (a.isEmpty != b.isEmpty) = true then (b.length : Int) - a.length
  else tlC (stripP a) (stripP b)
theorem semC_anti (zs ys : List Int) (a b : Bs) : semC ys zs b a = - semC zs ys a b := by
  unfold semC
  have h := parD_neg (fun i => zs.getD i 0 - ys.getD i 0) (fun i => ys.getD i 0 - zs.getD i 0) (fun i => by omega) (max zs.length ys.length) 0
  rw [Nat.max_comm ys.length zs.length, h]
  generalize parD (fun i => zs.getD i 0 - ys.getD i 0) (max zs.length ys.length) 0 = d
  dsimp only
  by_cases e : d = 0
  · subst e
    rw [if_neg (show ¬ (-(0 : Int) ≠ 0) by omega), if_neg (show ¬ ((0 : Int) ≠ 0) by omega)]
    rw [bne_comm (a := b.isEmpty)]
    by_cases q : (a.isEmpty != b.isEmpty) = true
    · rw [if_pos q, if_pos q]; omega
    · rw [if_neg q, if_neg q]
      exact tlC_anti _ _ _ (Nat.le_refl _)
  · rw [if_pos e, if_pos (by omega)]
theorem semC_refl (zs : List Int) (a : Bs) : semC zs zs a a = 0 := by
  have := semC_anti zs zs a a
  omega
theorem bytes_toList (s : ByteArray) : s.toList = s.data.toList := ByteArray.toList_eq s
end Go.Proofs.YtanhijhhceakjaaDoor
