/- Plain facts: the model of the order of versions, and that CompareSemver's sign is the model's. -/
import Derived.Test.YtanhijhhceakjaaDoorSmP
namespace Go.Proofs.YtanhijhhceakjaaDoor
set_option linter.unusedVariables false
set_option linter.unusedSimpArgs false
def idsF : Nat → Bs → List Bs
  | 0, _ => []
  | f + 1, l => if l = [] then [] else hdP l :: idsF f (tlP l)
theorem idsF_succ (f : Nat) (l : Bs) : idsF (f + 1) l = if l = [] then [] else hdP l :: idsF f (tlP l) := by rw [idsF]
theorem idsF_more (f : Nat) : ∀ l : Bs, l.length ≤ f → idsF (f + 1) l = idsF f l := by
  induction f with
  | zero =>
    intro l h
    have : l = [] := List.eq_nil_of_length_eq_zero (by omega)
    rw [idsF_succ, if_pos this, idsF]
  | succ f ih =>
    intro l h
    rw [idsF_succ (f + 1) l, idsF_succ f l]
    by_cases e : l = []
    · rw [if_pos e, if_pos e]
    · rw [if_neg e, if_neg e, ih _ (by have := tlP_lt l e; omega)]
/-- The text cut at every dot, an empty last piece dropped. -/
def idl (l : Bs) : List Bs := idsF l.length l
theorem idsF_idl (f : Nat) (l : Bs) (h : l.length ≤ f) : idsF f l = idl l := by
  unfold idl
  induction f with
  | zero => rw [show l.length = 0 by omega]
  | succ f ih =>
    by_cases e : l.length = f + 1
    · rw [e]
    · rw [idsF_more f l (by omega)]; exact ih (by omega)
theorem idl_nil : idl [] = [] := by unfold idl; rw [List.length_nil, idsF]
theorem idl_cons (l : Bs) (h : l ≠ []) : idl l = hdP l :: idl (tlP l) := by
  have hl := tlP_lt l h
  obtain ⟨n, hn⟩ : ∃ n, l.length = n + 1 := ⟨l.length - 1, by omega⟩
  rw [show idl l = idsF (n + 1) l by unfold idl; rw [hn], idsF_succ, if_neg h, idsF_idl n _ (by omega)]
def dgB (x : Bs) : Bool := digL x && !x.isEmpty
theorem dgB_iff (x : Bs) : dgB x = true ↔ digL x = true ∧ x ≠ [] := by unfold dgB; simp
/-- The model's order of two different pieces. -/
def mHead (x y : Bs) : Int :=
  if dgB x = true ∧ dgB y = true then
    if decL 0 x < decL 0 y then -1 else if decL 0 y < decL 0 x then 1 else if x.length < y.length then -1 else 1
  else if dgB x = true then -1 else if dgB y = true then 1 else if Op.bytesLess x y then -1 else 1
def mIds : List Bs → List Bs → Int
  | [], [] => 0
  | [], _ :: _ => -1
  | _ :: _, [] => 1
  | x :: xs, y :: ys => if x = y then mIds xs ys else mHead x y
def short (x : Bs) : Prop := ¬ (9 < x.length ∧ dgB x = true)
theorem decL_lt (l : Bs) : ∀ acc, digL l = true → decL acc l < (acc + 1) * 10 ^ l.length := by
  induction l with
  | nil => intro acc _; rw [decL_nil]; simp
  | cons c r ih =>
    intro acc h
    simp only [digL, List.all_cons, Bool.and_eq_true] at h
    have h1 : 48 ≤ c.toNat ∧ c.toNat ≤ 57 := by simpa [isD] using h.1
    have := ih (acc * 10 + (c.toNat - 48)) h.2
    rw [decL_cons, List.length_cons, Nat.pow_succ]
    have h3 : (acc * 10 + (c.toNat - 48) + 1) * 10 ^ r.length ≤ (acc + 1) * 10 * 10 ^ r.length := Nat.mul_le_mul_right _ (by omega)
    have h4 : (acc + 1) * (10 ^ r.length * 10) = (acc + 1) * 10 * 10 ^ r.length := by rw [Nat.mul_comm (10 ^ r.length) 10, Nat.mul_assoc]
    rw [h4]
    exact Nat.lt_of_lt_of_le this h3
theorem decL_inj (x : Bs) : ∀ (y : Bs) (a b : Nat), x.length = y.length → digL x = true → digL y = true → decL a x = decL b y → a = b ∧ x = y := by
  induction x with
  | nil =>
    intro y a b hl _ _ h
    have : y = [] := List.eq_nil_of_length_eq_zero hl.symm
    subst this
    rw [decL_nil, decL_nil] at h
    exact ⟨h, rfl⟩
  | cons c r ih =>
    intro y a b hl hx hy h
    cases y with
    | nil => simp at hl
    | cons d s =>
      simp only [digL, List.all_cons, Bool.and_eq_true] at hx hy
      have h1 : 48 ≤ c.toNat ∧ c.toNat ≤ 57 := by simpa [isD] using hx.1
      have h2 : 48 ≤ d.toNat ∧ d.toNat ≤ 57 := by simpa [isD] using hy.1
      rw [decL_cons, decL_cons] at h
      obtain ⟨e1, e2⟩ := ih s _ _ (by simpa using hl) hx.2 hy.2 h
      have e3 : c = d := UInt8.toNat_inj.1 (by omega)
      exact ⟨by omega, by rw [e2, e3]⟩
theorem pr_short (x : Bs) (h : short x) (hd : dgB x = true) : prB x = true ∧ prN x = decL 0 x := by
  obtain ⟨h1, h2⟩ := (dgB_iff x).1 hd
  have hl : x.length ≤ 9 := by
    rcases Nat.lt_or_ge 9 x.length with q | q
    · exact absurd ⟨q, hd⟩ h
    · exact q
  have h3 := decL_lt x 0 h1
  have h4 : 10 ^ x.length ≤ 10 ^ 9 := Nat.pow_le_pow_right (by omega) hl
  have h5 : (10 : Nat) ^ 9 = 1000000000 := by decide
  have h6 : decL 0 x < 9223372036854775808 := by omega
  unfold prB prN
  rw [if_pos ⟨h1, h2⟩, if_pos h6]
  exact ⟨by simp [h1, h2, h6], rfl⟩
theorem pr_nodig (x : Bs) (hd : dgB x = false) : prB x = false := by
  unfold prB
  rw [decide_eq_false_iff_not]
  rintro ⟨h1, h2, _⟩
  rw [(dgB_iff x).2 ⟨h1, h2⟩] at hd
  cases hd
theorem sgn_head (x y : Bs) (hne : x ≠ y) (hx : short x) (hy : short y) : sgn (headCmp x y) = mHead x y := by
  unfold headCmp mHead
  cases dx : dgB x <;> cases dy : dgB y
  · rw [pr_nodig x dx, pr_nodig y dy]
    simp
    split <;> decide
  · rw [pr_nodig x dx, (pr_short y hy dy).1]
    simp; decide
  · rw [pr_nodig y dy, (pr_short x hx dx).1]
    simp; decide
  · rw [(pr_short x hx dx).1, (pr_short y hy dy).1, (pr_short x hx dx).2, (pr_short y hy dy).2]
    simp only [and_self, if_true, Bool.true_eq_false, if_false]
    by_cases e : decL 0 x = decL 0 y
    · rw [if_pos (by omega), if_neg (by omega), if_neg (by omega)]
      have hl : x.length ≠ y.length := fun q => hne (decL_inj x y 0 0 q ((dgB_iff x).1 dx).1 ((dgB_iff y).1 dy).1 e).2
      unfold sgn
      by_cases q : x.length < y.length
      · rw [if_pos (by omega), if_pos q]
      · rw [if_neg (by omega), if_pos (by omega), if_neg q]
    · rw [if_neg (by omega)]
      unfold sgn
      by_cases q : decL 0 x < decL 0 y
      · rw [if_pos (by omega), if_pos q]
      · rw [if_neg (by omega), if_pos (by omega), if_neg q, if_pos (by omega)]
theorem sgn_tail (n : Nat) : ∀ a b : Bs, a.length ≤ n → (∀ x ∈ idl a, short x) → (∀ x ∈ idl b, short x) → sgn (tlC a b) = mIds (idl a) (idl b) := by
  induction n with
  | zero =>
    intro a b h _ _
    have : a = [] := List.eq_nil_of_length_eq_zero (by omega)
    subst this
    rw [tlC_end _ _ (.inl rfl), idl_nil]
    by_cases e : b = []
    · subst e; rw [idl_nil]; rfl
    · rw [idl_cons b e, mIds]
      have : 0 < b.length := List.length_pos_iff.2 e
      unfold sgn; rw [List.length_nil, if_pos (by omega)]
  | succ n ih =>
    intro a b h ha hb
    by_cases ea : a = []
    · subst ea
      rw [tlC_end _ _ (.inl rfl), idl_nil]
      by_cases e : b = []
      · subst e; rw [idl_nil]; rfl
      · rw [idl_cons b e, mIds]
        have : 0 < b.length := List.length_pos_iff.2 e
        unfold sgn; rw [List.length_nil, if_pos (by omega)]
    · by_cases eb : b = []
      · subst eb
        rw [tlC_end _ _ (.inr rfl), idl_nil, idl_cons a ea, mIds]
        have : 0 < a.length := List.length_pos_iff.2 ea
        unfold sgn; rw [List.length_nil, if_neg (by omega), if_pos (by omega)]
      · have ia := idl_cons a ea
        have ib := idl_cons b eb
        rw [ia, ib, mIds]
        by_cases e : hdP a = hdP b
        · rw [if_pos e, tlC_next a b ea eb e]
          exact ih _ _ (by have := tlP_lt a ea; omega) (fun x hx => ha x (by rw [ia]; simp [hx])) (fun x hx => hb x (by rw [ib]; simp [hx]))
        · rw [if_neg e, tlC_stop a b ea eb e]
          exact sgn_head _ _ e (ha _ (by rw [ia]; simp)) (hb _ (by rw [ib]; simp))
/-- The model. -/
def mdl (zs ys : List Int) (a b : Bs) : Int :=
  let d := parD (fun i => zs.getD i 0 - ys.getD i 0) (max zs.length ys.length) 0
  if d ≠ 0 then sgn d
  else if (a.isEmpty != b.isEmpty) = true then (if a.isEmpty = true then 1 else -1)
  else mIds (idl (stripP a)) (idl (stripP b))
theorem sgn_sem (zs ys : List Int) (a b : Bs) (ha : ∀ x ∈ idl (stripP a), short x) (hb : ∀ x ∈ idl (stripP b), short x) : sgn (semC zs ys a b) = mdl zs ys a b := by
  unfold semC mdl
  generalize parD (fun i => zs.getD i 0 - ys.getD i 0) (max zs.length ys.length) 0 = d
  dsimp only
  by_cases e : d = 0
  · subst e
    rw [if_neg (show ¬ ((0 : Int) ≠ 0) by omega), if_neg (show ¬ ((0 : Int) ≠ 0) by omega)]
    by_cases q : (a.isEmpty != b.isEmpty) = true
    · rw [if_pos q, if_pos q]
      cases a with
      | nil =>
        cases b with
        | nil => simp at q
        | cons c r => unfold sgn; simp <;> try omega
      | cons c r =>
        cases b with
        | nil => unfold sgn; simp <;> try omega
        | cons c' r' => simp at q
    · rw [if_neg q, if_neg q]
      exact sgn_tail _ _ _ (Nat.le_refl _) ha hb
  · rw [if_pos e, if_pos e]
end Go.Proofs.YtanhijhhceakjaaDoor
