/- n011_102, AllocateTopLevel: what the fold of tStep keeps, and the law's own tally of it, plainly. -/
import Derived.Test.YtlpmkbdglpnjhaaAlp
namespace Go.Proofs.Ytlpmkbdglpnjhaa
open Go.RowKit Go.Maps Go.WideMaps
set_option linter.unusedVariables false
set_option linter.unusedSimpArgs false
abbrev nsS (S : Nat → SymR) (i : Nat) : Nat := nsJ (S i).kd
structure PInv (S : Nat → SymR) (cn : Nat → Nat) (T : TS) : Prop where
  lo : ∀ i k, T.tm i = some k → cn (nsS S i) ≤ k ∧ k < (T.sl (nsS S i)).length
  inj : ∀ i i' k, T.tm i = some k → T.tm i' = some k → nsS S i = nsS S i' → i = i'
  len : ∀ j, cn j ≤ (T.sl j).length
  zero : ∀ j k, k < cn j → ((T.sl j).getD k (0, 0)).1 = 0
theorem getD_set_same {l : List (Int × Int)} {k : Nat} (h : k < l.length) (v d : Int × Int) : (l.set k v).getD k d = v := by
  rw [List.getD_eq_getElem?_getD, List.getElem?_set_self h]; rfl
theorem getD_set_other {l : List (Int × Int)} {k m : Nat} (h : m ≠ k) (v d : Int × Int) : (l.set k v).getD m d = l.getD m d := by
  rw [List.getD_eq_getElem?_getD, List.getD_eq_getElem?_getD, List.getElem?_set_ne (fun e => h e.symm)]
theorem getD_app_lt {l l2 : List (Int × Int)} {m : Nat} (h : m < l.length) (d : Int × Int) : (l ++ l2).getD m d = l.getD m d := by
  rw [List.getD_eq_getElem?_getD, List.getD_eq_getElem?_getD, List.getElem?_append_left h]
theorem getD_app_eq {l : List (Int × Int)} (v d : Int × Int) : (l ++ [v]).getD l.length d = v := by
  rw [List.getD_eq_getElem?_getD, List.getElem?_append_right (Nat.le_refl _), Nat.sub_self]; rfl
theorem tStep_some {S : Nat → SymR} {T : TS} {e : Nat × Int} {k : Nat} (h : T.tm e.1 = some k) :
    tStep S T e = ⟨updL T.sl (nsS S e.1) ((T.sl (nsS S e.1)).set k (IntKind.u32.wrap (((T.sl (nsS S e.1)).getD k (0, 0)).1 + e.2), if bits .and .u16 (S e.1).fl 2 = 0 then ((T.sl (nsS S e.1)).getD k (0, 0)).2 else 1)), T.tm⟩ := by
  unfold tStep; rw [h]
theorem tStep_none {S : Nat → SymR} {T : TS} {e : Nat × Int} (h : T.tm e.1 = none) :
    tStep S T e = ⟨updL T.sl (nsS S e.1) (T.sl (nsS S e.1) ++ [(e.2, if bits .and .u16 (S e.1).fl 2 = 0 then 0 else 1)]), fun m => if m = e.1 then some (T.sl (nsS S e.1)).length else T.tm m⟩ := by
  unfold tStep; rw [h]
theorem PInv.step {S : Nat → SymR} {cn : Nat → Nat} {T : TS} (h : PInv S cn T) (e : Nat × Int) : PInv S cn (tStep S T e) := by
  cases he : T.tm e.1 with
  | some k =>
    rw [tStep_some he]
    obtain ⟨k1, k2⟩ := h.lo _ _ he
    refine ⟨fun i k' hk => ?_, h.inj, fun j => ?_, fun j m hm => ?_⟩
    · have := h.lo i k' hk
      refine ⟨this.1, ?_⟩
      simp only
      by_cases c : nsS S i = nsS S e.1
      · rw [c, updL_at, List.length_set, ← c]; exact this.2
      · rw [updL_ne c]; exact this.2
    · simp only
      by_cases c : j = nsS S e.1
      · rw [c, updL_at, List.length_set]; exact h.len _
      · rw [updL_ne c]; exact h.len _
    · simp only
      by_cases c : j = nsS S e.1
      · subst c
        rw [updL_at, getD_set_other (by omega)]; exact h.zero _ _ hm
      · rw [updL_ne c]; exact h.zero _ _ hm
  | none =>
    rw [tStep_none he]
    refine ⟨fun i k' hk => ?_, fun i i' k' hk hk' hns => ?_, fun j => ?_, fun j m hm => ?_⟩
    · simp only at hk ⊢
      by_cases c2 : i = e.1
      · subst c2
        rw [if_pos rfl] at hk
        obtain rfl := Option.some.inj hk
        rw [updL_at, List.length_append]
        exact ⟨h.len _, by simp⟩
      · rw [if_neg c2] at hk
        have := h.lo i k' hk
        refine ⟨this.1, ?_⟩
        by_cases c : nsS S i = nsS S e.1
        · rw [c, updL_at, List.length_append]; rw [c] at this; omega
        · rw [updL_ne c]; exact this.2
    · simp only at hk hk'
      by_cases c : i = e.1
      · by_cases c' : i' = e.1
        · rw [c, c']
        · rw [if_pos c] at hk; rw [if_neg c'] at hk'
          have := (h.lo i' k' hk').2
          have e2 := Option.some.inj hk
          rw [c] at hns
          rw [← hns] at this
          omega
      · rw [if_neg c] at hk
        by_cases c' : i' = e.1
        · rw [if_pos c'] at hk'
          have := (h.lo i k' hk).2
          have e2 := Option.some.inj hk'
          rw [c'] at hns
          rw [hns] at this
          omega
        · rw [if_neg c'] at hk'
          exact h.inj i i' k' hk hk' hns
    · simp only
      by_cases c : j = nsS S e.1
      · rw [c, updL_at, List.length_append]; have := h.len (nsS S e.1); omega
      · rw [updL_ne c]; exact h.len _
    · simp only
      by_cases c : j = nsS S e.1
      · subst c
        rw [updL_at, getD_app_lt (by have := h.len (nsS S e.1); omega)]; exact h.zero _ _ hm
      · rw [updL_ne c]; exact h.zero _ _ hm
/-- The law's tally: rank, sum, new slots a namespace, how many. -/
structure GInv (S : Nat → SymR) (cn : Nat → Nat) (T : TS) (rank sum : Nat → Int) (fresh : Nat → Int) (d : Nat) : Prop where
  no : ∀ t, T.tm t = none → rank t = -1 ∧ sum t = 0
  yes : ∀ t k, T.tm t = some k → rank t = (k : Int) - cn (nsS S t) ∧ sum t = ((T.sl (nsS S t)).getD k (0, 0)).1
  fr : ∀ j, fresh j = ((T.sl j).length : Int) - cn j
  ds : ∃ ks : List Nat, ks.Nodup ∧ (∀ r, (T.tm r).isSome = true ↔ r ∈ ks) ∧ ks.length = d
def updF (f : Nat → Int) (i : Nat) (v : Int) : Nat → Int := fun m => if m = i then v else f m
theorem updF_at (f : Nat → Int) (i : Nat) (v : Int) : updF f i v i = v := if_pos rfl
theorem updF_ne {f : Nat → Int} {i m : Nat} {v : Int} (h : m ≠ i) : updF f i v m = f m := if_neg h
section
variable {S : Nat → SymR} {cn : Nat → Nat} {T : TS} {rank sum fresh : Nat → Int} {d : Nat}
theorem GInv.new (h : GInv S cn T rank sum fresh d) (p : PInv S cn T) {t : Nat} {c : Int} (ht : T.tm t = none) (h0 : 0 ≤ c) (h1 : c ≤ 4294967295) :
    GInv S cn (tStep S T (t, c)) (updF rank t (fresh (nsS S t))) (updF sum t (IntKind.u32.wrap (sum t + c))) (updF fresh (nsS S t) (fresh (nsS S t) + 1)) (d + 1) := by
  rw [tStep_none (e := (t, c)) ht]
  have hw : IntKind.u32.wrap (sum t + c) = c := by rw [(h.no t ht).2, IntKind.wrap_u32]; omega
  refine ⟨fun i hi => ?_, fun i k hk => ?_, fun j => ?_, ?_⟩
  · simp only at hi
    by_cases c2 : i = t
    · rw [if_pos c2] at hi; cases hi
    · rw [if_neg c2] at hi
      rw [updF_ne c2, updF_ne c2]; exact h.no i hi
  · simp only at hk ⊢
    by_cases c2 : i = t
    · subst c2
      rw [if_pos rfl] at hk
      obtain rfl := Option.some.inj hk
      rw [updF_at, updF_at, updL_at, getD_app_eq, hw]
      exact ⟨h.fr _, rfl⟩
    · rw [if_neg c2] at hk
      rw [updF_ne c2, updF_ne c2]
      refine ⟨(h.yes i k hk).1, (h.yes i k hk).2.trans ?_⟩
      by_cases c3 : nsS S i = nsS S t
      · rw [c3, updL_at, getD_app_lt (by have := (p.lo i k hk).2; rwa [c3] at this)]
      · rw [updL_ne c3]
  · simp only
    by_cases c2 : j = nsS S t
    · subst c2
      rw [updF_at, updL_at, List.length_append, h.fr]; simp; omega
    · rw [updF_ne c2, updL_ne c2]; exact h.fr j
  · obtain ⟨ks, hn, hm, hl⟩ := h.ds
    refine ⟨t :: ks, List.nodup_cons.2 ⟨fun hk => ?_, hn⟩, fun r => ?_, by simp [hl]⟩
    · have := (hm t).2 hk; rw [ht] at this; cases this
    · simp only [List.mem_cons]
      by_cases e : r = t
      · rw [if_pos e]
        exact ⟨fun _ => .inl e, fun _ => rfl⟩
      · rw [if_neg e]
        exact ⟨fun h => .inr ((hm r).1 h), fun h => by rcases h with h | h; exact absurd h e; exact (hm r).2 h⟩
theorem GInv.old (h : GInv S cn T rank sum fresh d) (p : PInv S cn T) {t k : Nat} {c : Int} (ht : T.tm t = some k) :
    GInv S cn (tStep S T (t, c)) rank (updF sum t (IntKind.u32.wrap (sum t + c))) fresh d := by
  rw [tStep_some (e := (t, c)) ht]
  obtain ⟨k1, k2⟩ := p.lo _ _ ht
  refine ⟨fun i hi => ?_, fun i k' hk => ?_, fun j => ?_, h.ds⟩
  · have c2 : i ≠ t := fun e => by subst e; simp only at hi; rw [ht] at hi; cases hi
    rw [updF_ne c2]; exact h.no i hi
  · simp only at hk ⊢
    refine ⟨(h.yes i k' hk).1, ?_⟩
    by_cases c2 : i = t
    · subst c2
      rw [ht] at hk
      obtain rfl := Option.some.inj hk
      rw [updF_at, updL_at, getD_set_same k2, (h.yes i k ht).2]
    · rw [updF_ne c2, (h.yes i k' hk).2]
      by_cases c3 : nsS S i = nsS S t
      · rw [c3, updL_at]
        by_cases c4 : k' = k
        · exact absurd (p.inj i t k (by rw [← c4]; exact hk) ht c3) c2
        · rw [getD_set_other c4]
      · rw [updL_ne c3]
  · simp only
    by_cases c2 : j = nsS S t
    · subst c2
      rw [updL_at, List.length_set]; exact h.fr _
    · rw [updL_ne c2]; exact h.fr j
/-- One who has a rank is in the map. -/
theorem GInv.rank_neg (h : GInv S cn T rank sum fresh d) (p : PInv S cn T) (t : Nat) : rank t < 0 ↔ T.tm t = none := by
  cases ht : T.tm t with
  | none => exact ⟨fun _ => rfl, fun _ => by rw [(h.no t ht).1]; omega⟩
  | some k =>
    have := (h.yes t k ht).1
    have := (p.lo t k ht).1
    exact ⟨fun _ => by omega, fun h => by cases h⟩
end
theorem PInv.fresh (S : Nat → SymR) (cn : Nat → Nat) : PInv S cn ⟨fun j => List.replicate (cn j) (0, 0), fun _ => none⟩ := by
  refine ⟨(fun i k h => by cases h), (fun i i' k h => by cases h), (fun j => by simp), fun j k hk => ?_⟩
  simp only
  rw [List.getD_eq_getElem?_getD, List.getElem?_replicate, if_pos hk]; rfl
theorem GInv.fresh (S : Nat → SymR) (cn : Nat → Nat) : GInv S cn ⟨fun j => List.replicate (cn j) (0, 0), fun _ => none⟩ (fun _ => -1) (fun _ => 0) (fun _ => 0) 0 := by
  refine ⟨fun t _ => ⟨rfl, rfl⟩, (fun t k h => by cases h), (fun j => by simp), [], List.nodup_nil, fun r => ⟨(fun h => by cases h), (fun h => by cases h)⟩, rfl⟩
theorem nodup_len : ∀ {l l2 : List Nat}, l.Nodup → (∀ x, x ∈ l → x ∈ l2) → l.length ≤ l2.length
  | [], _, _, _ => Nat.zero_le _
  | a :: l, l2, hn, hs => by
    obtain ⟨ha, hn'⟩ := List.nodup_cons.1 hn
    have hm := hs a (List.mem_cons_self)
    have h1 : l.length ≤ (l2.erase a).length := nodup_len hn' (fun x hx => (List.mem_erase_of_ne (fun e => ha (by rw [← e]; exact hx))).2 (hs x (List.mem_cons_of_mem _ hx)))
    rw [List.length_erase_of_mem hm] at h1
    have : 0 < l2.length := List.length_pos_of_mem hm
    simp only [List.length_cons]; omega
theorem GInv.size {S : Nat → SymR} {cn : Nat → Nat} {T : TS} {rank sum fresh : Nat → Int} {d : Nat} {D : DataW Unit} (h : GInv S cn T rank sum fresh d) (hk : KS T.tm D) : Go.Maps.size D = d := by
  obtain ⟨ks, hn, hm, hl⟩ := h.ds
  obtain ⟨ks', hn', hm', hl'⟩ := hk
  have h1 := nodup_len hn (l2 := ks') (fun x hx => (hm' x).1 ((hm x).2 hx))
  have h2 := nodup_len hn' (l2 := ks) (fun x hx => (hm x).1 ((hm' x).2 hx))
  omega
end Go.Proofs.Ytlpmkbdglpnjhaa
