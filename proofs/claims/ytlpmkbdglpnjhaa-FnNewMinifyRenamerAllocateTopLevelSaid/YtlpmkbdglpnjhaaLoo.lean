/- A region that draws its order and makes memory: one look at each operation, whatever the order. -/
import Derived.Test.YtlpmkbdglpnjhaaWords
import Derived.Orders
import Derived.RegionTactic
namespace Go.Proofs.Ytlpmkbdglpnjhaa
open Go.RowKit
set_option linter.unusedVariables false
set_option linter.unusedSimpArgs false
section
variable {P : Program} {ops : Array Oper} {Q : Exit → Act → World → Prop} {md : Region.Mode}
theorem count_set (l : List Bool) (i : Nat) (h : i < l.length) (hf : l[i] = false) : (l.set i true).count false + 1 = l.count false := by
  induction l generalizing i with
  | nil => simp at h
  | cons x r ih =>
    cases i with
    | zero =>
      have : x = false := hf
      subst this
      simp
    | succ i =>
      have := ih i (by simpa using h) (by simpa using hf)
      simp only [List.set_cons_succ, List.count_cons]
      omega
theorem ready_mem {listed : Array Bool} {i : Nat} (h : i ∈ Region.ready md ops listed) : i < ops.size ∧ listed.getD i true = false ∧ ∀ o, ops[i]? = some o → ∀ e ∈ o.after.toList, Region.binds md e = true → listed.getD e.on false = true := by
  unfold Region.ready at h
  rw [List.mem_filter] at h
  obtain ⟨h1, h2⟩ := h
  rw [Bool.and_eq_true] at h2
  refine ⟨List.mem_range.1 h1, by simpa using h2.1, fun o ho e he hb => ?_⟩
  have h3 := h2.2
  rw [ho] at h3
  simp only [Option.map_some, Option.getD_some] at h3
  rw [Array.all_eq_true_iff_forall_mem] at h3
  have := h3 e (Array.mem_def.2 he)
  rw [hb] at this
  simpa using this
theorem wpAny_inv (I : Array Bool → Act → World → Prop)
    (hs : ∀ listed a w, listed.size = ops.size → I listed a w → ∀ i ∈ Region.ready md ops listed, wpOp P ops Q i (I (listed.setIfInBounds i true)) a w)
    (he : ∀ listed a w, listed.size = ops.size → I listed a w → Region.ready md ops listed = [] → Q .normal a w) :
    ∀ fuel listed a w, listed.size = ops.size → listed.toList.count false ≤ fuel → I listed a w → wpAny P md ops Q fuel listed a w := by
  intro fuel
  induction fuel with
  | zero =>
    intro listed a w hsz hc hI
    have hr : Region.ready md ops listed = [] := by
      rw [List.eq_nil_iff_forall_not_mem]
      intro i hi
      obtain ⟨h1, h2, _⟩ := ready_mem hi
      have h3 : listed[i]'(by omega) = false := by rw [Array.getD_eq_getD_getElem?, Array.getElem?_eq_getElem (by omega)] at h2; exact h2
      have : false ∈ listed.toList := by rw [← h3]; exact Array.getElem_mem_toList (by omega)
      have := List.count_pos_iff.2 this
      omega
    exact ⟨hr, he _ _ _ hsz hI hr⟩
  | succ fuel ih =>
    intro listed a w hsz hc hI
    refine ⟨fun hr => he _ _ _ hsz hI hr, fun i hi => ?_⟩
    obtain ⟨h1, h2, _⟩ := ready_mem hi
    have h3 : listed[i]'(by omega) = false := by rw [Array.getD_eq_getD_getElem?, Array.getElem?_eq_getElem (by omega)] at h2; exact h2
    refine wpOp_mono (fun a' w' hI' => ih _ a' w' (by simpa using hsz) ?_ hI') (hs listed a w hsz hI i hi)
    have := count_set listed.toList i (by simpa using (by omega : i < listed.size)) (by simpa using h3)
    rw [Array.toList_setIfInBounds]
    omega
/-- What each operation of a region asks and gives: from any frame that bears what its forerunners gave, and any world behind w0, it ends, writes its slot alone, and gives F i. -/
def LooseOp (P : Program) (md : Region.Mode) (ops : Array Oper) (Q : Exit → Act → World → Prop) (G : World → World → Prop) (F : Nat → Value → World → Prop) (D : Nat → Nat → Value → Value → Prop) (w0 : World) (a0 : Act) (i : Nat) (o : Oper) : Prop :=
  ∀ a w, G w0 w → a.defers = a0.defers → a.tmps.size = a0.tmps.size → (∀ t, (∀ (j : Nat) (oj : Oper), ops[j]? = some oj → oj.dst ≠ some t) → a.tmps.getD t undef = a0.tmps.getD t undef) →
    (∀ e ∈ o.after.toList, Region.binds md e = true → ∀ (oj : Oper) (d : Tmp), ops[e.on]? = some oj → oj.dst = some d → F e.on (a.tmps.getD d undef) w) →
    (∀ e ∈ o.after.toList, ∀ e' ∈ o.after.toList, Region.binds md e = true → Region.binds md e' = true → e.on ≠ e'.on → ∀ (oj oj' : Oper) (d d' : Tmp), ops[e.on]? = some oj → ops[e'.on]? = some oj' → oj.dst = some d → oj'.dst = some d' → D e.on e'.on (a.tmps.getD d undef) (a.tmps.getD d' undef)) →
    o.wp P a w (fun a' w' => ∃ v, a' = a.put o.dst v ∧ G w w' ∧ F i v w' ∧ ∀ j u, j ≠ i → F j u w → D i j v u ∧ D j i u v) Q
theorem getD_set_ne (t : Array Value) {d d' : Nat} (h : d ≠ d') (v u : Value) : (t.setIfInBounds d v).getD d' u = t.getD d' u := by
  rw [Array.getD_eq_getD_getElem?, Array.getD_eq_getD_getElem?, Array.getElem?_setIfInBounds_ne h]
theorem getD_set_eq (t : Array Value) {d : Nat} (h : d < t.size) (v u : Value) : (t.setIfInBounds d v).getD d u = v := by
  rw [Array.getD_eq_getD_getElem?, Array.getElem?_setIfInBounds_self_of_lt h]; rfl
theorem wpAny_loose (G : World → World → Prop) (F : Nat → Value → World → Prop) (D : Nat → Nat → Value → Value → Prop) (w0 : World) (a0 : Act)
    (hrefl : G w0 w0) (htr : ∀ a b, G w0 a → G a b → G w0 b) (hF : ∀ i v w w', G w w' → F i v w → F i v w')
    (hguard : ∀ (i : Nat) (o : Oper), ops[i]? = some o → o.guard = none ∧ (∃ d, o.dst = some d ∧ d < a0.tmps.size) ∧ (∀ e ∈ o.after.toList, e.on < i))
    (hd : ∀ (i j : Nat) (o o' : Oper) (d : Tmp), ops[i]? = some o → ops[j]? = some o' → o.dst = some d → o'.dst = some d → i = j)
    (hop : ∀ (i : Nat) (o : Oper), ops[i]? = some o → LooseOp P md ops Q G F D w0 a0 i o)
    (he : ∀ a w, G w0 w → a.defers = a0.defers → a.tmps.size = a0.tmps.size → (∀ t, (∀ (j : Nat) (oj : Oper), ops[j]? = some oj → oj.dst ≠ some t) → a.tmps.getD t undef = a0.tmps.getD t undef) →
      (∀ (i : Nat) (o : Oper) (d : Tmp), ops[i]? = some o → o.dst = some d → F i (a.tmps.getD d undef) w) → Q .normal a w) :
    wpAny P md ops Q ops.size (Array.replicate ops.size false) a0 w0 := by
  refine wpAny_inv (fun listed a w => G w0 w ∧ a.defers = a0.defers ∧ a.tmps.size = a0.tmps.size ∧ (∀ t, (∀ (j : Nat) (oj : Oper), ops[j]? = some oj → oj.dst ≠ some t) → a.tmps.getD t undef = a0.tmps.getD t undef) ∧
    (∀ (i : Nat) (o : Oper) (d : Tmp), listed.getD i false = true → ops[i]? = some o → o.dst = some d → F i (a.tmps.getD d undef) w) ∧
    ∀ (i j : Nat) (o o' : Oper) (d d' : Tmp), i ≠ j → listed.getD i false = true → listed.getD j false = true → ops[i]? = some o → ops[j]? = some o' → o.dst = some d → o'.dst = some d' → D i j (a.tmps.getD d undef) (a.tmps.getD d' undef)) ?_ ?_ _ _ _ _ (by simp) (by simp) ⟨hrefl, rfl, rfl, fun _ _ => rfl, fun i o d h => ?_, fun i j o o' d d' _ h => ?_⟩
  · rintro listed a w hsz ⟨i1, i2, i3, i4, i5, i6⟩ i hi
    obtain ⟨h1, h2, h3⟩ := ready_mem hi
    have ho : ops[i]? = some ops[i] := Array.getElem?_eq_getElem h1
    obtain ⟨g1, ⟨d, g2, g2'⟩, _⟩ := hguard i _ ho
    have hw := hop i _ ho a w i1 i2 i3 i4 (fun e hem hb oj d' hoj hd' => i5 e.on oj d' (h3 _ ho e hem hb) hoj hd')
      (fun e hem e' hem' hb hb' hne oj oj' d1 d2 hoj hoj' hd1 hd2 => i6 e.on e'.on oj oj' d1 d2 hne (h3 _ ho e hem hb) (h3 _ ho e' hem' hb') hoj hoj' hd1 hd2)
    unfold wpOp
    rw [ho]
    have hwant : Region.wanted ops[i] (yielded ops a.tmps) = true := by simp [Region.wanted, g1]
    simp only [hwant, if_true]
    refine .inl (Oper.wp_mono ?_ hw)
    rintro a' w' ⟨v, rfl, hG, hFi, hDi⟩
    rw [g2]
    have hput : ∀ j, j ≠ i → ∀ (oj : Oper) (d' : Tmp), ops[j]? = some oj → oj.dst = some d' → (a.tmps.setIfInBounds d v).getD d' undef = a.tmps.getD d' undef := fun j e oj d' hoj hd' => getD_set_ne _ (fun e' => e (hd j i oj _ d' hoj ho hd' (by rw [g2, e']))) _ _
    have hlst : ∀ j, j ≠ i → (listed.setIfInBounds i true).getD j false = true → listed.getD j false = true := fun j e hl => by
      rw [Array.getD_eq_getD_getElem?, Array.getElem?_setIfInBounds_ne (fun h => e h.symm), ← Array.getD_eq_getD_getElem?] at hl
      exact hl
    have hself : (a.tmps.setIfInBounds d v).getD d undef = v := getD_set_eq _ (by have h8 : a.tmps.size = a0.tmps.size := i3; exact h8 ▸ g2') _ _
    refine ⟨htr _ _ i1 hG, i2, ?_, fun t ht => ?_, fun j oj d' hl hoj hd' => ?_, fun j k oj ok d1 d2 hjk hlj hlk hoj hok hd1 hd2 => ?_⟩
    · simpa [Act.put] using i3
    · have hne : d ≠ t := fun e => ht i _ ho (by rw [g2, e])
      rw [← i4 t ht]
      show (a.tmps.setIfInBounds d v).getD t undef = _
      exact getD_set_ne _ hne _ _
    · show F j ((a.tmps.setIfInBounds d v).getD d' undef) w'
      by_cases e : j = i
      · subst e
        rw [ho] at hoj
        obtain rfl := Option.some.inj hoj
        rw [g2] at hd'
        obtain rfl := Option.some.inj hd'
        rw [hself]
        exact hFi
      · rw [hput j e oj d' hoj hd']
        exact hF _ _ _ _ hG (i5 j oj d' (hlst j e hl) hoj hd')
    · show D j k ((a.tmps.setIfInBounds d v).getD d1 undef) ((a.tmps.setIfInBounds d v).getD d2 undef)
      by_cases e : j = i
      · subst e
        rw [ho] at hoj
        obtain rfl := Option.some.inj hoj
        rw [g2] at hd1
        obtain rfl := Option.some.inj hd1
        have e2 : k ≠ j := fun h => hjk h.symm
        rw [hself, hput k e2 ok d2 hok hd2]
        exact (hDi k _ e2 (i5 k ok d2 (hlst k e2 hlk) hok hd2)).1
      · rw [hput j e oj d1 hoj hd1]
        by_cases e2 : k = i
        · subst e2
          rw [ho] at hok
          obtain rfl := Option.some.inj hok
          rw [g2] at hd2
          obtain rfl := Option.some.inj hd2
          rw [hself]
          exact (hDi j _ e (i5 j oj d1 (hlst j e hlj) hoj hd1)).2
        · rw [hput k e2 ok d2 hok hd2]
          exact i6 j k oj ok d1 d2 hjk (hlst j e hlj) (hlst k e2 hlk) hoj hok hd1 hd2
  · rintro listed a w hsz ⟨i1, i2, i3, i4, i5, i6⟩ hr
    refine he a w i1 i2 i3 i4 (fun i o d ho hd' => i5 i o d ?_ ho hd')
    have key : ∀ k i, i < k → i < ops.size → listed.getD i false = true := by
      intro k
      induction k with
      | zero => intro i h; omega
      | succ k ih =>
        intro i hik his
        by_cases hl : listed.getD i false = true
        · exact hl
        · exfalso
          have hmem : i ∈ Region.ready md ops listed := by
            unfold Region.ready
            rw [List.mem_filter]
            refine ⟨List.mem_range.2 his, ?_⟩
            have ho' : ops[i]? = some ops[i] := Array.getElem?_eq_getElem his
            rw [Bool.and_eq_true]
            constructor
            · rw [Array.getD_eq_getD_getElem?, Array.getElem?_eq_getElem (by omega)] at hl ⊢
              simpa using hl
            · rw [ho']
              simp only [Option.map_some, Option.getD_some]
              rw [Array.all_eq_true_iff_forall_mem]
              intro e hem
              have h1 := (hguard i _ ho').2.2 e (Array.mem_def.1 hem)
              rw [ih e.on (by omega) (by omega), Bool.or_true]
          rw [hr] at hmem
          cases hmem
    have his : i < ops.size := by
      rcases Nat.lt_or_ge i ops.size with h | h
      · exact h
      · rw [Array.getElem?_eq_none h] at ho; cases ho
    exact key (i + 1) i (by omega) his
  · exfalso
    rw [Array.getD_eq_getD_getElem?, Array.getElem?_replicate] at h
    split at h <;> simp at h
  · exfalso
    rw [Array.getD_eq_getD_getElem?, Array.getElem?_replicate] at h
    split at h <;> simp at h
/-- The forms that 'wpAny_loose' asks, by looking. -/
def Region.looseB (ops : Array Oper) (n : Nat) : Bool := (List.range ops.size).all fun i => match ops[i]? with
  | some o => o.guard.isNone && (match o.dst with | some d => decide (d < n) | none => false) && o.after.all (fun e => decide (e.on < i))
  | none => true
def Region.dstB (ops : Array Oper) : Bool := (List.range ops.size).all fun i => (List.range ops.size).all fun j => i == j || (ops[i]?.bind (·.dst)) != (ops[j]?.bind (·.dst))
theorem at_lt {i : Nat} {o : Oper} (h : ops[i]? = some o) : i < ops.size := by
  rcases Nat.lt_or_ge i ops.size with h1 | h1
  · exact h1
  · rw [Array.getElem?_eq_none h1] at h; cases h
theorem loose_of {n : Nat} (h : Region.looseB ops n = true) (i : Nat) (o : Oper) (ho : ops[i]? = some o) : o.guard = none ∧ (∃ d, o.dst = some d ∧ d < n) ∧ ∀ e ∈ o.after.toList, e.on < i := by
  have h1 := List.all_eq_true.1 h i (List.mem_range.2 (at_lt ho))
  simp only [ho, Bool.and_eq_true] at h1
  obtain ⟨⟨g1, g2⟩, g3⟩ := h1
  refine ⟨by simpa using g1, ?_, fun e he => ?_⟩
  · cases hd : o.dst with
    | none => rw [hd] at g2; cases g2
    | some d => rw [hd] at g2; exact ⟨d, rfl, by simpa using g2⟩
  · rw [Array.all_eq_true_iff_forall_mem] at g3
    simpa using g3 e (Array.mem_def.2 he)
theorem dst_of (h : Region.dstB ops = true) (i j : Nat) (o o' : Oper) (d : Tmp) (ho : ops[i]? = some o) (ho' : ops[j]? = some o') (hd : o.dst = some d) (hd' : o'.dst = some d) : i = j := by
  have h1 := List.all_eq_true.1 (List.all_eq_true.1 h i (List.mem_range.2 (at_lt ho))) j (List.mem_range.2 (at_lt ho'))
  rw [ho, ho'] at h1
  simp only [Option.bind_some, hd, hd', bne_self_eq_false, Bool.or_false, beq_iff_eq] at h1
  exact h1
theorem nodst_of {t : Tmp} (h : (ops.toList.all fun o => o.dst != some t) = true) (j : Nat) (oj : Oper) (ho : ops[j]? = some oj) : oj.dst ≠ some t := by
  have hm : oj ∈ ops.toList := by rw [← Array.mem_def]; exact Array.mem_of_getElem? ho
  have := List.all_eq_true.1 h oj hm
  simpa using this
theorem wp_of_run {o : Oper} {a : Act} {w w' : World} {K : Act → World → Prop} {v : Value} (h : (execOp a.eval o).run P w = .ok (.value v) w') (hK : K (a.put o.dst v) w') : o.wp P a w K Q := by
  unfold Oper.wp
  rw [h]
  exact hK
/-- 'LooseOp' of each operation of a list, in turn. -/
def LooseAll (P : Program) (md : Region.Mode) (ops : Array Oper) (Q : Exit → Act → World → Prop) (G : World → World → Prop) (F : Nat → Value → World → Prop) (D : Nat → Nat → Value → Value → Prop) (w0 : World) (a0 : Act) : Nat → List Oper → Prop
  | _, [] => True
  | k, o :: r => LooseOp P md ops Q G F D w0 a0 k o ∧ LooseAll P md ops Q G F D w0 a0 (k + 1) r
theorem looseAll_at {G : World → World → Prop} {F : Nat → Value → World → Prop} {D : Nat → Nat → Value → Value → Prop} {w0 : World} {a0 : Act} : ∀ (l : List Oper) (k i : Nat) (o : Oper), LooseAll P md ops Q G F D w0 a0 k l → l[i]? = some o → LooseOp P md ops Q G F D w0 a0 (k + i) o := by
  intro l
  induction l with
  | nil => intro k i o _ h; simp at h
  | cons x r ih =>
    intro k i o h ho
    cases i with
    | zero =>
      rw [List.getElem?_cons_zero] at ho
      injection ho with ho
      subst ho
      exact h.1
    | succ i =>
      rw [List.getElem?_cons_succ] at ho
      have := ih (k + 1) i o h.2 ho
      rwa [show k + 1 + i = k + (i + 1) by omega] at this
theorem wp_region_loose {id : Nat} {l : List Oper} {a0 : Act} {w0 : World} (hm : P.follows .mixedOrders = true) (hB : Region.looseB l.toArray a0.tmps.size = true) (hD : Region.dstB l.toArray = true)
    (G : World → World → Prop) (F : Nat → Value → World → Prop) (D : Nat → Nat → Value → Value → Prop)
    (hrefl : G w0.drew w0.drew) (htr : ∀ a b, G w0.drew a → G a b → G w0.drew b) (hF : ∀ i v w w', G w w' → F i v w → F i v w')
    (hop : LooseAll P .any l.toArray Q G F D w0.drew a0 0 l)
    (he : ∀ a w, G w0.drew w → a.defers = a0.defers → a.tmps.size = a0.tmps.size → (∀ t, (∀ (j : Nat) (oj : Oper), l.toArray[j]? = some oj → oj.dst ≠ some t) → a.tmps.getD t undef = a0.tmps.getD t undef) →
      (∀ (i : Nat) (o : Oper) (d : Tmp), l.toArray[i]? = some o → o.dst = some d → F i (a.tmps.getD d undef) w) → Q .normal a w) :
    (Code.region id l.toArray true).wp P Q a0 w0 :=
  wp_region_any hm (wpAny_loose G F D w0.drew a0 hrefl htr hF (loose_of hB) (dst_of hD) (fun i o ho => by
    have := looseAll_at l 0 i o hop (by simpa using ho)
    rwa [Nat.zero_add] at this) he)
end
end Go.Proofs.Ytlpmkbdglpnjhaa
