/- Breadth-first search, plain: the invariant, one discovery, the next head, the end. -/
import Derived.Test.YtecncdcfmmceeaaGreatTla
namespace Go.Proofs.YtecncdcfmmceeaaGreat
open Go.RowKit
set_option linter.unusedVariables false
set_option linter.unusedSimpArgs false
/-- Statement edges that count. -/
structure BInv (n : Nat) (ok aw : Nat → Bool) (ed : Nat → Nat → Prop) (d : Nat → Nat) (q : List Nat) (h : Nat) : Prop where
  i1 : ∀ x, x ∈ q → x < n ∧ d x ≠ 0
  i2 : ∀ u, d u ≠ 0 → u ∈ q
  i3 : ∀ (p p' x x' : Nat), p ≤ p' → q[p]? = some x → q[p']? = some x' → d x ≤ d x'
  i4 : ∀ x y, x ∈ q → q[h]? = some y → d x ≤ d y + 1
  i5 : ∀ u, d u = 1 ↔ (u < n ∧ ok u = true ∧ aw u = true)
  i6 : ∀ u k, d u = k + 2 → ok u = true ∧ ∃ t, ed u t ∧ d t = k + 1
  i7 : ∀ (p v : Nat), p < h → q[p]? = some v → ∀ u, ed u v → ok u = true → d u ≠ 0 ∧ d u ≤ d v + 1
  i8 : q.length + (List.range n).countP (fun u => d u == 0) = n
theorem countP_set (n : Nat) (d : Nat → Nat) (u x : Nat) (hu : u < n) (h0 : d u = 0) (hx : x ≠ 0) : (List.range n).countP (fun j => updF d u x j == 0) + 1 = (List.range n).countP (fun j => d j == 0) := by
  induction n with
  | zero => omega
  | succ n ih =>
    rw [List.range_succ, List.countP_append, List.countP_append]
    by_cases e : u = n
    · subst e
      have h1 : (List.range u).countP (fun j => updF d u x j == 0) = (List.range u).countP (fun j => d j == 0) := by
        apply List.countP_congr
        intro j hj
        rw [updF_ne d x (by have := List.mem_range.1 hj; omega)]
      rw [h1]
      simp [updF_self, h0, hx]
    · have ih' := ih (by omega)
      have h2 : updF d u x n = d n := updF_ne d x (by omega)
      simp only [List.countP_cons, List.countP_nil, h2]
      omega
section
variable {n : Nat} {ok aw : Nat → Bool} {ed : Nat → Nat → Prop} {d : Nat → Nat} {q : List Nat} {h : Nat}
theorem BInv.len (hb : BInv n ok aw ed d q h) : q.length ≤ n := by have := hb.i8; omega
theorem BInv.find (hb : BInv n ok aw ed d q h) {v u : Nat} (hv : q[h]? = some v) (he : ed u v) (hu : u < n) (hok : ok u = true) (h0 : d u = 0) : BInv n ok aw ed (updF d u (d v + 1)) (q ++ [u]) h ∧ ∀ w, w ≠ u → updF d u (d v + 1) w = d w := by
  have hvm : v ∈ q := List.mem_of_getElem? hv
  have hdv := (hb.i1 v hvm).2
  have hvu : v ≠ u := fun e => by rw [e] at hdv; exact hdv h0
  have hself : updF d u (d v + 1) u = d v + 1 := updF_self _ _ _
  have hne : ∀ w, w ≠ u → updF d u (d v + 1) w = d w := fun w hw => updF_ne _ _ hw
  have hq : ∀ x, x ∈ q → x ≠ u := fun x hx e => (hb.i1 x hx).2 (by rw [e]; exact h0)
  have hhl : h < q.length := (List.getElem?_eq_some_iff.1 hv).1
  refine ⟨⟨fun x hx => ?_, fun w hw => ?_, fun p p' x x' hp hx hx' => ?_, fun x y hx hy => ?_, fun w => ?_, fun w k hw => ?_, fun p w hp hw u' hu' hok' => ?_, ?_⟩, hne⟩
  · rcases List.mem_append.1 hx with h1 | h1
    · rw [hne x (hq x h1)]; exact hb.i1 x h1
    · obtain rfl : x = u := by simpa using h1
      exact ⟨hu, by rw [hself]; omega⟩
  · by_cases e : w = u
    · subst e; simp
    · rw [hne w e] at hw
      exact List.mem_append.2 (.inl (hb.i2 w hw))
  · rcases Nat.lt_or_ge p' q.length with h1 | h1
    · rw [List.getElem?_append_left (by omega)] at hx hx'
      rw [hne x (hq x (List.mem_of_getElem? hx)), hne x' (hq x' (List.mem_of_getElem? hx'))]
      exact hb.i3 p p' x x' hp hx hx'
    · have hp' : p' = q.length := by
        have := (List.getElem?_eq_some_iff.1 hx').1
        simp at this; omega
      subst hp'
      obtain rfl : u = x' := by simpa using hx'
      rw [hself]
      rcases Nat.lt_or_ge p q.length with h2 | h2
      · rw [List.getElem?_append_left h2] at hx
        rw [hne x (hq x (List.mem_of_getElem? hx))]
        exact hb.i4 x v (List.mem_of_getElem? hx) hv
      · obtain rfl : p = q.length := by omega
        obtain rfl : u = x := by simpa using hx
        rw [hself]; exact Nat.le_refl _
  · rw [List.getElem?_append_left hhl, hv] at hy
    injection hy with hy
    subst hy
    rw [hne v hvu]
    rcases List.mem_append.1 hx with h1 | h1
    · rw [hne x (hq x h1)]; exact hb.i4 x v h1 hv
    · obtain rfl : x = u := by simpa using h1
      rw [hself]; exact Nat.le_refl _
  · by_cases e : w = u
    · subst e
      rw [hself]
      constructor
      · intro h1; omega
      · intro h1
        have := (hb.i5 w).2 h1
        omega
    · rw [hne w e]; exact hb.i5 w
  · by_cases e : w = u
    · subst e
      rw [hself] at hw
      exact ⟨hok, v, he, by rw [hne v hvu]; omega⟩
    · rw [hne w e] at hw
      obtain ⟨h1, t, h2, h3⟩ := hb.i6 w k hw
      have : t ≠ u := fun e => by rw [e] at h3; omega
      exact ⟨h1, t, h2, by rw [hne t this]; exact h3⟩
  · rw [List.getElem?_append_left (by omega)] at hw
    have h1 := hb.i7 p w hp hw u' hu' hok'
    have : u' ≠ u := fun e => by rw [e] at h1; exact h1.1 h0
    rw [hne u' this, hne w (hq w (List.mem_of_getElem? hw))]
    exact h1
  · have h1 := countP_set n d u (d v + 1) hu h0 (by omega)
    have h2 := hb.i8
    rw [List.length_append]
    show _ + 1 + _ = n
    omega
theorem BInv.next (hb : BInv n ok aw ed d q h) {v : Nat} (hv : q[h]? = some v) (hall : ∀ u, ed u v → ok u = true → d u ≠ 0 ∧ d u ≤ d v + 1) : BInv n ok aw ed d q (h + 1) := by
  refine ⟨hb.i1, hb.i2, hb.i3, fun x y hx hy => ?_, hb.i5, hb.i6, fun p w hp hw => ?_, hb.i8⟩
  · have h1 := hb.i4 x v hx hv
    have h2 := hb.i3 h (h + 1) v y (by omega) hv hy
    omega
  · rcases Nat.lt_or_ge p h with h1 | h1
    · exact hb.i7 p w h1 hw
    · obtain rfl : p = h := by omega
      rw [hv] at hw
      injection hw with hw
      subst hw
      exact hall
end
/-- At the end. -/
theorem BInv.ok_ {G : TG} {ed : Nat → Nat → Prop} {d : Nat → Nat} {q : List Nat} {h : Nat} (hb : BInv G.n G.ok G.aw ed d q h) (hh : q.length ≤ h) (hed : ∀ u t, ed u t ↔ stmtTo G u t) (hn : ∀ j, G.ok j = true → j < G.n) : BfsOK G d := by
  refine ⟨fun j => ?_, fun j k hj => ?_, fun j t hok ht hd => ?_⟩
  · rw [hb.i5 j]
    exact ⟨fun ⟨_, h1, h2⟩ => ⟨h1, h2⟩, fun ⟨h1, h2⟩ => ⟨hn j h1, h1, h2⟩⟩
  · obtain ⟨h1, t, h2, h3⟩ := hb.i6 j k hj
    exact ⟨h1, t, (hed j t).1 h2, h3⟩
  · obtain ⟨p, hp, he⟩ := List.mem_iff_getElem.1 (hb.i2 t hd)
    exact hb.i7 p t (by omega) (by rw [List.getElem?_eq_getElem hp, he]) j ((hed j t).2 ht) hok
/-- At the start: the awaiting files, in order, below i. -/
structure BIn0 (n : Nat) (ok aw : Nat → Bool) (d : Nat → Nat) (q : List Nat) (i : Nat) : Prop where
  j1 : ∀ x, x ∈ q ↔ (x < i ∧ ok x = true ∧ aw x = true)
  j2 : ∀ u, d u = if u < i ∧ ok u = true ∧ aw u = true then 1 else 0
  j3 : q.length + (List.range n).countP (fun u => d u == 0) = n
theorem BIn0.zero (n : Nat) (ok aw : Nat → Bool) : BIn0 n ok aw (fun _ => 0) [] 0 := ⟨fun x => by simp, fun u => by rw [if_neg (by omega)], by
  rw [List.length_nil, Nat.zero_add, List.countP_eq_length.2 (fun x _ => by rfl), List.length_range]⟩
theorem BIn0.yes {n : Nat} {ok aw : Nat → Bool} {d : Nat → Nat} {q : List Nat} {i : Nat} (h : BIn0 n ok aw d q i) (hi : i < n) (h1 : ok i = true) (h2 : aw i = true) : BIn0 n ok aw (updF d i 1) (q ++ [i]) (i + 1) := by
  refine ⟨fun x => ?_, fun u => ?_, ?_⟩
  · rw [List.mem_append, h.j1 x]
    constructor
    · rintro (⟨a, b⟩ | a)
      · exact ⟨by omega, b⟩
      · obtain rfl : x = i := by simpa using a
        exact ⟨by omega, h1, h2⟩
    · rintro ⟨a, b⟩
      by_cases e : x = i
      · right; simp [e]
      · left; exact ⟨by omega, b⟩
  · by_cases e : u = i
    · subst e; rw [updF_self, if_pos ⟨by omega, h1, h2⟩]
    · rw [updF_ne _ _ e, h.j2 u]
      by_cases hu : u < i
      · by_cases hx : ok u = true ∧ aw u = true
        · rw [if_pos ⟨hu, hx⟩, if_pos ⟨by omega, hx⟩]
        · rw [if_neg (fun h => hx h.2), if_neg (fun h => hx h.2)]
      · rw [if_neg (fun h => hu h.1), if_neg (fun h => by omega)]
  · have h0 : d i = 0 := by rw [h.j2 i, if_neg (by omega)]
    have h3 := countP_set n d i 1 hi h0 (by omega)
    have h4 := h.j3
    rw [List.length_append]
    show _ + 1 + _ = n
    omega
theorem BIn0.no {n : Nat} {ok aw : Nat → Bool} {d : Nat → Nat} {q : List Nat} {i : Nat} (h : BIn0 n ok aw d q i) (h1 : ¬ (ok i = true ∧ aw i = true)) : BIn0 n ok aw d q (i + 1) := by
  refine ⟨fun x => ?_, fun u => ?_, h.j3⟩
  · rw [h.j1 x]
    constructor
    · rintro ⟨a, b⟩; exact ⟨by omega, b⟩
    · rintro ⟨a, b⟩
      have : x ≠ i := fun e => h1 (by rw [← e]; exact b)
      exact ⟨by omega, b⟩
  · rw [h.j2 u]
    by_cases hx : ok u = true ∧ aw u = true
    · have : u ≠ i := fun e => h1 (by rw [← e]; exact hx)
      by_cases hu : u < i
      · rw [if_pos ⟨hu, hx⟩, if_pos ⟨by omega, hx⟩]
      · rw [if_neg (fun h => hu h.1), if_neg (fun h => by omega)]
    · rw [if_neg (fun h => hx h.2), if_neg (fun h => hx h.2)]
theorem BIn0.inv {n : Nat} {ok aw : Nat → Bool} {ed : Nat → Nat → Prop} {d : Nat → Nat} {q : List Nat} (h : BIn0 n ok aw d q n) : BInv n ok aw ed d q 0 := by
  have hd : ∀ u, d u ≤ 1 := fun u => by rw [h.j2 u]; split <;> omega
  have h1 : ∀ x, x ∈ q → d x = 1 := fun x hx => by rw [h.j2 x, if_pos ((h.j1 x).1 hx)]
  refine ⟨fun x hx => ⟨((h.j1 x).1 hx).1, by rw [h1 x hx]; omega⟩, fun u hu => ?_, fun p p' x x' _ hx hx' => ?_, fun x y hx hy => ?_, fun u => ?_, fun u k hk => ?_, fun p v hp => by omega, h.j3⟩
  · rw [h.j2 u] at hu
    rw [h.j1 u]
    by_cases hx : u < n ∧ ok u = true ∧ aw u = true
    · exact hx
    · rw [if_neg hx] at hu; exact absurd rfl hu
  · rw [h1 x (List.mem_of_getElem? hx), h1 x' (List.mem_of_getElem? hx')]; exact Nat.le_refl _
  · have := hd x; omega
  · rw [h.j2 u]
    by_cases hx : u < n ∧ ok u = true ∧ aw u = true
    · rw [if_pos hx]; exact ⟨fun _ => hx, fun _ => rfl⟩
    · rw [if_neg hx]; exact ⟨fun h => by omega, fun h => absurd h hx⟩
  · have := hd u; omega
end Go.Proofs.YtecncdcfmmceeaaGreat
