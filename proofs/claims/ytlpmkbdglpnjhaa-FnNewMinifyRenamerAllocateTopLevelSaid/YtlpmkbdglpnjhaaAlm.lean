/- How the renamer in memory turns. -/
import Derived.Test.YtlpmkbdglpnjhaaAlp
namespace Go.Proofs.Ytlpmkbdglpnjhaa
open Go.RowKit Go.Maps Go.WideMaps
set_option linter.unusedVariables false
set_option linter.unusedSimpArgs false
def updV (vs : Nat → Value) (j : Nat) (v : Value) : Nat → Value := fun m => if m = j then v else vs m
theorem updV_at (vs : Nat → Value) (j : Nat) (v : Value) : updV vs j v j = v := if_pos rfl
theorem updV_ne {vs : Nat → Value} {j m : Nat} {v : Value} (h : m ≠ j) : updV vs j v m = vs m := if_neg h
theorem own_keep {w w' : World} {B sz : Nat} {e : TypeId} {v : Value} {m : Nat} {xs : List Value} (h : w.ownsRow B e sz v m xs) (hk : ∀ g, v.ownBlock = some g → g < w.heap.size → w'.heap[g]? = w.heap[g]?) : w'.ownsRow B e sz v m xs := by
  refine ⟨h.1, ?_⟩
  rcases h.2 with h2 | ⟨g, cap2, cur, a, b2, c2, d⟩
  · exact .inl h2
  · refine .inr ⟨g, cap2, cur, a, b2, ?_, d⟩
    have hlt : g < w.heap.size := by
      rcases Nat.lt_or_ge g w.heap.size with hlt | hge
      · exact hlt
      · rw [Array.getElem?_eq_none hge] at c2; cases c2
    rw [hk g (by rw [a]; rfl) hlt]
    exact c2
theorem TMap.obj {w : World} {b n : Nat} {D : DataW Unit} (h : TMap w b n D) : ∃ es c, w.heap[b]? = some (.map es c) := by obtain ⟨es, c, hb, _⟩ := h; exact ⟨es, c, hb⟩
theorem TMap.ne {w : World} {b n : Nat} {D : DataW Unit} (h : TMap w b n D) {g : Nat} {ty : TypeId} {cs : Array Value} (hb : Blk w g ty cs) : g ≠ b := by
  obtain ⟨es, c, hm⟩ := h.obj
  rintro rfl
  unfold Blk at hb
  rw [hm] at hb
  cases hb
theorem TMap.keep {w w' : World} {b n : Nat} {D : DataW Unit} (h : TMap w b n D) (hk : w'.heap[b]? = w.heap[b]?) : TMap w' b n D := by
  obtain ⟨es, c, hb, r⟩ := h
  exact ⟨es, c, hk.trans hb, r⟩
theorem TMap.lt {w : World} {b n : Nat} {D : DataW Unit} (h : TMap w b n D) : b < w.heap.size := by
  obtain ⟨es, c, hm⟩ := h.obj
  rcases Nat.lt_or_ge b w.heap.size with hlt | hge
  · exact hlt
  · rw [Array.getElem?_eq_none hge] at hm; cases hm
theorem own_map_ne {w : World} {b n B e sz m : Nat} {D : DataW Unit} {v : Value} {xs : List Value} (h : TMap w b n D) (ho : w.ownsRow B e sz v m xs) : v.ownBlock ≠ some b := by
  intro hv
  rcases ho.2 with ⟨rfl, rfl⟩ | ⟨g, cap, cur, rfl, _, hg, _⟩
  · cases hv
  · have e : g = b := Option.some.inj (show some g = some b from hv)
    subst e
    exact h.ne hg rfl
section
variable {B o : Nat} {mo : Option Nat} {br gm : Nat} {vs : Nat → Value} {g n : Nat} {S : Nat → SymR} {N : Nat} {t : TS} {w w' : World}
theorem TRen.slotCell (h : TRen B o mo br gm vs g n S N t w) {j : Nat} (hj : j < 4) : w.cell? ⟨br, 1 + j, none⟩ = some (vs j) := by
  rw [h.blk.cell]
  rcases (by omega : j = 0 ∨ j = 1 ∨ j = 2 ∨ j = 3) with rfl | rfl | rfl | rfl <;> rfl
theorem TRen.turned (h : TRen B o mo br gm vs g n S N t w) {T : Nat → Prop} (ht : Turned T w w') (h1 : ¬ T br) (h2 : ¬ T gm) (h3 : ∀ j, j < 4 → ∀ b, (vs j).ownBlock = some b → ¬ T b) (h4 : ¬ T o) (h5 : ¬ T g) : TRen B o mo br gm vs g n S N t w' := by
  obtain ⟨k, D, hk, hm, hi⟩ := h.map
  exact ⟨ht.blk h.blk h1, fun j hj => own_keep (h.own j hj) (fun b hb hlt => ht.block b hlt (h3 j hj b hb)), h.sep, ⟨k, D, hk, hm.keep (ht.block gm hm.lt h2), hi⟩, ht.blk h.out h4, ht.tbl h.tab h5⟩
theorem TRen.grown (h : TRen B o mo br gm vs g n S N t w) (hg : w.grownBy w' none) : TRen B o mo br gm vs g n S N t w' :=
  h.turned (T := fun _ => False) (Turned.of_grown hg (fun _ e => by cases e)) (fun e => e) (fun e => e) (fun _ _ _ _ e => e) (fun e => e) (fun e => e)
theorem TRen.drew (h : TRen B o mo br gm vs g n S N t w) : TRen B o mo br gm vs g n S N t w.drew := h.grown (only_drew (World.grownBy.refl _ _))
/-- The list of one namespace turns. -/
theorem TRen.repl (h : TRen B o mo br gm vs g n S N t w) {j : Nat} (hj : j < 4) {v' : Value} {l' : List (Int × Int)} (hb : Blk w' br 76 (renCells o mo (updV vs j v' 0) (updV vs j v' 1) (updV vs j v' 2) (updV vs j v' 3) (.map (some gm))))
    (ho : w'.ownsRow B 83 3 v' l'.length (slC l')) (ht : Turned (fun b => b = br ∨ (vs j).ownBlock = some b) w w') (hf : ∀ q, v'.ownBlock = some q → (vs j).ownBlock = some q ∨ w.heap.size ≤ q) :
    TRen B o mo br gm (updV vs j v') g n S N ⟨updL t.sl j l', t.tm⟩ w' := by
  obtain ⟨k, D, hk, hm, hi⟩ := h.map
  obtain ⟨ts, htb, htr⟩ := h.tab
  refine ⟨hb, fun i hi' => ?_, fun i i' hi1 hi2 hne b hbi => ?_, ⟨k, D, hk, hm.keep (ht.block gm hm.lt ?_), hi⟩, ht.blk h.out ?_, ht.tbl ⟨ts, htb, htr⟩ ?_⟩
  · by_cases c : i = j
    · subst c; simp only [updL_at, updV_at]; exact ho
    · simp only [updL_ne c, updV_ne c]
      refine own_keep (h.own i hi') (fun b hb' hlt => ht.block b hlt ?_)
      rintro (e | e)
      · exact own_blk_ne (h.own i hi') h.blk (by decide) (by rw [hb', e])
      · exact h.sep i j hi' hj c b hb' e
  · have lt : ∀ i, i < 4 → ∀ b, (vs i).ownBlock = some b → b < w.heap.size := fun i hi b hb' => ((h.own i hi).lt b hb').2
    by_cases c : i = j
    · subst c
      rw [updV_at] at hbi
      rw [updV_ne (fun e => hne e.symm)]
      intro hbi'
      rcases hf b hbi with e | e
      · exact h.sep i i' hi1 hi2 hne b e hbi'
      · have := lt i' hi2 b hbi'; omega
    · rw [updV_ne c] at hbi
      by_cases c' : i' = j
      · subst c'
        rw [updV_at]
        intro hbi'
        rcases hf b hbi' with e | e
        · exact h.sep i i' hi1 hi2 hne b hbi e
        · have := lt i hi1 b hbi; omega
      · rw [updV_ne c']
        exact h.sep i i' hi1 hi2 hne b hbi
  · rintro (e | e)
    · exact hm.ne h.blk e.symm
    · exact own_map_ne hm (h.own j hj) e
  · rintro (e | e)
    · exact Blk.ne_ h.out h.blk (by decide) e
    · exact own_blk_ne (h.own j hj) h.out (by decide) e
  · rintro (e | e)
    · exact Blk.ne_ htb h.blk (by decide) e
    · exact own_blk_ne (h.own j hj) htb (by decide) e
theorem updV_self (vs : Nat → Value) (j : Nat) : updV vs j (vs j) = vs := by funext m; unfold updV; split; (next e => rw [e]); rfl
/-- One cell of one slot turns. -/
theorem TRen.cell1 (h : TRen B o mo br gm vs g n S N t w) {j : Nat} (hj : j < 4) {b cap i : Nat} {u : Value} {l' : List (Int × Int)} (hv : vs j = .slice (some ⟨b, 0, none⟩) (t.sl j).length cap) (hl : l'.length = (t.sl j).length) (hs : (slC (t.sl j)).set i u = slC l') :
    TRen B o mo br gm vs g n S N ⟨updL t.sl j l', t.tm⟩ (w.setCell ⟨b, i, none⟩ u) := by
  have ho := h.own j hj
  rw [hv] at ho
  obtain ⟨ho', hg⟩ := ho.stored i u
  have hb : (vs j).ownBlock = some b := by rw [hv]; rfl
  have := h.repl (v' := vs j) (l' := l') (w' := w.setCell ⟨b, i, none⟩ u) hj (by rw [updV_self]; exact h.blk.far (p := ⟨b, i, none⟩) (fun e => own_blk_ne (h.own j hj) h.blk (by decide) (by rw [hb, e])) u) (by rw [hv, hl, ← hs]; exact ho') (Turned.of_grown hg (fun _ e => by right; rw [hb]; exact e)) (fun q hq => .inl hq)
  rwa [updV_self] at this
/-- The map turns. -/
theorem TRen.put (h : TRen B o mo br gm vs g n S N t w) {q v : Nat} (hq : q ≤ 4294967295) {k : Nat} {D : DataW Unit} (hk : k ≤ N) (hm0 : TMap w gm k D) (hi0 : TIs t.tm D) (hm : TMap w' gm (k + 1) (D.put (refK q) (.lit (.int .u32 v)))) (hg : w.grownBy w' (some gm)) :
    TRen B o mo br gm vs g n S (N + 1) ⟨t.sl, fun m => if m = q then some v else t.tm m⟩ w' := by
  obtain ⟨ts, htb, htr⟩ := h.tab
  have ht : Turned (fun b => b = gm) w w' := Turned.of_grown hg (fun _ e => (Option.some.inj e).symm)
  refine ⟨ht.blk h.blk (fun e => hm0.ne h.blk e), fun j hj => own_keep (h.own j hj) (fun b hb hlt => ht.block b hlt (fun e => own_map_ne hm0 (h.own j hj) (by rw [hb, e]))), h.sep, ⟨k + 1, _, by omega, hm, hi0.step (hm0.tidy lawR) hq v⟩, ht.blk h.out (fun e => hm0.ne h.out e), ht.tbl ⟨ts, htb, htr⟩ (fun e => hm0.ne htb e)⟩
theorem TRen.more (h : TRen B o mo br gm vs g n S N t w) {N' : Nat} (hN : N ≤ N') : TRen B o mo br gm vs g n S N' t w := by
  obtain ⟨k, D, hk, r⟩ := h.map
  exact ⟨h.blk, h.own, h.sep, ⟨k, D, by omega, r⟩, h.out, h.tab⟩
end
end Go.Proofs.Ytlpmkbdglpnjhaa
