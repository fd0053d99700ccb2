/- The graph of n011_92, plain: an absent file lays nothing, an edge may point nowhere; what the law asks. -/
import Derived.Test.YtecncdcfmmceeaaGreatTli
import Derived.Test.YtecncdcfmmceeaaGreatTsm
import Derived.Test.YtecncdcfmmceeaaGreatBfs
namespace Go.Proofs.YtecncdcfmmceeaaGreat
open Go.RowKit
set_option linter.unusedVariables false
set_option linter.unusedSimpArgs false
def tgN (n : Nat) (ds : Nat → Nat) (e : Nat) : Nat := if ds e < n then ds e else INV
def grN (n : Nat) (ok aw : Nat → Bool) (fr ds kb : Nat → Nat) (m : Nat) : TG := ⟨n, fun j => decide (j < n) && ok j, aw, rlE fr (tgN n ds) (fun j => kb j % 3) m⟩
def σ0 : TS := ⟨fun _ => INV, fun _ => INV, fun _ => 0, fun _ => 0⟩
theorem sound0 (G : TG) : Sound G σ0 := fun j => .inl ⟨rfl, rfl⟩
theorem grN_ok (n m : Nat) (ok aw : Nat → Bool) (fr ds kb : Nat → Nat) (hn : n ≤ 65536) (hm : m ≤ 65536) : GOk (grN n ok aw fr ds kb m) := by
  refine ⟨hn, fun j h => ?_, fun j => Nat.le_trans (rlE_len _ _ _ _ _) (by omega), fun j r k t h => ?_⟩
  · have h' : (decide (j < n) && ok j) = true := h
    rw [Bool.and_eq_true] at h'
    exact of_decide_eq_true h'.1
  · obtain ⟨x, h1, h2, h3, h4⟩ := rlE_mem (List.mem_of_getElem? h)
    refine ⟨by omega, ?_⟩
    rw [← h4]
    unfold tgN
    by_cases h5 : ds x < n
    · rw [if_pos h5]; exact .inl h5
    · rw [if_neg h5]; exact .inr rfl
def edg (m : Nat) (fr tg kb : Nat → Nat) (u t : Nat) : Prop := ∃ x, x < m ∧ kb x % 3 = 0 ∧ fr x = u ∧ tg x = t
theorem grN_edg (n m : Nat) (ok aw : Nat → Bool) (fr ds kb : Nat → Nat) (hn : n ≤ 65536) (u t : Nat) : (edg m fr ds kb u t ∧ t < n) ↔ stmtTo (grN n ok aw fr ds kb m) u t := by
  constructor
  · rintro ⟨⟨x, h1, h2, rfl, rfl⟩, h5⟩
    have := mem_rlE (fr := fr) (tg := tgN n ds) (kd := fun j => kb j % 3) h1
    obtain ⟨r, hr⟩ := List.getElem?_of_mem this
    refine ⟨⟨r, ?_⟩, h5⟩
    show (rlE fr (tgN n ds) (fun j => kb j % 3) m (fr x))[r]? = some (0, ds x)
    rw [hr, h2]
    unfold tgN
    rw [if_pos h5]
  · rintro ⟨⟨r, hr⟩, h5⟩
    obtain ⟨x, h1, h2, h3, h4⟩ := rlE_mem (List.mem_of_getElem? hr)
    have h5' : t < n := h5
    unfold tgN at h4
    by_cases h6 : ds x < n
    · rw [if_pos h6] at h4
      exact ⟨⟨x, h1, h3, h2, h4⟩, h5'⟩
    · rw [if_neg h6] at h4
      unfold INV at h4; omega
theorem rlE_pre (fr tg kd : Nat → Nat) (i : Nat) : ∀ (b a : Nat), a ≤ b → ∀ (r : Nat) (p : Nat × Nat), (rlE fr tg kd a i)[r]? = some p → (rlE fr tg kd b i)[r]? = some p
  | 0, a, h, r, p, hp => by
    have e : a = 0 := by omega
    subst e
    exact hp
  | b + 1, a, h, r, p, hp => by
    rcases Nat.lt_or_ge b a with h1 | h1
    · obtain rfl : a = b + 1 := by omega
      exact hp
    · have h2 := rlE_pre fr tg kd i b a h1 r p hp
      rw [rlE_succ]
      split
      · rw [List.getElem?_append_left (List.getElem?_eq_some_iff.1 h2).1]; exact h2
      · exact h2
/-- The r-th record is the edge at which the count stands at r. -/
theorem rlE_hit {fr tg kd : Nat → Nat} {m e i r : Nat} {p : Nat × Nat} (he : e < m) (hf : fr e = i) (hl : (rlE fr tg kd e i).length = r) (hp : (rlE fr tg kd m i)[r]? = some p) : p = (kd e, tg e) := by
  have h1 : (rlE fr tg kd (e + 1) i)[r]? = some (kd e, tg e) := by
    rw [rlE_succ, if_pos hf, ← hl]; simp
  have h2 := rlE_pre fr tg kd i m (e + 1) he r _ h1
  rw [hp] at h2
  injection h2
theorem reach_aw {G : TG} : ∀ (k j : Nat), reach G k j → ∃ t, G.ok t = true ∧ G.aw t = true
  | 0, j, h => ⟨j, h⟩
  | k + 1, j, ⟨_, t, _, h⟩ => reach_aw k t h
/-- Whether any file awaits. -/
theorem has_any {G : TG} {σ' : TS} {b : Bool} (hs : Sound G σ') (hset : ∀ k, Settled G σ' k) (hf : Flag σ0 σ' false b) : b = true ↔ ∃ t, G.ok t = true ∧ G.aw t = true := by
  constructor
  · intro hb
    rcases hf with ⟨h1, _⟩ | ⟨_, j, hj⟩
    · rw [hb] at h1; cases h1
    · have hj' : σ'.dep j < INV := hj
      obtain ⟨m, hm, _⟩ := hs.reach_ (σ'.dep j) j (Nat.le_refl _) (by omega)
      exact reach_aw m j hm
  · rintro ⟨t, h1, h2⟩
    rcases hf with ⟨_, h3⟩ | ⟨h3, _⟩
    · exfalso
      have h4 := hset 1 0 t (by omega) ⟨h1, h2⟩
      have h5 : σ'.dep t = INV := by rw [h3.1]; rfl
      rw [h5] at h4; unfold INV at h4; omega
    · exact h3
/-- What the law needs of one file. -/
structure FL (n m : Nat) (fr ds kb : Nat → Nat) (d : Nat → Nat) (σ : TS) (i : Nat) : Prop where
  pI : σ.par i ≤ INV
  dI : σ.dep i ≤ INV
  none_ : d i = 0 → σ.par i = INV
  one : ∀ k, d i = k + 1 → σ.dep i = k + 1 ∧ σ.par i < n ∧ (k = 0 → σ.par i = i) ∧ (1 ≤ k → d (σ.par i) = k ∧ (rlE fr (tgN n ds) (fun j => kb j % 3) m i)[σ.ri i]? = some (0, σ.par i))
theorem fl_of {n m : Nat} {ok aw : Nat → Bool} {fr ds kb : Nat → Nat} {d : Nat → Nat} {σ : TS} (hn : n ≤ 65536) (hs : Sound (grN n ok aw fr ds kb m) σ) (hset : ∀ k, Settled (grN n ok aw fr ds kb m) σ k)
    (hbo : BfsOK (grN n ok aw fr ds kb m) d) (hd : ∀ u, d u ≤ n) (i : Nat) (hi : i < n) : FL n m fr ds kb d σ i := by
  have hfix := fun j => fix_law hs hset hbo (fun j => by have := hd j; unfold INV; omega) j
  obtain ⟨f1, f2⟩ := hfix i
  have hn' : (grN n ok aw fr ds kb m).n = n := rfl
  have hpar : σ.par i ≤ INV := by
    rcases Nat.eq_zero_or_pos (d i) with h0 | h0
    · rw [(f1 h0).2]; exact Nat.le_refl _
    · obtain ⟨k, hk⟩ : ∃ k, d i = k + 1 := ⟨d i - 1, by omega⟩
      obtain ⟨_, _, _, h4, h5⟩ := f2 k hk
      rcases h5 with ⟨_, h6⟩ | ⟨_, _, h6, _⟩ <;> (unfold INV; omega)
  refine ⟨hpar, (hs.pos i).2, fun h0 => (f1 h0).2, fun k hk => ?_⟩
  obtain ⟨h1, _, h3, h4, h5⟩ := f2 k hk
  rcases h5 with ⟨h6, h7⟩ | ⟨h6, h7, h8, h9⟩
  · exact ⟨h1, by rw [h7]; exact hi, fun _ => h7, fun h => by omega⟩
  · exact ⟨h1, h8, fun h => by omega, fun _ => ⟨h9, h7⟩⟩
end Go.Proofs.YtecncdcfmmceeaaGreat
