/- Top-level await, plain: the graph, the state of the checks, what one call of the recursion may do to it, what a pass leaves, what the fixed point says. No program in sight. -/
import Derived.WalkKit
namespace Go.Proofs.YtecncdcfmmceeaaGreat
open Go.RowKit
set_option linter.unusedVariables false
set_option linter.unusedSimpArgs false
def INV : Nat := 4294967295
/-- The files, which are present, which await, and each one's records: kind (0: statement, 1: require, else: dynamic) and target (INV: nowhere). -/
structure TG where
  n : Nat
  ok : Nat → Bool
  aw : Nat → Bool
  recs : Nat → List (Nat × Nat)
structure TS where
  dep : Nat → Nat
  par : Nat → Nat
  ri : Nat → Nat
  pas : Nat → Nat
def stmtTo (G : TG) (j t : Nat) : Prop := (∃ r : Nat, (G.recs j)[r]? = some (0, t)) ∧ t < G.n
def reach (G : TG) : Nat → Nat → Prop
  | 0, j => G.ok j = true ∧ G.aw j = true
  | k + 1, j => G.ok j = true ∧ ∃ t, stmtTo G j t ∧ reach G k t
structure Fix (G : TG) (σ : TS) (j : Nat) : Prop where
  lt : σ.dep j < INV
  ok : G.ok j = true
  jn : j < G.n
  how : (G.aw j = true ∧ σ.dep j = 1 ∧ σ.par j = j) ∨ (G.aw j = false ∧ 2 ≤ σ.dep j ∧ (G.recs j)[σ.ri j]? = some (0, σ.par j) ∧ σ.par j < G.n ∧ σ.dep (σ.par j) + 1 ≤ σ.dep j)
def Sound (G : TG) (σ : TS) : Prop := ∀ j, (σ.dep j = INV ∧ σ.par j = INV) ∨ Fix G σ j
theorem Sound.pos {G : TG} {σ : TS} (h : Sound G σ) (j : Nat) : 1 ≤ σ.dep j ∧ σ.dep j ≤ INV := by
  rcases h j with h1 | h1
  · unfold INV at h1 ⊢; omega
  · have := h1.lt
    rcases h1.how with h2 | h2 <;> (unfold INV at this ⊢; omega)
theorem Sound.reach_ {G : TG} {σ : TS} (h : Sound G σ) : ∀ (d j : Nat), σ.dep j ≤ d → σ.dep j ≠ INV → ∃ m, reach G m j ∧ m + 1 ≤ σ.dep j
  | 0, j, hd, _ => by have := (h.pos j).1; omega
  | d + 1, j, hd, hi => by
    rcases h j with h1 | h1
    · exact absurd h1.1 hi
    · rcases h1.how with ⟨ha, h2, _⟩ | ⟨ha, h2, h3, h4, h5⟩
      · exact ⟨0, ⟨h1.ok, ha⟩, by omega⟩
      · have hlt := h1.lt
        obtain ⟨m, hm, hle⟩ := Sound.reach_ h d (σ.par j) (by omega) (by omega)
        exact ⟨m + 1, ⟨h1.ok, σ.par j, ⟨⟨_, h3⟩, h4⟩, hm⟩, by omega⟩
def Same (σ σ' : TS) : Prop := σ'.dep = σ.dep ∧ σ'.par = σ.par ∧ σ'.ri = σ.ri
theorem Sound.same {G : TG} {σ σ' : TS} (h : Sound G σ) (hs : Same σ σ') : Sound G σ' := by
  obtain ⟨h1, h2, h3⟩ := hs
  intro j
  rcases h j with h4 | h4
  · left; rw [h1, h2]; exact h4
  · right
    exact ⟨by rw [h1]; exact h4.lt, h4.ok, h4.jn, by rw [h1, h2, h3]; exact h4.how⟩
def Flag (σ σ' : TS) (dc dc' : Bool) : Prop := (dc' = dc ∧ Same σ σ') ∨ (dc' = true ∧ ∃ j, σ'.dep j < σ.dep j)
def Done (G : TG) (σ σ' : TS) (j : Nat) : Prop := (G.aw j = true → σ'.dep j ≤ 1) ∧ ∀ t, stmtTo G j t → σ'.dep j ≤ σ.dep t + 1
/-- What a stretch of work in pass p does, file i (if any) being still under way. -/
structure Rel (G : TG) (p : Nat) (i : Option Nat) (σ σ' : TS) : Prop where
  mono : ∀ j, σ'.dep j ≤ σ.dep j
  pas1 : ∀ j, σ.pas j = p → σ'.pas j = p
  pas2 : ∀ j, σ'.pas j = σ.pas j ∨ σ'.pas j = p
  new : ∀ j, some j ≠ i → σ.pas j ≠ p → σ'.pas j = p → Done G σ σ' j
theorem Rel.refl (G : TG) (p : Nat) (i : Option Nat) (σ : TS) : Rel G p i σ σ := ⟨fun _ => Nat.le_refl _, fun _ h => h, fun _ => .inl rfl, fun j _ h1 h2 => absurd h2 h1⟩
theorem Rel.trans {G : TG} {p : Nat} {i : Option Nat} {a b c : TS} (h : Rel G p i a b) (k : Rel G p none b c) : Rel G p i a c := by
  refine ⟨fun j => Nat.le_trans (k.mono j) (h.mono j), fun j hj => k.pas1 j (h.pas1 j hj), fun j => ?_, fun j hi h1 h2 => ?_⟩
  · rcases k.pas2 j with h2 | h2
    · rw [h2]; exact h.pas2 j
    · exact .inr h2
  · by_cases hb : b.pas j = p
    · obtain ⟨d1, d2⟩ := h.new j hi h1 hb
      exact ⟨fun ha => Nat.le_trans (k.mono j) (d1 ha), fun t ht => Nat.le_trans (k.mono j) (d2 t ht)⟩
    · obtain ⟨d1, d2⟩ := k.new j (by simp) hb h2
      exact ⟨d1, fun t ht => Nat.le_trans (d2 t ht) (Nat.succ_le_succ (h.mono t))⟩
theorem Same.trans {a b c : TS} (h : Same a b) (k : Same b c) : Same a c := ⟨k.1.trans h.1, k.2.1.trans h.2.1, k.2.2.trans h.2.2⟩
theorem Same.refl (a : TS) : Same a a := ⟨rfl, rfl, rfl⟩
theorem Flag.trans {a b c : TS} {x y z : Bool} (h : Flag a b x y) (k : Flag b c y z) (hm : ∀ j, b.dep j ≤ a.dep j) (km : ∀ j, c.dep j ≤ b.dep j) : Flag a c x z := by
  rcases k with ⟨k1, k2⟩ | ⟨k1, j, k2⟩
  · rcases h with ⟨h1, h2⟩ | ⟨h1, j, h2⟩
    · exact .inl ⟨k1.trans h1, h2.trans k2⟩
    · exact .inr ⟨k1.trans h1, j, by rw [k2.1]; exact h2⟩
  · exact .inr ⟨k1, j, Nat.lt_of_lt_of_le k2 (hm j)⟩
def updF (f : Nat → Nat) (i v : Nat) : Nat → Nat := fun j => if j = i then v else f j
theorem updF_self (f : Nat → Nat) (i v : Nat) : updF f i v i = v := if_pos rfl
theorem updF_ne (f : Nat → Nat) {i j : Nat} (v : Nat) (h : j ≠ i) : updF f i v j = f j := if_neg h
/-- A file is stamped. -/
def stamp (σ : TS) (i p : Nat) : TS := { σ with pas := updF σ.pas i p }
theorem stamp_rel (G : TG) (p i : Nat) (σ : TS) : Rel G p (some i) σ (stamp σ i p) := by
  refine ⟨fun _ => Nat.le_refl _, fun j hj => ?_, fun j => ?_, fun j hi h1 h2 => ?_⟩
  · by_cases e : j = i
    · subst e; exact updF_self _ _ _
    · exact (updF_ne _ _ e).trans hj
  · by_cases e : j = i
    · subst e; exact .inr (updF_self _ _ _)
    · exact .inl (updF_ne _ _ e)
  · have e : j ≠ i := fun e => hi (by rw [e])
    exact absurd ((updF_ne σ.pas p e).symm.trans h2) h1
theorem stamp_same (σ : TS) (i p : Nat) : Same σ (stamp σ i p) := ⟨rfl, rfl, rfl⟩
/-- An awaiting file becomes its own parent. -/
def setAw (σ : TS) (i : Nat) : TS := { σ with par := updF σ.par i i, dep := updF σ.dep i 1 }
theorem setAw_sound {G : TG} {σ : TS} {i : Nat} (h : Sound G σ) (hi : i < G.n) (hok : G.ok i = true) (haw : G.aw i = true) (hp : σ.par i ≠ i) : Sound G (setAw σ i) ∧ σ.dep i = INV := by
  have hd : σ.dep i = INV := by
    rcases h i with h1 | h1
    · exact h1.1
    · rcases h1.how with ⟨_, _, h2⟩ | ⟨h2, _⟩
      · exact absurd h2 hp
      · rw [haw] at h2; cases h2
  refine ⟨fun j => ?_, hd⟩
  by_cases e : j = i
  · subst e
    right
    exact ⟨by show updF _ _ _ _ < _; rw [updF_self]; unfold INV; omega, hok, hi, .inl ⟨haw, updF_self _ _ _, updF_self _ _ _⟩⟩
  · rcases h j with h1 | h1
    · left
      exact ⟨(updF_ne _ _ e).trans h1.1, (updF_ne _ _ e).trans h1.2⟩
    · right
      have e1 : (setAw σ i).dep j = σ.dep j := updF_ne _ _ e
      have e2 : (setAw σ i).par j = σ.par j := updF_ne _ _ e
      refine ⟨by rw [e1]; exact h1.lt, h1.ok, h1.jn, ?_⟩
      rw [e1, e2]
      refine h1.how.imp id fun ⟨h2, h3, h4, h5, h6⟩ => ⟨h2, h3, h4, h5, ?_⟩
      show updF σ.dep i 1 (σ.par j) + 1 ≤ _
      by_cases e3 : σ.par j = i
      · rw [e3, updF_self]; omega
      · rw [updF_ne _ _ e3]; exact h6
theorem setAw_rel (G : TG) (p i : Nat) (σ : TS) (hd : σ.dep i = INV) : Rel G p (some i) σ (setAw σ i) := by
  refine ⟨fun j => ?_, fun j hj => hj, fun j => .inl rfl, fun j _ h1 h2 => absurd h2 h1⟩
  by_cases e : j = i
  · subst e; show updF _ _ _ _ ≤ _; rw [updF_self, hd]; unfold INV; omega
  · exact Nat.le_of_eq (updF_ne _ _ e)
theorem setAw_flag (σ : TS) (i : Nat) (dc : Bool) (hd : σ.dep i = INV) : Flag σ (setAw σ i) dc true :=
  .inr ⟨rfl, i, by show updF _ _ _ _ < _; rw [updF_self, hd]; unfold INV; omega⟩
/-- A file takes a nearer parent. -/
def setPar (σ : TS) (i r t : Nat) : TS := { σ with par := updF σ.par i t, dep := updF σ.dep i (σ.dep t + 1), ri := updF σ.ri i r }
theorem setPar_sound {G : TG} {σ : TS} {i r t : Nat} (h : Sound G σ) (hi : i < G.n) (hok : G.ok i = true) (haw : G.aw i = true → σ.dep i ≤ 1) (hr : (G.recs i)[r]? = some (0, t)) (ht : t < G.n) (hlt : σ.dep t < σ.dep i - 1) : Sound G (setPar σ i r t) := by
  have hpi := h.pos i
  have hpt := h.pos t
  have hne : t ≠ i := fun e => by rw [e] at hlt; omega
  have haw : G.aw i = false := by
    cases ha : G.aw i with
    | false => rfl
    | true => have := haw ha; omega
  intro j
  by_cases e : j = i
  · subst e
    right
    have e1 : (setPar σ j r t).dep j = σ.dep t + 1 := updF_self _ _ _
    have e2 : (setPar σ j r t).par j = t := updF_self _ _ _
    have e3 : (setPar σ j r t).ri j = r := updF_self _ _ _
    have e4 : (setPar σ j r t).dep t = σ.dep t := updF_ne _ _ hne
    refine ⟨by rw [e1]; omega, hok, hi, .inr ⟨haw, by rw [e1]; omega, by rw [e2, e3]; exact hr, by rw [e2]; exact ht, by rw [e2, e1, e4]; exact Nat.le_refl _⟩⟩
  · have e1 : (setPar σ i r t).dep j = σ.dep j := updF_ne _ _ e
    have e2 : (setPar σ i r t).par j = σ.par j := updF_ne _ _ e
    have e3 : (setPar σ i r t).ri j = σ.ri j := updF_ne _ _ e
    rcases h j with h1 | h1
    · left; rw [e1, e2]; exact h1
    · right
      refine ⟨by rw [e1]; exact h1.lt, h1.ok, h1.jn, ?_⟩
      rw [e1, e2, e3]
      refine h1.how.imp id fun ⟨h2, h3, h4, h5, h6⟩ => ⟨h2, h3, h4, h5, ?_⟩
      show updF σ.dep i (σ.dep t + 1) (σ.par j) + 1 ≤ _
      by_cases e3 : σ.par j = i
      · rw [e3, updF_self]; rw [e3] at h6; omega
      · rw [updF_ne _ _ e3]; exact h6
theorem setPar_rel (G : TG) (p i r t : Nat) (σ : TS) (hlt : σ.dep t < σ.dep i - 1) : Rel G p (some i) σ (setPar σ i r t) := by
  refine ⟨fun j => ?_, fun j hj => hj, fun j => .inl rfl, fun j _ h1 h2 => absurd h2 h1⟩
  by_cases e : j = i
  · subst e; show updF _ _ _ _ ≤ _; rw [updF_self]; omega
  · exact Nat.le_of_eq (updF_ne _ _ e)
theorem setPar_flag (σ : TS) (i r t : Nat) (dc : Bool) (hlt : σ.dep t < σ.dep i - 1) : Flag σ (setPar σ i r t) dc true :=
  .inr ⟨rfl, i, by show updF _ _ _ _ < _; rw [updF_self]; omega⟩
/-- Composition where both stretches have the file under way. -/
theorem Rel.trans' {G : TG} {p i : Nat} {a b c : TS} (h : Rel G p (some i) a b) (k : Rel G p (some i) b c) : Rel G p (some i) a c := by
  refine ⟨fun j => Nat.le_trans (k.mono j) (h.mono j), fun j hj => k.pas1 j (h.pas1 j hj), fun j => ?_, fun j hi h1 h2 => ?_⟩
  · rcases k.pas2 j with h2 | h2
    · rw [h2]; exact h.pas2 j
    · exact .inr h2
  · by_cases hb : b.pas j = p
    · obtain ⟨d1, d2⟩ := h.new j hi h1 hb
      exact ⟨fun ha => Nat.le_trans (k.mono j) (d1 ha), fun t ht => Nat.le_trans (k.mono j) (d2 t ht)⟩
    · obtain ⟨d1, d2⟩ := k.new j hi hb h2
      exact ⟨d1, fun t ht => Nat.le_trans (d2 t ht) (Nat.succ_le_succ (h.mono t))⟩
/-- The file is done. -/
theorem Rel.close {G : TG} {p i : Nat} {a b : TS} (h : Rel G p (some i) a b) (hd : Done G a b i) : Rel G p none a b :=
  ⟨h.mono, h.pas1, h.pas2, fun j _ h1 h2 => by
    by_cases e : j = i
    · subst e; exact hd
    · exact h.new j (fun e' => e (Option.some.inj e')) h1 h2⟩
/-- How many files are still to be stamped. -/
def todo (G : TG) (p : Nat) (σ : TS) : Nat := (List.range G.n).countP fun j => σ.pas j != p
theorem countP_mono {α : Type} (l : List α) (P Q : α → Bool) (h : ∀ x ∈ l, Q x = true → P x = true) : l.countP Q ≤ l.countP P := by
  induction l with
  | nil => exact Nat.le_refl _
  | cons x l ih =>
    rw [List.countP_cons, List.countP_cons]
    have ih' := ih fun y hy => h y (List.mem_cons_of_mem _ hy)
    cases hq : Q x with
    | false => simp; omega
    | true => rw [h x (by simp) hq]; simp; omega
theorem countP_lt {α : Type} (l : List α) (P Q : α → Bool) (h : ∀ x ∈ l, Q x = true → P x = true) (y : α) (hy : y ∈ l) (h1 : P y = true) (h2 : Q y = false) : l.countP Q < l.countP P := by
  induction l with
  | nil => cases hy
  | cons x l ih =>
    rw [List.countP_cons, List.countP_cons]
    have hm := countP_mono l P Q fun z hz => h z (List.mem_cons_of_mem _ hz)
    rcases List.mem_cons.1 hy with rfl | hy
    · rw [h1, h2]; simp; omega
    · have ih' := ih (fun z hz => h z (List.mem_cons_of_mem _ hz)) hy
      cases hq : Q x with
      | false => simp; omega
      | true => rw [h x (by simp) hq]; simp; omega
theorem todo_mono {G : TG} {p : Nat} {a b : TS} (h : ∀ j, a.pas j = p → b.pas j = p) : todo G p b ≤ todo G p a :=
  countP_mono _ _ _ fun j _ hj => by
    rw [bne_iff_ne] at hj ⊢
    exact fun e => hj (h j e)
theorem todo_lt {G : TG} {p i : Nat} {a b : TS} (h : ∀ j, a.pas j = p → b.pas j = p) (hi : i < G.n) (h1 : a.pas i ≠ p) (h2 : b.pas i = p) : todo G p b < todo G p a :=
  countP_lt _ _ _ (fun j _ hj => by
    rw [bne_iff_ne] at hj ⊢
    exact fun e => hj (h j e)) i (List.mem_range.2 hi) (by rw [bne_iff_ne]; exact h1) (by simpa using h2)
/-- All that lies nearer than k is settled. -/
def Settled (G : TG) (σ : TS) (k : Nat) : Prop := ∀ m j, m < k → reach G m j → σ.dep j ≤ m + 1
theorem settled_step {G : TG} {p k : Nat} {a b : TS} (hs : Settled G a k) (hr : Rel G p none a b) (ha : ∀ j, a.pas j ≠ p) (hall : ∀ j, j < G.n → G.ok j = true → b.pas j = p) (hn : ∀ j, G.ok j = true → j < G.n) : Settled G b (k + 1) := by
  intro m j hm hreach
  cases m with
  | zero =>
    obtain ⟨h1, h2⟩ := hreach
    exact (hr.new j (by simp) (ha j) (hall j (hn j h1) h1)).1 h2
  | succ m =>
    obtain ⟨h1, t, h2, h3⟩ := hreach
    have h4 := (hr.new j (by simp) (ha j) (hall j (hn j h1) h1)).2 t h2
    have h5 := hs m t (by omega) h3
    omega
/-- A pass that changes something changes a file that lies far. -/
theorem change_far {G : TG} {p k : Nat} {a b : TS} (hs : Settled G a k) (hb : Sound G b) {j : Nat} (hj : b.dep j < a.dep j) (ha : a.dep j ≤ INV) : k + 1 ≤ b.dep j ∧ b.dep j < INV := by
  obtain ⟨m, hm, hle⟩ := hb.reach_ (b.dep j) j (Nat.le_refl _) (by omega)
  rcases Nat.lt_or_ge m k with h1 | h1
  · have := hs m j h1 hm
    omega
  · exact ⟨by omega, by omega⟩
/-- The fixed point: every file that reaches an awaiting one by k statements has a depth of at most k + 1. -/
theorem settled_all {G : TG} {p : Nat} {a b : TS} (hr : Rel G p none a b) (hsame : Same a b) (ha : ∀ j, a.pas j ≠ p) (hall : ∀ j, j < G.n → G.ok j = true → b.pas j = p) (hn : ∀ j, G.ok j = true → j < G.n) : ∀ k, Settled G b k
  | 0 => fun m j h => absurd h (Nat.not_lt_zero _)
  | k + 1 => by
    have ih := settled_all hr hsame ha hall hn k
    have iha : Settled G a k := fun m j h1 h2 => by rw [← hsame.1]; exact ih m j h1 h2
    exact settled_step iha hr ha hall hn
/-- The breadth-first distances: d j = 0 is 'nowhere', d j = k + 1 is 'k statements away'. -/
structure BfsOK (G : TG) (d : Nat → Nat) : Prop where
  zero : ∀ j, d j = 1 ↔ (G.ok j = true ∧ G.aw j = true)
  down : ∀ j k, d j = k + 2 → G.ok j = true ∧ ∃ t, stmtTo G j t ∧ d t = k + 1
  up : ∀ j t, G.ok j = true → stmtTo G j t → d t ≠ 0 → d j ≠ 0 ∧ d j ≤ d t + 1
theorem BfsOK.reach_ {G : TG} {d : Nat → Nat} (h : BfsOK G d) : ∀ k j, d j = k + 1 → reach G k j
  | 0, j, hd => (h.zero j).1 hd
  | k + 1, j, hd => by
    obtain ⟨h1, t, h2, h3⟩ := h.down j k hd
    exact ⟨h1, t, h2, h.reach_ k t h3⟩
theorem BfsOK.le {G : TG} {d : Nat → Nat} (h : BfsOK G d) : ∀ k j, reach G k j → d j ≠ 0 ∧ d j ≤ k + 1
  | 0, j, hr => by rw [(h.zero j).2 hr]; omega
  | k + 1, j, ⟨h1, t, h2, h3⟩ => by
    have h4 := h.le k t h3
    have h5 := h.up j t h1 h2 h4.1
    omega
/-- What the law asks, file by file. -/
theorem fix_law {G : TG} {σ : TS} {d : Nat → Nat} (hs : Sound G σ) (hset : ∀ k, Settled G σ k) (hb : BfsOK G d) (hd : ∀ j, d j < INV) (j : Nat) :
    (d j = 0 → σ.dep j = INV ∧ σ.par j = INV) ∧ (∀ k, d j = k + 1 → σ.dep j = k + 1 ∧ σ.dep j < INV ∧ G.ok j = true ∧ j < G.n ∧ ((k = 0 ∧ σ.par j = j) ∨ (1 ≤ k ∧ (G.recs j)[σ.ri j]? = some (0, σ.par j) ∧ σ.par j < G.n ∧ d (σ.par j) = k))) := by
  refine ⟨fun h0 => ?_, fun k hk => ?_⟩
  · rcases hs j with h1 | h1
    · exact h1
    · exfalso
      obtain ⟨m, hm, _⟩ := hs.reach_ (σ.dep j) j (Nat.le_refl _) (by have := h1.lt; omega)
      exact (hb.le m j hm).1 h0
  · have hreach := hb.reach_ k j hk
    have hle := hset (k + 1) k j (by omega) hreach
    rcases hs j with h1 | h1
    · exfalso
      have := hd j
      omega
    · have hlt := h1.lt
      obtain ⟨m, hm, hm1⟩ := hs.reach_ (σ.dep j) j (Nat.le_refl _) (by omega)
      have h2 := hb.le m j hm
      have heq : σ.dep j = k + 1 := by omega
      refine ⟨heq, hlt, h1.ok, h1.jn, ?_⟩
      rcases h1.how with ⟨_, h3, h4⟩ | ⟨_, h3, h4, h5, h6⟩
      · exact .inl ⟨by omega, h4⟩
      · refine .inr ⟨by omega, h4, h5, ?_⟩
        have h7 : σ.dep (σ.par j) ≠ INV := by omega
        obtain ⟨m', hm', hle'⟩ := hs.reach_ _ (σ.par j) (Nat.le_refl _) h7
        have h8 := hb.le m' _ hm'
        have h9 := hb.up j (σ.par j) h1.ok ⟨⟨_, h4⟩, h5⟩ h8.1
        omega
end Go.Proofs.YtecncdcfmmceeaaGreat
