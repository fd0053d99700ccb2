/- n011_287: two renamers side by side. -/
import Derived.Test.YtdmllmipcfkaaaaDoorAcb
import Derived.Test.YtdmllmipcfkaaaaDoorZrt
namespace Go.Proofs.YtdmllmipcfkaaaaDoor
open Go.RowKit
set_option linter.unusedVariables false
set_option linter.unusedSimpArgs false
structure RenId where
  o : Nat
  mo : Option Nat
  br : Nat
  gm : Nat
  gs : Nat → Nat
  g : Nat
  pt : Nat
abbrev SideX (X : RenId) (B : Nat) (cn : Nat → Nat) (n : Nat) (S0 : Nat → SymR) (R M : Nat → Nat) (s : AS) (v : Value) (w : World) : Prop := Side B X.o X.mo X.br X.gm X.gs cn X.g n S0 R M X.pt s v w
def RenId.T (X : RenId) (v : Value) (b : Nat) : Prop := b = X.g ∨ b = X.pt ∨ v.ownBlock = some b ∨ b = X.gs 0 ∨ b = X.gs 1
structure RenId.Far (X Y : RenId) : Prop where
  g : X.g ≠ Y.g
  pt : X.pt ≠ Y.pt
  gs : ∀ i j, i < 4 → j < 4 → X.gs i ≠ Y.gs j
theorem RenId.Far.symm {X Y : RenId} (h : X.Far Y) : Y.Far X := ⟨fun e => h.g e.symm, fun e => h.pt e.symm, fun i j hi hj e => h.gs j i hj hi e.symm⟩
structure RenId.Up (X : RenId) (B : Nat) : Prop where
  g : B ≤ X.g
  pt : B ≤ X.pt
  gs : ∀ i, i < 4 → B ≤ X.gs i
theorem own_ge {w : World} {B e s n : Nat} {v : Value} {xs : List Value} (h : w.ownsRow B e s v n xs) {b : Nat} (hb : v.ownBlock = some b) : B ≤ b ∧ b < w.heap.size := by
  rcases h.2 with ⟨rfl, rfl⟩ | ⟨g, cap, cur, rfl, hB, hg, _⟩
  · cases hb
  · have e : g = b := Option.some.inj (show some g = some b from hb)
    subst e
    exact ⟨hB, Blk.lt hg⟩
/-- Two renamers, what they share, and what lay there before. -/
structure Both (w0 : World) (B sb q : Nat) (stable : Int) (cn : Nat → Nat) (n : Nat) (S0 : Nat → SymR) (R M : Nat → Nat) (X Y : RenId) (s : AS) (v : Value) (s' : AS) (v' : Value) (w : World) : Prop where
  a : SideX X B cn n S0 R M s v w
  b : SideX Y B cn n S0 R M s' v' w
  own : ∀ x, v.ownBlock = some x → v'.ownBlock ≠ some x
  src : Blk w sb 24 #[.int .u32 stable]
  rts : RtT w q n n R
  bel : Below B w0 w
  far : X.Far Y
  ua : X.Up B
  ub : Y.Up B
  hb : B ≤ w.heap.size
section
variable {w0 : World} {B sb q : Nat} {stable : Int} {cn : Nat → Nat} {n : Nat} {S0 : Nat → SymR} {R M : Nat → Nat} {X Y : RenId} {s s' : AS} {v v' : Value} {w w' : World}
theorem Both.swap (h : Both w0 B sb q stable cn n S0 R M X Y s v s' v' w) : Both w0 B sb q stable cn n S0 R M Y X s' v' s v w :=
  ⟨h.b, h.a, fun x h1 h2 => h.own x h2 h1, h.src, h.rts, h.bel, h.far.symm, h.ub, h.ua, h.hb⟩
theorem Side.grown' {o : Nat} {mo : Option Nat} {br gm : Nat} {gs : Nat → Nat} {g pt : Nat} (h : Side B o mo br gm gs cn g n S0 R M pt s v w) (hg : w.grownBy w' none) : Side B o mo br gm gs cn g n S0 R M pt s v w' :=
  h.turned (T := fun _ => False) (Turned.of_grown hg (fun _ e => by cases e)) (fun e => e) (fun e => e) (fun e => e) (fun _ _ e => e) (fun e => e) (fun _ _ e => e)
theorem Both.grown (h : Both w0 B sb q stable cn n S0 R M X Y s v s' v' w) (hg : w.grownBy w' none) : Both w0 B sb q stable cn n S0 R M X Y s v s' v' w' :=
  ⟨h.a.grown' hg, h.b.grown' hg, h.own, h.src.grown hg (by simp), h.rts.turned (T := fun _ => False) (Turned.of_grown hg (fun _ e => by cases e)) (fun e => e), h.bel.grown hg h.hb (fun k hk => by cases hk), h.far, h.ua, h.ub, Nat.le_trans h.hb hg.size⟩
/-- One of the two takes a step. -/
theorem Both.step (h : Both w0 B sb q stable cn n S0 R M X Y s v s' v' w) {s2 : AS} {v2 : Value} (hs : SideX X B cn n S0 R M s2 v2 w') (ht : Turned (fun b => b = X.g ∨ b = X.pt ∨ v.ownBlock = some b ∨ b = X.gs 0 ∨ b = X.gs 1) w w') (hf : ∀ p, v2.ownBlock = some p → v.ownBlock = some p ∨ w.heap.size ≤ p) :
    Both w0 B sb q stable cn n S0 R M X Y s2 v2 s' v' w' := by
  obtain ⟨ga, hga⟩ := h.a.tab.blk
  obtain ⟨gb, hgb⟩ := h.b.tab.blk
  obtain ⟨sa0, hsa0⟩ := (h.a.rs.slt 0 (by omega)).blk
  obtain ⟨sa1, hsa1⟩ := (h.a.rs.slt 1 (by omega)).blk
  obtain ⟨qs, hq, _⟩ := h.rts
  have ne : ∀ {b : Nat} {t : TypeId} {cs : Array Value}, Blk w b t cs → t ≠ 66 → t ≠ 39 → 47 ≠ t → t ≠ 81 → ¬ (b = X.g ∨ b = X.pt ∨ v.ownBlock = some b ∨ b = X.gs 0 ∨ b = X.gs 1) := by
    intro b t cs hb h1 h2 h3 h4
    rintro (e | e | e | e | e)
    · exact Blk.ne_ hb hga h1 e
    · exact Blk.ne_ hb h.a.lst h2 e
    · exact own_blk_ne h.a.own hb h3 e
    · exact Blk.ne_ hb hsa0 h4 e
    · exact Blk.ne_ hb hsa1 h4 e
  refine ⟨hs, h.b.turned ht (ne h.b.out (by decide) (by decide) (by decide) (by decide)) ?_ (ne h.b.rs.blk (by decide) (by decide) (by decide) (by decide)) ?_ ?_ ?_, ?_, ht.blk h.src (ne h.src (by decide) (by decide) (by decide) (by decide)), h.rts.turned ht (ne hq (by decide) (by decide) (by decide) (by decide)), ?_, h.far, h.ua, h.ub, Nat.le_trans h.hb ht.size⟩
  · rintro (e | e | e | e | e)
    · exact h.far.g e.symm
    · exact Blk.ne_ hgb h.a.lst (by decide) e
    · exact own_blk_ne h.a.own hgb (by decide) e
    · exact Blk.ne_ hgb hsa0 (by decide) e
    · exact Blk.ne_ hgb hsa1 (by decide) e
  · intro j hj
    obtain ⟨sb, hsb⟩ := (h.b.rs.slt j hj).blk
    rintro (e | e | e | e | e)
    · exact Blk.ne_ hsb hga (by decide) e
    · exact Blk.ne_ hsb h.a.lst (by decide) e
    · exact own_blk_ne h.a.own hsb (by decide) e
    · exact h.far.gs 0 j (by omega) hj e.symm
    · exact h.far.gs 1 j (by omega) hj e.symm
  · rintro (e | e | e | e | e)
    · exact Blk.ne_ h.b.lst hga (by decide) e
    · exact h.far.pt e.symm
    · exact own_blk_ne h.a.own h.b.lst (by decide) e
    · exact Blk.ne_ h.b.lst hsa0 (by decide) e
    · exact Blk.ne_ h.b.lst hsa1 (by decide) e
  · intro b hb
    rintro (e | e | e | e | e)
    · exact own_blk_ne h.b.own hga (by decide) (by rw [hb, e])
    · exact own_blk_ne h.b.own h.a.lst (by decide) (by rw [hb, e])
    · exact h.own b e hb
    · exact own_blk_ne h.b.own hsa0 (by decide) (by rw [hb, e])
    · exact own_blk_ne h.b.own hsa1 (by decide) (by rw [hb, e])
  · intro x hx hx'
    rcases hf x hx with e | e
    · exact h.own x e hx'
    · have := (own_ge h.b.own hx').2
      omega
  · refine h.bel.trans (ht.below (fun i _ hi => ?_) h.hb)
    rcases hi with rfl | rfl | e | rfl | rfl
    · exact h.ua.g
    · exact h.ua.pt
    · exact (own_ge h.a.own e).1
    · exact h.ua.gs 0 (by omega)
    · exact h.ua.gs 1 (by omega)
end
/-- Every entry of the list is a root. -/
def GoodL (n : Nat) (R : Nat → Nat) (s : AS) : Prop := s.xs.length = s.L * 4 ∧ ∀ m, m < s.L → ∃ (a c : Int) (r : Nat), s.xs[m * 4]? = some (.int .u32 a) ∧ s.xs[m * 4 + 1]? = some (.int .u32 0) ∧ s.xs[m * 4 + 2]? = some (.int .u32 r) ∧ s.xs[m * 4 + 3]? = some (.int .u32 c) ∧ r < n ∧ R r = r
theorem GoodL.step {n : Nat} {R : Nat → Nat} {s : AS} (h : GoodL n R s) (stable : Int) (r : SymR) (root : Nat) (count : Int) (h1 : root < n) (h2 : R root = root) : GoodL n R (accStep stable r root count s) ∧ (accStep stable r root count s).L ≤ s.L + 1 := by
  unfold accStep
  split
  · exact ⟨h, by omega⟩
  · split
    · refine ⟨⟨by simp [h.1]; omega, fun m hm => ?_⟩, Nat.le_refl _⟩
      by_cases e : m < s.L
      · obtain ⟨a, c, r', e0, e1, e2, e3, e4⟩ := h.2 m e
        have hl := h.1
        exact ⟨a, c, r', by rw [List.getElem?_append_left (by omega)]; exact e0, by rw [List.getElem?_append_left (by omega)]; exact e1, by rw [List.getElem?_append_left (by omega)]; exact e2, by rw [List.getElem?_append_left (by omega)]; exact e3, e4⟩
      · have hm' : m < s.L + 1 := hm
        obtain rfl : m = s.L := by omega
        have hl := h.1
        exact ⟨stable, count, root, by rw [List.getElem?_append_right (by omega), show s.L * 4 - s.xs.length = 0 by omega]; rfl, by rw [List.getElem?_append_right (by omega), show s.L * 4 + 1 - s.xs.length = 1 by omega]; rfl, by rw [List.getElem?_append_right (by omega), show s.L * 4 + 2 - s.xs.length = 2 by omega]; rfl, by rw [List.getElem?_append_right (by omega), show s.L * 4 + 3 - s.xs.length = 3 by omega]; rfl, h1, h2⟩
    · exact ⟨h, by simp⟩
theorem own_slice {w : World} {B e s n : Nat} {v : Value} {xs : List Value} (h : w.ownsRow B e s v n xs) :
    ∃ A c, v = .slice A n c ∧ (0 < n → ∃ g, A = some ⟨g, 0, none⟩ ∧ g < w.heap.size ∧ ∀ j, j < n * s → w.cell? ⟨g, j, none⟩ = xs[j]?) := by
  rcases h.2 with ⟨rfl, rfl⟩ | ⟨g, cap, cur, rfl, _, hg, _⟩
  · exact ⟨none, 0, rfl, fun h => by omega⟩
  · exact ⟨_, _, rfl, fun _ => ⟨g, rfl, Blk.lt hg, fun j hj => h.cellAt j hj⟩⟩
theorem f4_le {c0 c1 c2 c3 : Nat} (h0 : c0 ≤ 65536) (h1 : c1 ≤ 65536) (h2 : c2 ≤ 65536) (h3 : c3 ≤ 65536) : ∀ j, j < 4 → f4 c0 c1 c2 c3 j ≤ 65536 := lt4 h0 h1 h2 h3
theorem symB_kd (n4 : Nat) (ks fs ds : List Int) (sc : Int) (ls : List Int) (m : Nat) : (symB true n4 ks fs ds sc ls m).kd = 0 ∨ (symB true n4 ks fs ds sc ls m).kd = 27 ∨ (symB true n4 ks fs ds sc ls m).kd = 18 := by
  show kdA true _ = 0 ∨ kdA true _ = 27 ∨ kdA true _ = 18
  unfold kdA
  rw [if_pos rfl]
  split
  · exact .inr (.inl rfl)
  · split
    · exact .inr (.inr rfl)
    · exact .inl rfl
theorem symB_ns (n4 : Nat) (ks fs ds : List Int) (sc : Nat) (ls : List Int) (m : Nat) (hs : sc ≤ 65536) : 0 ≤ (symB true n4 ks fs ds sc ls m).ns ∧ (symB true n4 ks fs ds sc ls m).ns ≤ 4294967295 ∧ ((symB true n4 ks fs ds sc ls m).ns = 0 ∨ (4294967295 - (symB true n4 ks fs ds sc ls m).ns < f4 sc sc 0 0 0 ∧ 4294967295 - (symB true n4 ks fs ds sc ls m).ns < f4 sc sc 0 0 1)) := by
  unfold symB
  simp only
  have e0 : f4 sc sc 0 0 0 = sc := rfl
  have e1 : f4 sc sc 0 0 1 = sc := rfl
  rw [e0, e1]
  cases h : nsd ds sc m
  · simp
  · have h1 : ds.getD m 0 ≠ 0 ∧ (sc : Int) ≠ 0 := of_decide_eq_true h
    have h2 : 0 ≤ (ds.getD m 0 - 1) % (sc : Int) := Int.emod_nonneg _ h1.2
    have h3 : (ds.getD m 0 - 1) % (sc : Int) < sc := Int.emod_lt_of_pos _ (by omega)
    simp only [if_true]
    omega
end Go.Proofs.YtdmllmipcfkaaaaDoor
