/- The CSS printer as a block of cells: all its cells are K's but the text's (cell 15), which is a row of the call's own. -/
import Derived.Test.YtppcjkajjahclaaFmtRows
import Derived.Test.YtppcjkajjahclaaFmtWords
import Derived.Test.YtppcjkajjahclaaFmtApp
import Derived.WalkKit
import Derived.WalkSpells
import Derived.LoopTactic
import Derived.Deep.Light
import Derived.Deep.RegionLaw
import Derived.BigRegion
import Derived.Outline
import Derived.Deep.WholeRow
import Derived.Laws.Tables
namespace Go.Proofs.YtppcjkajjahclaaFmt
open Go.RowKit
set_option linter.unusedVariables false
set_option linter.unusedSimpArgs false

section
variable {P : Program} (w : World)
/-- A whole struct stored into the block that was just made for it. -/
theorem wpList_store_new {ops : Array Oper} {rest : List Oper} {o : Oper} {a : Act} {Q : Exit → Act → World → Prop} (hgd : o.guard = none) (ty : TypeId) (x y : Operand) (ho : o.op = .store ty x y)
    (cells old : Array Value) (hx : a.eval x = .pointer (some ⟨w.heap.size, 0, none⟩)) (hy : a.eval y = .agg cells) (hi : (P.info? ty).map (·.size) = some cells.size)
    (hold : old.size = cells.size) (h1 : cells.all (·.oneCell') = true)
    (h : wpList P ops Q rest (a.put o.dst undef) (w.alloc (.cells cells ty))) : wpList P ops Q (o :: rest) a (w.alloc (.cells old ty)) :=
  wpList_plain hgd fun _ hK => by
    unfold Oper.wp execOp
    simp only [ho, hx, hy, Instr.storeAt, Instr.sureAddr, Sem.run_bind, Sem.run_pure, Result.andThen_ok, run_storeVar_new (P := P) w ty old cells hi hold h1]
    exact hK _ _ h
/-- The append as one step of a region that draws its order. -/
theorem step_append_own_src {ops : Array Oper} {o : Oper} {a : Act} {K : Act → World → Prop} {Q : Exit → Act → World → Prop} {E : Prop} (hgd : o.guard = none) (s x : Operand) (t tx : TypeId)
    (ho : o.op = .call { callee := .builtin .append, args := #[s, x], argTypes := #[t, tx] })
    (base : Nat) (e : TypeId) (i : TypeInfo) (z : Value) (size bytes : Nat) (ht : P.underlying t = some (.slice e)) (hi : P.info? e = some i) (hz : i.zero = some z)
    (hsize : i.size = size) (hby : i.bytes = bytes) (hzs : z.cells.size = size)
    (v : Value) (n : Nat) (xs : List Value) (hs : a.eval s = v) (hown : w.ownsRow base e size v n xs)
    (y : Value) (m : Nat) (news : List Value) (hx : a.eval x = y) (hsrc : Src P size tx y m news w)
    (h63 : n + m ≤ maxLen) (hbytes : (n + m) * bytes ≤ 140737488355328) (hbase : base ≤ w.heap.size)
    (h : ∀ v' w', w'.ownsRow base e size v' (n + m) (xs ++ news) → w.grownBy w' v.ownBlock → (v'.ownBlock = v.ownBlock ∨ v'.ownBlock = some w.heap.size) → K (a.put o.dst v') w') :
    if Region.wanted o (yielded ops a.tmps) = true then Oper.wp P o a w K Q else E := by
  have hw : Region.wanted o (yielded ops a.tmps) = true := by simp [Region.wanted, hgd]
  rw [if_pos hw]
  exact wp_append_own_src w s x t tx ho base e i z size bytes ht hi hz hsize hby hzs v n xs hs hown y m news hx hsrc h63 hbytes hbase h
end

theorem u8I : (Tryf.prog.info? 5).map (fun i => (i.zero, i.size, i.bytes)) = some (some (.int .u8 0), 1, 1) := by kernel_rfl

/-- The block of a row. -/
def rb (A : Option Addr) : Option Nat := A.map (·.block)
theorem ownBlock_slice (A : Option Addr) (n c : Nat) : Value.ownBlock (.slice A n c) = rb A := by cases A <;> rfl
/-- Only block b, the row's block and new blocks have turned. -/
structure Kept (b : Nat) (r : Option Nat) (w w' : World) : Prop where
  size : w.heap.size ≤ w'.heap.size
  block : ∀ i, i < w.heap.size → i ≠ b → some i ≠ r → w'.heap[i]? = w.heap[i]?
/-- The row lies where it lay, or in a block that is new. -/
def RowAt (r r' : Option Nat) (n : Nat) : Prop := r' = r ∨ ∃ g, r' = some g ∧ n ≤ g
theorem RowAt.trans {r r1 r2 : Option Nat} {n n1 : Nat} (h : RowAt r r1 n) (h1 : RowAt r1 r2 n1) (hn : n ≤ n1) : RowAt r r2 n := by
  rcases h1 with rfl | ⟨g, rfl, hg⟩
  · exact h
  · exact .inr ⟨g, rfl, by omega⟩
theorem Kept.refl (b : Nat) (r : Option Nat) (w : World) : Kept b r w w := ⟨Nat.le_refl _, fun _ _ _ _ => rfl⟩
theorem Kept.trans {b : Nat} {r r1 : Option Nat} {w w1 w2 : World} (h : Kept b r w w1) (h1 : Kept b r1 w1 w2) (hr : RowAt r r1 w.heap.size) : Kept b r w w2 := by
  refine ⟨Nat.le_trans h.size h1.size, fun i hi hb hne => ?_⟩
  rw [h1.block i (Nat.lt_of_lt_of_le hi h.size) hb (by
    rcases hr with rfl | ⟨g, rfl, hg⟩
    · exact hne
    · intro e; injection e with e; omega)]
  exact h.block i hi hb hne
theorem Kept.of_below {b : Nat} {r : Option Nat} {w w' : World} (h : Below w.heap.size w w') : Kept b r w w' := ⟨h.size, fun i hi _ _ => h.block i hi⟩
theorem Kept.of_grown {b : Nat} {r : Option Nat} {w w' : World} (h : w.grownBy w' r) : Kept b r w w' := ⟨h.size, fun i hi _ hne => h.block i hi hne⟩
theorem Kept.drew {b : Nat} {r : Option Nat} {w w' : World} (h : Kept b r w w') : Kept b r w w'.drew := ⟨h.size, h.block⟩
theorem Kept.alloc {b : Nat} {r : Option Nat} {w w' : World} (h : Kept b r w w') (o : Obj) : Kept b r w (w'.alloc o) :=
  ⟨Nat.le_trans h.size (by simp), fun i hi hb hne => (Below.heap_alloc w' o i (Nat.lt_of_lt_of_le hi h.size)).trans (h.block i hi hb hne)⟩
theorem Kept.set {b : Nat} {r : Option Nat} {w w' : World} (h : Kept b r w w') (i : Nat) (u : Value) : Kept b r w (w'.setCell ⟨b, i, none⟩ u) :=
  ⟨by simpa [World.setCell] using h.size, fun j hj hb hne => (Below.heap_setCell w' ⟨b, i, none⟩ u j hb).trans (h.block j hj hb hne)⟩
theorem Kept.setNew {b : Nat} {r : Option Nat} {w w' : World} (h : Kept b r w w') {p : Addr} (hp : w.heap.size ≤ p.block) (u : Value) : Kept b r w (w'.setCell p u) :=
  ⟨by simpa [World.setCell] using h.size, fun j hj hb hne => (Below.heap_setCell w' p u j (by omega)).trans (h.block j hj hb hne)⟩
theorem Kept.blk {b : Nat} {r : Option Nat} {w w' : World} (h : Kept b r w w') {g : Nat} {t : TypeId} {cs : Array Value} (hg : Blk w g t cs) (hb : g ≠ b) (hr : some g ≠ r) : Blk w' g t cs := (h.block g hg.lt hb hr).trans hg
/-- A row of the call's own lies still where its block has not turned. -/
theorem own_kept {w w' : World} {B : Nat} {e : TypeId} {A : Option Addr} {n c m : Nat} {xs : List Value} (h : w.ownsRow B e 1 (.slice A n c) m xs) (hk : ∀ g, rb A = some g → g < w.heap.size → w'.heap[g]? = w.heap[g]?) : w'.ownsRow B e 1 (.slice A n c) m xs := by
  refine ⟨h.1, ?_⟩
  rcases h.2 with h2 | ⟨g, cap2, cur, a, b2, c2, d⟩
  · exact .inl h2
  · refine .inr ⟨g, cap2, cur, a, b2, ?_, d⟩
    have hlt : g < w.heap.size := by
      rcases Nat.lt_or_ge g w.heap.size with hlt | hge
      · exact hlt
      · rw [Array.getElem?_eq_none hge] at c2; cases c2
    rw [hk g (by injection a with a; rw [a]; rfl) hlt]
    exact c2
theorem own_below {w w' : World} {B : Nat} {e : TypeId} {A : Option Addr} {n c m : Nat} {xs : List Value} (h : w.ownsRow B e 1 (.slice A n c) m xs) (hb : Below w.heap.size w w') : w'.ownsRow B e 1 (.slice A n c) m xs :=
  own_kept h fun g _ hg => hb.block g hg

/-- The printer lies at block b: its 43 cells are K's but cell 15, the text. -/
structure IsP (B b : Nat) (K : Array Value) (A : Option Addr) (cap : Nat) (bs : List Value) (w : World) : Prop where
  base : B ≤ b
  size : K.size = 43
  blk : Blk w b 60 (K.setIfInBounds 15 (.slice A bs.length cap))
  own : w.ownsRow B 5 1 (.slice A bs.length cap) bs.length bs
section
variable {B b : Nat} {K : Array Value} {A : Option Addr} {cap : Nat} {bs : List Value} {w : World}
theorem IsP.cell (h : IsP B b K A cap bs w) {i : Nat} (hi : i ≠ 15) : w.cell? ⟨b, i, none⟩ = K[i]? := by
  rw [h.blk.cell i, Array.getElem?_setIfInBounds_ne (fun e => hi e.symm)]
theorem IsP.css (h : IsP B b K A cap bs w) {L : Nat} (hL : bs.length = L) : w.cell? ⟨b, 15, none⟩ = some (.slice A L cap) := by
  rw [h.blk.cell 15, Array.getElem?_setIfInBounds_self_of_lt (by have := h.size; omega), hL]
theorem IsP.ownL (h : IsP B b K A cap bs w) {L : Nat} (hL : bs.length = L) : w.ownsRow B 5 1 (.slice A L cap) L bs := by subst hL; exact h.own
theorem IsP.drew (h : IsP B b K A cap bs w) : IsP B b K A cap bs w.drew := ⟨h.base, h.size, h.blk, h.own.drew⟩
theorem IsP.alloc (h : IsP B b K A cap bs w) (o : Obj) : IsP B b K A cap bs (w.alloc o) := ⟨h.base, h.size, h.blk.alloc o, h.own.alloc o⟩
theorem IsP.lt (h : IsP B b K A cap bs w) : b < w.heap.size := h.blk.lt
theorem IsP.below {w' : World} {B' : Nat} (h : IsP B b K A cap bs w) (hb : Below B' w w') (hB : w.heap.size ≤ B') : IsP B b K A cap bs w' := by
  refine ⟨h.base, h.size, h.blk.below hb (by have := h.blk.lt; omega), ⟨h.own.1, ?_⟩⟩
  rcases h.own.2 with h2 | ⟨g, cap2, cur, a, b2, c2, d⟩
  · exact .inl h2
  · refine .inr ⟨g, cap2, cur, a, b2, ?_, d⟩
    have hlt : g < w.heap.size := by
      rcases Nat.lt_or_ge g w.heap.size with hlt | hge
      · exact hlt
      · rw [Array.getElem?_eq_none hge] at c2; cases c2
    rw [hb.block g (by omega)]
    exact c2
theorem IsP.grown {w' : World} {g : Nat} (h : IsP B b K A cap bs w) (hg : w.grownBy w' (some g)) (hb : b ≠ g) (ho : Value.ownBlock (.slice A bs.length cap) ≠ some g) : IsP B b K A cap bs w' := by
  refine ⟨h.base, h.size, h.blk.grown hg (fun e => hb (by injection e)), ⟨h.own.1, ?_⟩⟩
  rcases h.own.2 with h2 | ⟨g', cap2, cur, a, b2, c2, d⟩
  · exact .inl h2
  · refine .inr ⟨g', cap2, cur, a, b2, ?_, d⟩
    have hlt : g' < w.heap.size := by
      rcases Nat.lt_or_ge g' w.heap.size with hlt | hge
      · exact hlt
      · rw [Array.getElem?_eq_none hge] at c2; cases c2
    rw [hg.block g' hlt (fun e => ho (by rw [a]; simpa [Value.ownBlock] using e))]
    exact c2
/-- The printer behind an append and its store. -/
theorem IsP.put {w' : World} {A' : Option Addr} {cap' : Nat} {news : List Value} {m : Nat}
    (h : IsP B b K A cap bs w) (hg : w.grownBy w' (Value.ownBlock (.slice A bs.length cap))) (hm : m = (bs ++ news).length) (hown : w'.ownsRow B 5 1 (.slice A' m cap') m (bs ++ news)) :
    IsP B b K A' cap' (bs ++ news) (w'.setCell ⟨b, 15, none⟩ (.slice A' m cap')) := by
  subst hm
  have hne := own_blk_ne h.own h.blk (by decide)
  have hb' := h.blk.grown hg (fun e => hne e.symm)
  have hne' := own_blk_ne hown hb' (by decide)
  have hset := hb'.set_ 15 (.slice A' (bs ++ news).length cap')
  rw [Array.setIfInBounds_setIfInBounds] at hset
  refine ⟨h.base, h.size, hset, ⟨hown.1, ?_⟩⟩
  rcases hown.2 with h2 | ⟨g, cap2, cur, a, b2, c2, d⟩
  · exact .inl h2
  · refine .inr ⟨g, cap2, cur, a, b2, ?_, d⟩
    rw [Below.heap_setCell _ _ _ _ (show g ≠ b by
      rintro rfl
      exact hne' (by rw [a]; rfl))]
    exact c2
/-- All that an append of m bytes to the text leaves: ahead of the store, and behind it. -/
theorem IsP.app {w0 w2 : World} {L m : Nat} {v' : Value} {news : List Value} (h : IsP B b K A cap bs w) (hL : bs.length = L) (hB : B ≤ w.heap.size) (hbw : Below B w0 w) (hm : 0 < m)
    (hown' : w2.ownsRow B 5 1 v' (L + m) (bs ++ news)) (hgrow : w.grownBy w2 (Value.ownBlock (.slice A L cap))) (hat : v'.ownBlock = Value.ownBlock (.slice A L cap) ∨ v'.ownBlock = some w.heap.size) :
    ∃ g cap2, v' = .slice (some ⟨g, 0, none⟩) (L + m) cap2 ∧ w2.cell? ⟨b, 15, none⟩ = some (.slice A L cap) ∧ w2.frozen? ⟨b, 15, none⟩ = false ∧
      IsP B b K (some ⟨g, 0, none⟩) cap2 (bs ++ news) (w2.setCell ⟨b, 15, none⟩ (.slice (some ⟨g, 0, none⟩) (L + m) cap2)) ∧
      Below B w0 (w2.setCell ⟨b, 15, none⟩ (.slice (some ⟨g, 0, none⟩) (L + m) cap2)) ∧ (bs ++ news).length = L + m ∧ w.heap.size ≤ w2.heap.size ∧
      Kept b (rb A) w (w2.setCell ⟨b, 15, none⟩ (.slice (some ⟨g, 0, none⟩) (L + m) cap2)) ∧ RowAt (rb A) (rb (some ⟨g, 0, none⟩)) w.heap.size := by
  have hnl : (bs ++ news).length = L + m := by have := hown'.1; rw [this, Nat.mul_one]
  subst hL
  obtain ⟨g, cap2, rfl⟩ : ∃ g cap2, v' = .slice (some ⟨g, 0, none⟩) (bs.length + m) cap2 := by
    rcases hown'.2 with ⟨_, h0⟩ | ⟨g, cap2, cur, hv, _⟩
    · omega
    · exact ⟨g, cap2, hv⟩
  have hb2 := h.blk.grown hgrow (fun e => own_blk_ne h.own h.blk (by decide) e.symm)
  refine ⟨g, cap2, rfl, ?_, hb2.frozen 15, ?_, ?_, hnl, hgrow.size, (Kept.of_grown (by rw [← ownBlock_slice A bs.length cap]; exact hgrow)).set 15 _, ?_⟩
  · rw [hb2.cell 15, Array.getElem?_setIfInBounds_self_of_lt (by have := h.size; omega)]
  · exact h.put hgrow hnl.symm hown'
  · exact (hbw.grown hgrow hB (fun k hk => (h.own.lt k hk).1)).setCell (p := ⟨b, 15, none⟩) h.base _
  · rw [ownBlock_slice, ownBlock_slice] at hat
    rcases hat with h1 | h1
    · exact .inl h1
    · exact .inr ⟨g, rfl, by injection h1 with h1; simp at h1; omega⟩
end
/-- The cells of a printer made with a line limit and a text alone. -/
def freshP (lim : Int) (v : Value) : Array Value := #[.pointer none, .slice none 0 0, .map none, .int .i64 lim, .int .u32 0, .int .u16 0, .bool false, .bool false, .int .u8 0, .bool false, .int .u8 0, .bool false, .int .u8 0, .slice none 0 0, .slice none 0 0, v, .map none, .slice none 0 0, .slice none 0 0, .pointer none, .slice none 0 0, .slice none 0 0, .map none, .slice none 0 0, .string ⟨#[]⟩, .int .i64 0, .int .i64 0, .int .i64 0, .int .i64 0, .int .i64 0, .int .i64 0, .bool false, .int .i64 0, .int .i64 0, .int .i64 0, .int .i32 0, .int .u32 0, .bool false, .bool false, .bool false, .bool false, .int .i64 0, .int .i64 0]
theorem freshP_one (lim : Int) (A : Option Addr) (n c : Nat) : (freshP lim (.slice A n c)).all (·.oneCell') = true := by kernel_rfl
theorem infoP : (Tryf.prog.info? 60).map (·.size) = some 43 := by kernel_rfl
theorem isP_new {B : Nat} {A : Option Addr} {n cap : Nat} {bs : List Value} {w : World} (lim : Int) (hown : w.ownsRow B 5 1 (.slice A n cap) n bs) (hl : bs.length = n) (hB : B ≤ w.heap.size) :
    IsP B w.heap.size (freshP lim (.slice A n cap)) A cap bs (w.alloc (.cells (freshP lim (.slice A n cap)) 60)) := by
  subst hl
  exact ⟨hB, rfl, Blk.new w _ _, hown.alloc _⟩
end Go.Proofs.YtppcjkajjahclaaFmt
