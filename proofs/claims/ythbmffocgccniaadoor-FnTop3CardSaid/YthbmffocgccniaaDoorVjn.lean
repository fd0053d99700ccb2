/- The joiner: its rows in memory; AddBytes. -/
import Derived.Test.YthbmffocgccniaaDoorVen
import Derived.Deep.RegionLaw
import Derived.Deep.WholeRow
import Derived.Laws.Tables
import Derived.Deep.CutRange
import Derived.Handy
namespace Go.Proofs.YthbmffocgccniaaDoor
open Go.RowKit
set_option linter.unusedVariables false
set_option linter.unusedSimpArgs false
section
variable {P : Program} (w : World)
/-- The append as one step of a region that draws its order. -/
theorem step_append_own_src {ops : Array Oper} {o : Oper} {a : Act} {K : Act → World → Prop} {Q : Exit → Act → World → Prop} {E : Prop} (hgd : o.guard = none) (s x : Operand) (t tx : TypeId)
    (ho : o.op = .call { callee := .builtin .append, args := #[s, x], argTypes := #[t, tx] })
    (base : Nat) (e : TypeId) (i : TypeInfo) (z : Value) (size bytes : Nat) (ht : P.underlying t = some (.slice e)) (hi : P.info? e = some i) (hz : i.zero = some z)
    (hsize : i.size = size) (hby : i.bytes = bytes) (hzs : z.cells.size = size)
    (v : Value) (n : Nat) (xs : List Value) (hs : a.eval s = v) (hown : w.ownsRow base e size v n xs)
    (y : Value) (m : Nat) (news : List Value) (hx : a.eval x = y) (hsrc : Src P size tx y m news w)
    (h63 : n + m ≤ maxLen) (hbytes : (n + m) * bytes ≤ 140737488355328) (hbase : base ≤ w.heap.size)
    (h : ∀ v' w', w'.ownsRow base e size v' (n + m) (xs ++ news) → w.grownBy w' v.ownBlock → (v'.ownBlock = v.ownBlock ∨ v'.ownBlock = some w.heap.size) → K (a.put o.dst v') w') :
    if Region.wanted o (yielded ops a.tmps) = true then Oper.wp P o a w K Q else E := by
  have hw : Region.wanted o (yielded ops a.tmps) = true := by simp [Region.wanted, hgd]
  rw [if_pos hw]
  exact wp_append_own_src w s x t tx ho base e i z size bytes ht hi hz hsize hby hzs v n xs hs hown y m news hx hsrc h63 hbytes hbase h
end
theorem own_form {w : World} {B e s n : Nat} {v : Value} {xs : List Value} (h : w.ownsRow B e s v (n + 1) xs) : ∃ q cap, v = .slice (some ⟨q, 0, none⟩) (n + 1) cap := by
  obtain ⟨g, cap, hv, _⟩ := h.form (Nat.succ_pos _)
  exact ⟨g, cap, hv⟩
/-- One piece: the slice, its place in the whole, its bytes. -/
structure It where
  A : Option Addr
  n : Nat
  cap : Nat
  off : Nat
  T : Bt
def itC (it : It) : List Value := [.slice it.A it.n it.cap, .int .u32 (it.off : Int)]
def itsC (l : List It) : List Value := l.flatMap itC
def cat (l : List It) : Bt := l.flatMap It.T
theorem itsC_len : ∀ l : List It, (itsC l).length = l.length * 2
  | [] => rfl
  | r :: l => by
    have := itsC_len l
    unfold itsC at this ⊢
    rw [List.flatMap_cons, List.length_append, this, List.length_cons]
    show 2 + _ = _
    omega
theorem itsC_at : ∀ (l : List It) (i : Nat) (x : It), l[i]? = some x → (itsC l)[i * 2]? = some (.slice x.A x.n x.cap) ∧ (itsC l)[i * 2 + 1]? = some (.int .u32 (x.off : Int))
  | [], i, x, h => by simp at h
  | r :: l, 0, x, h => by
    obtain rfl : r = x := by simpa using h
    exact ⟨rfl, rfl⟩
  | r :: l, i + 1, x, h => by
    have h' : l[i]? = some x := by simpa using h
    obtain ⟨h1, h2⟩ := itsC_at l i x h'
    unfold itsC at h1 h2 ⊢
    rw [List.flatMap_cons, List.getElem?_append_right (by show 2 ≤ _; omega), List.getElem?_append_right (by show 2 ≤ _; omega)]
    constructor
    · rw [← h1]; congr 1; show _ - 2 = _; omega
    · rw [← h2]; congr 1; show _ - 2 = _; omega
theorem itsC_snoc (l : List It) (x : It) : itsC (l ++ [x]) = itsC l ++ itC x := by unfold itsC; rw [List.flatMap_append]; simp
theorem cat_snoc (l : List It) (x : It) : cat (l ++ [x]) = cat l ++ x.T := by unfold cat; rw [List.flatMap_append]; simp
/-- What the joiner's work may turn: the joiner's own block and its row. -/
structure JK (B : Nat) (w w' : World) : Prop where
  os : w'.os = w.os
  tape : w'.tape = w.tape
  output : w'.output = w.output
  size : w.heap.size ≤ w'.heap.size
  block : ∀ i, i < w.heap.size → (B ≤ i ∧ ∃ cs, Blk w i 48 cs ∨ Blk w i 60 cs) ∨ w'.heap[i]? = w.heap[i]?
theorem JK.refl (B : Nat) (w : World) : JK B w w := ⟨rfl, rfl, rfl, Nat.le_refl _, fun _ _ => .inr rfl⟩
theorem JK.trans {B : Nat} {a b c : World} (h : JK B a b) (k : JK B b c) : JK B a c := by
  refine ⟨k.os.trans h.os, k.tape.trans h.tape, k.output.trans h.output, Nat.le_trans h.size k.size, fun i hi => ?_⟩
  rcases h.block i hi with h1 | h1
  · exact .inl h1
  · rcases k.block i (Nat.lt_of_lt_of_le hi h.size) with ⟨hb, cs, h2⟩ | h2
    · refine .inl ⟨hb, cs, h2.imp (fun h => ?_) (fun h => ?_)⟩ <;> (unfold Blk at h ⊢; rw [← h1]; exact h)
    · exact .inr (h2.trans h1)
theorem JK.grown {B : Nat} {w w' : World} (h : w.grownBy w' none) : JK B w w' := ⟨h.os, h.tape, h.output, h.size, fun i hi => .inr (h.block i hi (by simp))⟩
theorem JK.below {B : Nat} {w0 w w' : World} (h : JK B w w') (hb : Below w0.heap.size w0 w) (hB : w0.heap.size ≤ B) : Below w0.heap.size w0 w' := by
  refine ⟨h.os.trans hb.os, h.tape.trans hb.tape, h.output.trans hb.output, Nat.le_trans hb.size h.size, fun i hi => ?_⟩
  rcases h.block i (Nat.lt_of_lt_of_le hi hb.size) with ⟨h1, _⟩ | h1
  · omega
  · exact h1.trans (hb.block i hi)
theorem JK.blk {B : Nat} {w w' : World} (h : JK B w w') {g : Nat} {t : TypeId} {cs : Array Value} (hb : Blk w g t cs) (h1 : t ≠ 48) (h2 : t ≠ 60) : Blk w' g t cs := by
  rcases h.block g hb.lt with ⟨_, cs', h3 | h3⟩ | h3
  · unfold Blk at hb h3; rw [hb] at h3; injection h3 with h3; injection h3 with _ h3; exact absurd h3 h1
  · unfold Blk at hb h3; rw [hb] at h3; injection h3 with h3; injection h3 with _ h3; exact absurd h3 h2
  · exact h3.trans hb
theorem JK.blu {B : Nat} {w w' : World} (h : JK B w w') {g : Nat} {cs : Array Value} (hb : Blu w g cs) : Blu w' g cs := by
  have hl := hb.lt
  obtain ⟨fr, hb⟩ := hb
  rcases h.block g hl with ⟨_, cs', h3 | h3⟩ | h3
  · unfold Blk at h3; rw [hb] at h3; injection h3 with h3; injection h3 with _ h3; exact absurd h3 (by decide)
  · unfold Blk at h3; rw [hb] at h3; injection h3 with h3; injection h3 with _ h3; exact absurd h3 (by decide)
  · exact ⟨fr, h3.trans hb⟩
theorem JK.low {B : Nat} {w w' : World} (h : JK B w w') {g : Nat} (hg : g < B) (hl : g < w.heap.size) : w'.heap[g]? = w.heap[g]? := by
  rcases h.block g hl with ⟨h1, _⟩ | h1
  · omega
  · exact h1
theorem TxB.jk {B : Nat} {w w' : World} {A : Option Addr} {n : Nat} {T : Bt} (h : TxB w A n T) (k : JK B w w') : TxB w' A n T := by
  obtain ⟨h1, h2⟩ := h
  refine ⟨h1, fun hn => ?_⟩
  obtain ⟨g, o, cs, rfl, hb, hc⟩ := h2 hn
  exact ⟨g, o, cs, rfl, k.blu hb, hc⟩
/-- The joiner holds these pieces; ln stands in its cell of lengths. -/
structure JI (B jb : Nat) (its : List It) (ln : Nat) (w : World) : Prop where
  blk : ∃ bv lb, Blk w jb 48 #[.slice none 0 0, bv, .int .u32 (ln : Int), .int .u8 lb] ∧ w.ownsRow B 60 2 bv its.length (itsC its)
  mem : ∀ it ∈ its, TxB w it.A it.n it.T
  off : ∀ k it, its[k]? = some it → it.off = (cat (its.take k)).length
  hb : B ≤ jb
theorem JI.grown {B jb : Nat} {its : List It} {ln : Nat} {w w' : World} (h : JI B jb its ln w) (hg : w.grownBy w' none) : JI B jb its ln w' := by
  obtain ⟨⟨bv, lb, h1, h2⟩, h3, h4, h5⟩ := h
  exact ⟨⟨bv, lb, h1.grown hg (by simp), h2.kept hg (Classical.em _)⟩, fun it hi => (h3 it hi).grown hg, h4, h5⟩
theorem jb_info : (Tryd.prog.info? 60).map (fun i => (i.zero, i.size, i.bytes)) = some (some (.agg #[.slice none 0 0, .int .u32 0]), 2, 32) := by kernel_rfl
def AddPost (B jb : Nat) (its : List It) (w : World) (e : Ending) (w' : World) : Prop := e = .returned (.tuple #[]) ∧ JI B jb its (cat its).length w' ∧ JK B w w'
theorem cat_take {its : List It} {x : It} {k : Nat} (h : k < its.length) : (its ++ [x]).take k = its.take k := List.take_append_of_le_length (by omega)
/-- A piece is written behind the row; its length is still to be added. -/
theorem JI.app {B jb : Nat} {its : List It} {ln : Nat} {w : World} (h : JI B jb its ln w) (hln : ln = (cat its).length) (x : It) (hx : x.off = ln) (hT : TxB w x.A x.n x.T) :
    ∃ bv, w.cell? ⟨jb, 1, none⟩ = some bv ∧ w.cell? ⟨jb, 2, none⟩ = some (.int .u32 (ln : Int)) ∧ (∃ A c, bv = .slice A its.length c) ∧ jb < w.heap.size ∧ w.ownsRow B 60 2 bv its.length (itsC its) ∧
      ∀ (W w2 : World) (v' : Value), w.grownBy W none → w2.ownsRow B 60 2 v' (its.length + 1) (itsC its ++ itC x) → W.grownBy w2 bv.ownBlock →
        w2.cell? ⟨jb, 1, none⟩ = some bv ∧ w2.frozen? ⟨jb, 1, none⟩ = false ∧ JI B jb (its ++ [x]) ln (w2.setCell ⟨jb, 1, none⟩ v') ∧ JK B w (w2.setCell ⟨jb, 1, none⟩ v') := by
  obtain ⟨⟨bv, lb, h1, h2⟩, h3, h4, h5⟩ := h
  have hform : ∃ A c, bv = .slice A its.length c := by
    rcases h2.2 with ⟨e1, e2⟩ | ⟨g, cap, cur, e1, _⟩
    · exact ⟨none, 0, by rw [e1, e2]⟩
    · exact ⟨_, cap, e1⟩
  refine ⟨bv, h1.cell 1, h1.cell 2, hform, h1.lt, h2, fun W w2 v' hg ho hgr => ?_⟩
  have hne : bv.ownBlock ≠ some jb := own_blk_ne h2 h1 (by decide)
  have hbW := h1.grown hg (by simp)
  have hb2 := hbW.grown hgr (fun e => hne e.symm)
  have hK2 : JK B w w2 := by
    refine ⟨hgr.os.trans hg.os, hgr.tape.trans hg.tape, hgr.output.trans hg.output, Nat.le_trans hg.size hgr.size, fun i hi => ?_⟩
    by_cases e : some i = bv.ownBlock
    · left
      rcases h2.2 with ⟨e1, _⟩ | ⟨g, cap, cur, e1, hB, hg', _⟩
      · rw [e1] at e; simp [Value.ownBlock] at e
      · rw [e1] at e
        obtain rfl : i = g := by simpa [Value.ownBlock] using e
        exact ⟨hB, cur, .inr hg'⟩
    · right
      exact (hgr.block i (Nat.lt_of_lt_of_le hi hg.size) e).trans (hg.block i hi (by simp))
  have hK3 : JK B w (w2.setCell ⟨jb, 1, none⟩ v') := by
    refine ⟨hK2.os, hK2.tape, hK2.output, by rw [size_setCell]; exact hK2.size, fun i hi => ?_⟩
    by_cases e : i = jb
    · subst e; exact .inl ⟨h5, _, .inl h1⟩
    · rcases hK2.block i hi with h6 | h6
      · exact .inl h6
      · exact .inr ((Below.heap_setCell w2 ⟨jb, 1, none⟩ v' i e).trans h6)
  refine ⟨hb2.cell 1, hb2.frozen 1, ⟨⟨v', lb, ?_, ?_⟩, fun it hi => ?_, fun k it hk => ?_, h5⟩, hK3⟩
  · have := hb2.set_ 1 v'
    simpa using this
  · rw [List.length_append, itsC_snoc]
    have hne' : v'.ownBlock ≠ some jb := own_blk_ne ho hb2 (by decide)
    exact ownsRow_setCell_other ho hne' _
  · rcases List.mem_append.1 hi with h6 | h6
    · exact (h3 it h6).jk hK3
    · obtain rfl : it = x := by simpa using h6
      exact hT.jk hK3
  · rcases Nat.lt_or_ge k its.length with h6 | h6
    · rw [List.getElem?_append_left h6] at hk
      rw [cat_take h6]; exact h4 k it hk
    · have hk' : k = its.length := by
        have := (List.getElem?_eq_some_iff.1 hk).1
        simp at this; omega
      subst hk'
      obtain rfl : x = it := by simpa using hk
      rw [hx, hln, List.take_append_of_le_length (Nat.le_refl _), List.take_length]
/-- Its length is added. -/
theorem JI.sum {B jb : Nat} {its : List It} {ln m : Nat} {w : World} (h : JI B jb its ln w) : w.cell? ⟨jb, 2, none⟩ = some (.int .u32 (ln : Int)) ∧ w.frozen? ⟨jb, 2, none⟩ = false ∧ JI B jb its m (w.setCell ⟨jb, 2, none⟩ (.int .u32 (m : Int))) ∧ JK B w (w.setCell ⟨jb, 2, none⟩ (.int .u32 (m : Int))) := by
  obtain ⟨⟨bv, lb, h1, h2⟩, h3, h4, h5⟩ := h
  have hne : bv.ownBlock ≠ some jb := own_blk_ne h2 h1 (by decide)
  have hK : JK B w (w.setCell ⟨jb, 2, none⟩ (.int .u32 (m : Int))) := by
    refine ⟨rfl, rfl, rfl, by rw [size_setCell]; exact Nat.le_refl _, fun i hi => ?_⟩
    by_cases e : i = jb
    · subst e; exact .inl ⟨h5, _, .inl h1⟩
    · exact .inr (Below.heap_setCell w ⟨jb, 2, none⟩ _ i e)
  refine ⟨h1.cell 2, h1.frozen 2, ⟨⟨bv, lb, ?_, ownsRow_setCell_other h2 hne _⟩, fun it hi => (h3 it hi).jk hK, h4, h5⟩, hK⟩
  have := h1.set_ 2 (.int .u32 (m : Int))
  simpa using this
theorem JI.last {B jb : Nat} {its : List It} {ln : Nat} {w : World} (h : JI B jb its ln w) (c : Int) : (∃ v, w.cell? ⟨jb, 3, none⟩ = some v) ∧ w.frozen? ⟨jb, 3, none⟩ = false ∧ JI B jb its ln (w.setCell ⟨jb, 3, none⟩ (.int .u8 c)) ∧ JK B w (w.setCell ⟨jb, 3, none⟩ (.int .u8 c)) := by
  obtain ⟨⟨bv, lb, h1, h2⟩, h3, h4, h5⟩ := h
  have hne : bv.ownBlock ≠ some jb := own_blk_ne h2 h1 (by decide)
  have hK : JK B w (w.setCell ⟨jb, 3, none⟩ (.int .u8 c)) := by
    refine ⟨rfl, rfl, rfl, by rw [size_setCell]; exact Nat.le_refl _, fun i hi => ?_⟩
    by_cases e : i = jb
    · subst e; exact .inl ⟨h5, _, .inl h1⟩
    · exact .inr (Below.heap_setCell w ⟨jb, 3, none⟩ _ i e)
  refine ⟨⟨_, h1.cell 3⟩, h1.frozen 3, ⟨⟨bv, c, ?_, ownsRow_setCell_other h2 hne _⟩, fun it hi => (h3 it hi).jk hK, h4, h5⟩, hK⟩
  have := h1.set_ 3 (.int .u8 c)
  simpa using this
theorem srcJ (w W : World) (x : It) (h : w.grownBy W none) (hb : W.heap[w.heap.size]? = some (.cells #[.slice x.A x.n x.cap, .int .u32 (x.off : Int)] 60 (0, 0))) : Src Tryd.prog 2 45 (.slice (some ⟨w.heap.size, 0, none⟩) 1 1) 1 (itC x) W :=
  Src.ofSlice _ Tryd.underlying45 _ 1 1 (itC x) rfl (fun j u hu => by
    rw [← hu]
    have := (show Blk W w.heap.size 60 _ from hb).cell j
    have e : (#[Value.slice x.A x.n x.cap, .int .u32 (x.off : Int)])[j]? = (itC x)[j]? := by simp [itC]
    rw [e] at this
    rw [← this]
    unfold Addr.add
    split
    · rename_i h0; subst h0; rfl
    · show World.cell? _ ⟨w.heap.size, 0 + j, none⟩ = _
      rw [Nat.zero_add]) (fun u hu => by
    simp only [itC, List.mem_cons, List.not_mem_nil, or_false] at hu
    rcases hu with rfl | rfl <;> rfl)
set_option maxHeartbeats 4000000 in
set_option maxRecDepth 100000 in
theorem add_any (B jb : Nat) (its : List It) (A : Option Addr) (n cap : Nat) (T : Bt) (w : World) (h : JI B jb its (cat its).length w) (hT : TxB w A n T) (hn : n ≤ 16777216) (hc : (cat its).length ≤ 16777216) (hl : its.length ≤ 1000) (hB : B ≤ w.heap.size) :
    Calls Tryd.prog 9 #[.pointer (some ⟨jb, 0, none⟩), .slice A n cap] w (AddPost B jb (its ++ [⟨A, n, cap, (cat its).length, T⟩]) w) := by
  obtain ⟨ln, hln⟩ : ∃ l, l = (cat its).length := ⟨_, rfl⟩
  rw [← hln] at h hc ⊢
  have HLN := Lib.hid hln
  have hTl : T.length = n := hT.1
  have HST : Hid (∃ w1, JI B jb its ln w1 ∧ JK B w w1 ∧ (n = 0 → w1 = w) ∧ (0 < n → ∃ ad c, A = some ad ∧ w.cell? (ad.add (n - 1)) = some (.int .u8 c) ∧ w1 = w.setCell ⟨jb, 3, none⟩ (.int .u8 c))) := Lib.hid (by
    by_cases h0 : n = 0
    · exact ⟨w, h, JK.refl _ _, fun _ => rfl, fun h1 => by omega⟩
    · obtain ⟨ad, u, h1, _, h2, h3⟩ := Reads.at_ hT.txt (k := n - 1) (by omega)
      rw [List.getElem?_map] at h2
      obtain ⟨c, _, rfl⟩ := Option.map_eq_some_iff.1 h2
      obtain ⟨_, _, r3, r4⟩ := h.last (c.toNat : Int)
      exact ⟨_, r3, r4, fun h => by omega, fun _ => ⟨ad, _, h1, h3, rfl⟩⟩)
  obtain ⟨w1, hj1, hk1, hw0, hw1⟩ := HST.out
  clear HST
  obtain ⟨bv, m1, m2, ⟨bA, bc, rfl⟩, m4, m5, m6⟩ := hj1.app hln ⟨A, n, cap, ln, T⟩ rfl (hT.jk hk1)
  obtain ⟨q0, hq0⟩ : ∃ q, q = its.length := ⟨_, rfl⟩
  rw [← hq0] at m5 m6 hl m1
  have HAPP := Lib.hid m6; have HOWN := Lib.hid m5
  have HJ1 := Lib.hid hj1; have HK1 := Lib.hid hk1
  have hB1 : B ≤ w1.heap.size := Nat.le_trans hB hk1.size
  obtain ⟨⟨v3, k3⟩, z3, _⟩ := h.last 0
  obtain ⟨xs0, hxs0⟩ : ∃ x, x = itsC its := ⟨_, rfl⟩
  rw [← hxs0] at HAPP HOWN
  obtain ⟨NEW, hNEW⟩ : ∃ NEW, NEW = Obj.cells #[.slice A n cap, .int .u32 (ln : Int)] 60 := ⟨_, rfl⟩
  have HWY : Hid (∀ W : World, (W = (w1.alloc NEW).drew ∨ W = w1.drew.alloc NEW ∨ W = w1.alloc NEW) → W.ownsRow B 60 2 (.slice bA q0 bc) q0 xs0 ∧ B ≤ W.heap.size ∧ w1.grownBy W none ∧ Src Tryd.prog 2 45 (.slice (some ⟨w1.heap.size, 0, none⟩) 1 1) 1 [.slice A n cap, .int .u32 (ln : Int)] W) := Lib.hid (fun W hW => by
    subst hNEW
    have e1 : (w1.alloc (.cells #[.slice A n cap, .int .u32 (ln : Int)] 60)).heap[w1.heap.size]? = some (.cells #[.slice A n cap, .int .u32 (ln : Int)] 60 (0, 0)) := heap_alloc_new w1 _
    rcases hW with rfl | rfl | rfl
    · exact ⟨(HOWN.out.alloc _).drew, by simp; omega, only_drew (only_alloc (World.grownBy.refl _ _) _), srcJ w1 _ ⟨A, n, cap, ln, T⟩ (only_drew (only_alloc (World.grownBy.refl _ _) _)) e1⟩
    · exact ⟨HOWN.out.drew.alloc _, by simp; omega, only_alloc (only_drew (World.grownBy.refl _ _)) _, srcJ w1 _ ⟨A, n, cap, ln, T⟩ (only_alloc (only_drew (World.grownBy.refl _ _)) _) e1⟩
    · exact ⟨HOWN.out.alloc _, by simp; omega, only_alloc (World.grownBy.refl _ _) _, srcJ w1 _ ⟨A, n, cap, ln, T⟩ (only_alloc (World.grownBy.refl _ _) _) e1⟩)
  subst hNEW
  obtain ⟨i0, hi0, hz0, hz1, hz2⟩ := info_parts jb_info
  have hwn : IntKind.u32.wrap (n : Int) = (n : Int) := by rw [IntKind.wrap_u32]; omega
  have hws : IntKind.u32.wrap ((ln : Int) + (n : Int)) = ((ln + n : Nat) : Int) := by rw [IntKind.wrap_u32]; omega
  obtain ⟨ln2, hln2⟩ : ∃ l, l = ln + n := ⟨_, rfl⟩
  rw [← hln2] at hws
  have HEND : Hid (∀ w2, JI B jb (its ++ [⟨A, n, cap, ln, T⟩]) ln w2 → JK B w1 w2 → w2.cell? ⟨jb, 2, none⟩ = some (.int .u32 (ln : Int)) ∧ w2.frozen? ⟨jb, 2, none⟩ = false ∧ AddPost B jb (its ++ [⟨A, n, cap, ln, T⟩]) w (.returned (.tuple #[])) (w2.setCell ⟨jb, 2, none⟩ (.int .u32 (ln2 : Int)))) := Lib.hid (fun w2 h1 h2 => by
    obtain ⟨r1, r2, r3, r4⟩ := h1.sum (m := ln2)
    have e : ln2 = (cat (its ++ [⟨A, n, cap, ln, T⟩])).length := by rw [cat_snoc, List.length_append, ← HLN.out, hln2, hTl]
    refine ⟨r1, r2, rfl, ?_, (HK1.out.trans h2).trans r4⟩
    rw [← e]; exact r3)
  have HL2 := Lib.hid hln2
  clear h hT hTl m5 m6 hj1 hk1 hxs0 hln hq0 hln2
  by_cases h0 : n = 0
  · subst h0
    obtain rfl := hw0 rfl
    obtain rfl : ln = ln2 := by have := HL2.out; omega
    clear hw0 hw1 k3 z3
    go_enter Tryd.func9, Tryd.ntmps9
    go_upto_region 2 with fail
    go_cut [] from 16 to 30 (fun wx => JI B jb (its ++ [⟨A, 0, cap, ln, T⟩]) ln wx ∧ JK B w1 wx)
    case first =>
      go_region_law (refine step_append_own_src _ rfl (.tmp 20) (.tmp 27) 45 45 rfl B 60 i0 (.agg #[.slice none 0 0, .int .u32 0]) 2 32 Tryd.underlying45 hi0 hz0 hz1 hz2 rfl (.slice bA q0 bc) q0 xs0 (by simp [Act.eval, Act.put]) (HWY.out _ (by first | exact Or.inl rfl | exact Or.inr (Or.inl rfl) | exact Or.inr (Or.inr rfl))).1 (.slice (some ⟨w1.heap.size, 0, none⟩) 1 1) 1 [.slice A 0 cap, .int .u32 (ln : Int)] (by simp [Act.eval, Act.put]) (HWY.out _ (by first | exact Or.inl rfl | exact Or.inr (Or.inl rfl) | exact Or.inr (Or.inr rfl))).2.2.2 (by unfold maxLen; omega) (by omega) (HWY.out _ (by first | exact Or.inl rfl | exact Or.inr (Or.inl rfl) | exact Or.inr (Or.inr rfl))).2.1 ?_; intro v' w2 hown' hgrow hat; obtain ⟨d0, z0, hji, hjk⟩ := HAPP.out _ w2 v' (HWY.out _ (by first | exact Or.inl rfl | exact Or.inr (Or.inl rfl) | exact Or.inr (Or.inr rfl))).2.2.1 hown' hgrow; obtain ⟨sq, scap, hv⟩ := own_form hown'; subst hv; have HJI := Lib.hid hji; have HJK := Lib.hid hjk; clear hown' hgrow hat hji hjk)
      all_goals
        go_wp2_with fail
        go_meet
        exact ⟨HJI.out, HJK.out⟩
    case rest =>
    obtain ⟨hj2, hk2⟩ := hcut
    obtain ⟨c2, z2, hfin⟩ := HEND.out _ hj2 hk2
    have HF := Lib.hid hfin
    clear hfin hj2 hk2 HAPP HWY HOWN m1 m2
    go_wp2
    (try refine bodyPost_ret (results_none rfl _ _ _) rfl ?_)
    (try go_end0)
    exact HF.out
  · obtain ⟨ad, c, rfl, hcell, hw1'⟩ := hw1 (by omega)
    have hn1 : (0 : Int) < (n : Int) := by omega
    have hd0 : 0 < n := by omega
    have hn2 : IntKind.i64.wrap ((n : Int) - 1) = ((n - 1 : Nat) : Int) := by rw [IntKind.wrap_i64]; omega
    obtain ⟨nn, hnn⟩ : ∃ m, m = n - 1 := ⟨_, rfl⟩
    rw [← hnn] at hn2 hcell
    have hnn2 : (nn : Int) < (n : Int) := by omega
    clear hw0 hw1 hnn
    go_enter Tryd.func9, Tryd.ntmps9
    go_upto_region 2 with fail
    first | rw [← hw1'] | skip
    clear hw1' k3 z3 hcell
    go_cut [] from 16 to 30 (fun wx => JI B jb (its ++ [⟨(some ad), n, cap, ln, T⟩]) ln wx ∧ JK B w1 wx)
    case first =>
      go_region_law (refine step_append_own_src _ rfl (.tmp 20) (.tmp 27) 45 45 rfl B 60 i0 (.agg #[.slice none 0 0, .int .u32 0]) 2 32 Tryd.underlying45 hi0 hz0 hz1 hz2 rfl (.slice bA q0 bc) q0 xs0 (by simp [Act.eval, Act.put]) (HWY.out _ (by first | exact Or.inl rfl | exact Or.inr (Or.inl rfl) | exact Or.inr (Or.inr rfl))).1 (.slice (some ⟨w1.heap.size, 0, none⟩) 1 1) 1 [.slice (some ad) n cap, .int .u32 (ln : Int)] (by simp [Act.eval, Act.put]) (HWY.out _ (by first | exact Or.inl rfl | exact Or.inr (Or.inl rfl) | exact Or.inr (Or.inr rfl))).2.2.2 (by unfold maxLen; omega) (by omega) (HWY.out _ (by first | exact Or.inl rfl | exact Or.inr (Or.inl rfl) | exact Or.inr (Or.inr rfl))).2.1 ?_; intro v' w2 hown' hgrow hat; obtain ⟨d0, z0, hji, hjk⟩ := HAPP.out _ w2 v' (HWY.out _ (by first | exact Or.inl rfl | exact Or.inr (Or.inl rfl) | exact Or.inr (Or.inr rfl))).2.2.1 hown' hgrow; obtain ⟨sq, scap, hv⟩ := own_form hown'; subst hv; have HJI := Lib.hid hji; have HJK := Lib.hid hjk; clear hown' hgrow hat hji hjk)
      all_goals
        go_wp2_with fail
        go_meet
        exact ⟨HJI.out, HJK.out⟩
    case rest =>
    obtain ⟨hj2, hk2⟩ := hcut
    obtain ⟨c2, z2, hfin⟩ := HEND.out _ hj2 hk2
    have HF := Lib.hid hfin
    clear hfin hj2 hk2 HAPP HWY HOWN m1 m2
    go_wp2
    (try refine bodyPost_ret (results_none rfl _ _ _) rfl ?_)
    (try go_end0)
    exact HF.out
end Go.Proofs.YthbmffocgccniaaDoor
