/- printIdent's slow path: the plain step, and what a round keeps. -/
import Derived.Test.YtppcjkajjahclaaFmtIdw
import Derived.Test.YtppcjkajjahclaaFmtIdc
import Derived.Lib.OthersKept
namespace Go.Proofs.YtppcjkajjahclaaFmt
open Go.RowKit
set_option linter.unusedVariables false
set_option linter.unusedSimpArgs false
structure StepI (s : ByteArray) (ao : Bool) (p c wd : Nat) : Prop where
  plain : c ≠ 13 ∧ c ≠ 10 ∧ c ≠ 12 ∧ c ≠ 65279
  asc : ao = true → c < 128
  top : c ≤ 2097151
  wd1 : 1 ≤ wd
  fits : p + wd ≤ s.size
  none_ : isCont (c : Int) = true → ¬ (p = 0 ∧ ¬ startsI s.data.toList) → cellsB (outI s.data.toList (p + wd)) = cellsB (outI s.data.toList p) ++ Lib.runeCells (c : Int)
  bs_ : isCont (c : Int) = false ∨ (p = 0 ∧ ¬ startsI s.data.toList) → isHex (c : Int) = false ∧ cellsB (outI s.data.toList (p + wd)) = cellsB (outI s.data.toList p) ++ [.int .u8 92] ++ Lib.runeCells (c : Int)
theorem take_one (t : List UInt8) (p : Nat) (h : p < t.length) : (t.drop p).take 1 = [t.getD p 0] := by
  rw [List.drop_eq_getElem_cons h, List.getD_eq_getElem?_getD, List.getElem?_eq_getElem h]
  rfl
theorem step_i (s : ByteArray) (ao : Bool) (hd : Dom s ao) (p c wd : Nat) (hp : p < s.size) (hg : good s p) (he : Utf8.decode s p = (c, wd)) : StepI s ao p c wd := by
  have hr := rune_at s p c wd hp (hd.nul p hp) he
  have hl := qsize s
  have hn := hd.nul p hp
  obtain ⟨h1, h2, h3⟩ := hd.hex
  obtain ⟨a1, a2, a3, a4⟩ := h2 p (by omega)
  have henc := enc_good s p hp hg
  rw [he] at henc
  have hcont : isCont (c : Int) = true ↔ (128 ≤ tb s.data.toList p ∨ nmB (tb s.data.toList p)) := by
    unfold isCont
    rw [hr.start, Bool.or_eq_true, decide_eq_true_iff, decide_eq_true_iff]
    rcases Nat.lt_or_ge (tb s.data.toList p) 128 with h | h
    · rw [(hr.low h).1]; unfold nsB nmB; omega
    · unfold nsB nmB; omega
  refine ⟨?_, fun h => ?_, hr.top, hr.wd1, by have := hr.fits; omega, fun h4 h5 => ?_, fun h4 => ?_⟩
  · refine ⟨?_, ?_, ?_, fun e => ?_⟩
    · rcases Nat.lt_or_ge (tb s.data.toList p) 128 with h | h
      · have := (hr.low h).1; omega
      · have := (hr.high h).1; omega
    · rcases Nat.lt_or_ge (tb s.data.toList p) 128 with h | h
      · have := (hr.low h).1; omega
      · have := (hr.high h).1; omega
    · rcases Nat.lt_or_ge (tb s.data.toList p) 128 with h | h
      · have := (hr.low h).1; omega
      · have := (hr.high h).1; omega
    · obtain ⟨b1, b2, b3, b4⟩ := hr.bom e
      exact h3 p b2 ⟨b1, b3, b4⟩
  · rw [(hr.low (a4 h)).1]; exact a4 h
  · rw [henc, ← cellsB_app]
    congr 1
    have h6 := hcont.1 h4
    have h7 : ¬ escI s.data.toList p := fun e => by
      rcases e.2 with e2 | e2
      · rcases h6 with h6 | h6
        · have := e.1; omega
        · exact e2 h6
      · exact h5 e2
    rcases Nat.lt_or_ge (tb s.data.toList p) 128 with h | h
    · rw [(hr.low h).2, outI_succ, take_one _ _ (by omega)]
      unfold pcI
      rw [if_neg h7]
    · exact outI_high _ p wd (hr.high h).2 (by have := hr.fits; omega)
  · have h6 : tb s.data.toList p < 128 := by
      refine Decidable.byContradiction fun h => ?_
      rcases h4 with h4 | ⟨rfl, h4⟩
      · rw [hcont.2 (.inl (by omega))] at h4; cases h4
      · exact h4 ⟨by omega, .inl (by unfold nsB; omega)⟩
    have h7 : escI s.data.toList p := by
      refine ⟨h6, ?_⟩
      rcases h4 with h4 | h4
      · left; intro h8
        rw [hcont.2 (.inr h8)] at h4; cases h4
      · exact .inr h4
    obtain ⟨rfl, rfl⟩ := hr.low h6
    refine ⟨?_, ?_⟩
    · unfold isHex
      rw [decide_eq_false_iff_not]
      rcases h4 with h4 | ⟨rfl, h4⟩
      · intro h8
        rw [hcont.2 (.inr (by unfold nmB; omega))] at h4; cases h4
      · have h9 := h1 (by omega)
        intro h8
        refine h4 ⟨by omega, .inl ?_⟩
        unfold nsB; omega
    · rw [henc, take_one _ _ (by omega), outI_succ]
      unfold pcI
      rw [if_pos h7, cellsB_app, List.append_assoc]
      rfl
theorem own_iter {w : World} {B e size n : Nat} {v : Value} {xs : List Value} {k : Nat} {s : ByteArray} {p : Nat} (h : w.ownsRow B e size v n xs) (hk : w.heap[k]? = some (.stringIter s p)) (p' : Nat) : (w.iterAt k s p').ownsRow B e size v n xs := by
  refine ⟨h.1, ?_⟩
  rcases h.2 with h0 | ⟨g, cap, cur, hv, hb, hg, rest⟩
  · exact .inl h0
  · refine .inr ⟨g, cap, cur, hv, hb, ?_, rest⟩
    rw [Lib.iterAt_other _ _ _ _ _ (fun e => by subst e; rw [hk] at hg; cases hg)]
    exact hg
theorem Kept.iterAt {b : Nat} {r : Option Nat} {w w' : World} (h : Kept b r w w') {q : Nat} (hq : w.heap.size ≤ q) (s : ByteArray) (p : Nat) : Kept b r w (w'.iterAt q s p) := by
  refine ⟨by rw [Lib.iterAt_size]; exact h.size, fun i hi hb hne => ?_⟩
  rw [Lib.iterAt_other _ _ _ _ _ (by omega)]
  exact h.block i hi hb hne
theorem IsP.iterAt {B b : Nat} {K : Array Value} {A : Option Addr} {cap : Nat} {bs : List Value} {w : World} (h : IsP B b K A cap bs w) {q : Nat} {s : ByteArray} {p : Nat} (hk : w.heap[q]? = some (.stringIter s p)) (hqb : q ≠ b) (p' : Nat) : IsP B b K A cap bs (w.iterAt q s p') :=
  ⟨h.base, h.size, (show (w.iterAt q s p').heap[b]? = _ from Lib.iterAt_other w q b s p' (fun e => hqb e.symm)).trans h.blk, own_iter h.own hk p'⟩
/-- What holds ahead of each round of the slow path. -/
structure SlowAt (s : ByteArray) (B b : Nat) (K : Array Value) (A : Option Addr) (bs : List Value) (w : World) (q p : Nat) (A' : Option Addr) (cap' : Nat) (wr : World) : Prop where
  isp : IsP B b K A' cap' bs wr
  row : RowAt (rb A) (rb A') w.heap.size
  far : some q ≠ rb A'
  it : wr.heap[q]? = some (.stringIter s p)
  bel : Below B w wr
  kept : Kept b (rb A) w wr
def SlowRel (s : ByteArray) (B b : Nat) (K : Array Value) (A : Option Addr) (bs : List Value) (w : World) (q : Nat) (wr : World) : Prop :=
  ∃ k A' cap', pos s k ≤ s.size ∧ SlowAt s B b K A (bs ++ cellsB (outI s.data.toList (pos s k))) w q (pos s k) A' cap' wr
theorem SlowAt.next {s : ByteArray} {B b : Nat} {K : Array Value} {A : Option Addr} {bs : List Value} {w : World} {q p : Nat} {A' : Option Addr} {cap' : Nat} {wr : World} (h : SlowAt s B b K A bs w q p A' cap' wr) (hqB : B ≤ q) (hqw : w.heap.size ≤ q) (hqb : q ≠ b) (p' : Nat) :
    SlowAt s B b K A bs w q p' A' cap' (wr.iterAt q s p') :=
  ⟨h.isp.iterAt h.it hqb p', h.row, h.far, Lib.iterAt_heap wr q s p p' h.it, Lib.below_iterAt h.bel hqB s p', h.kept.iterAt hqw s p'⟩
theorem SlowAt.print {s : ByteArray} {B b : Nat} {K : Array Value} {A : Option Addr} {bs bs2 : List Value} {w : World} {q p : Nat} {A' : Option Addr} {cap' : Nat} {wr w2 : World} {e : Ending} (h : SlowAt s B b K A bs w q p A' cap' wr) (hqb : q ≠ b) (hp : Printed B b K A' bs2 wr e w2) :
    ∃ A2 cap2, SlowAt s B b K A bs2 w q p A2 cap2 w2 := by
  obtain ⟨_, ⟨A2, cap2, hI, hR⟩, hB, hK⟩ := hp
  have hq : q < wr.heap.size := (Array.getElem?_eq_some_iff.1 h.it).1
  refine ⟨A2, cap2, hI, h.row.trans hR h.kept.size, ?_, ?_, h.bel.trans hB, h.kept.trans hK h.row⟩
  · rcases hR with h1 | ⟨g, h1, h2⟩
    · rw [h1]; exact h.far
    · rw [h1]; intro e; injection e with e; omega
  · rw [hK.block q hq hqb h.far]; exact h.it
theorem slow_start {s : ByteArray} {B b : Nat} {K : Array Value} {A : Option Addr} {cap : Nat} {bs : List Value} {w w1 : World} (h : IsP B b K A cap bs w) (hB : B ≤ w.heap.size) (hb : Below w.heap.size w w1) : SlowRel s B b K A bs w w1.heap.size (w1.iter s 0) := by
  have h1 := h.below hb (Nat.le_refl _)
  have hb1 : Below B w w1 := hb.mono hB
  refine ⟨0, A, cap, Nat.zero_le _, ?_, .inl rfl, ?_, World.iter_heap w1 s 0, hb1.alloc (Nat.le_trans hB hb.size) _, (Kept.of_below hb).alloc _⟩
  · show IsP B b K A cap (bs ++ []) _
    rw [List.append_nil]
    exact h1.alloc _
  · intro e
    have := (h1.own.lt w1.heap.size (by rw [ownBlock_slice]; exact e.symm)).2
    omega
theorem slow_end {s : ByteArray} {B b : Nat} {K : Array Value} {A : Option Addr} {bs : List Value} {w : World} {q p : Nat} {A' : Option Addr} {cap' : Nat} {wr : World} (h : SlowAt s B b K A bs w q p A' cap' wr) : Printed B b K A bs w (.returned (.tuple #[])) wr :=
  ⟨rfl, ⟨A', cap', h.isp, h.row⟩, h.bel, h.kept⟩
end Go.Proofs.YtppcjkajjahclaaFmt
