/- The law's own copy of a slice of ranges, and the append of one range (functions zzCloneRangesB2, ZZappendRange). -/
import Derived.Test.YtldhoaefnekknaaRows
import Derived.Test.YtldhoaefnekknaaWords
import Derived.Test.YtldhoaefnekknaaRng
import Derived.Test.YtldhoaefnekknaaApp
import Derived.WalkKit
import Derived.WalkSpells
import Derived.LoopTactic
import Derived.Laws.MakeOwn
import Derived.Outline
namespace Go.Proofs.Ytldhoaefnekknaa
open Go.RowKit
set_option linter.unusedVariables false
set_option linter.unusedSimpArgs false

def z6 : Value := .agg #[.int .u16 0, .int .u8 0, .int .u8 0, .int .u16 0, .int .u8 0, .int .u8 0]
theorem rng_info : (Try.prog.info? 31).map (fun i => (i.zero, i.size, i.bytes)) = some (some z6, 6, 8) := by kernel_rfl
theorem ver_info : (Try.prog.info? 41).map (fun i => (i.zero, i.size, i.bytes)) = some (some z6, 6, 8) := by kernel_rfl
def mk6 (n : Nat) : Array Value := madeCells z6.cells (n * 6)
theorem made6 (n : Nat) : (mk6 n).size = n * 6 := by simp [mk6, madeCells, z6, Value.cells]
theorem row6_get {Z : List Rng} {cs : Array Value} {k : Nat} {r : Rng} (hr : Z[k]? = some r) (hs : k * 6 + 6 ≤ cs.size) (h : ∀ j, j < k * 6 → cs[j]? = (row6 Z)[j]?) :
    ∀ j, j < (k + 1) * 6 → ((((((cs.setIfInBounds (k * 6) (.int .u16 r.a)).setIfInBounds (k * 6 + 1) (.int .u8 r.b)).setIfInBounds (k * 6 + 2) (.int .u8 r.c)).setIfInBounds (k * 6 + 3) (.int .u16 r.d)).setIfInBounds (k * 6 + 4) (.int .u8 r.e)).setIfInBounds (k * 6 + 5) (.int .u8 r.f))[j]? = (row6 Z)[j]? := by
  intro j hj
  simp only [Array.getElem?_setIfInBounds, Array.size_setIfInBounds]
  by_cases h1 : j < k * 6
  · rw [if_neg (by omega), if_neg (by omega), if_neg (by omega), if_neg (by omega), if_neg (by omega), if_neg (by omega)]
    exact h j h1
  · obtain ⟨i, hi, rfl⟩ : ∃ i, i < 6 ∧ j = k * 6 + i := ⟨j - k * 6, by omega, by omega⟩
    rw [row6_at Z k r hr i hi]
    match i, hi with
    | 0, _ => rw [if_neg (by omega), if_neg (by omega), if_neg (by omega), if_neg (by omega), if_neg (by omega), if_pos (by omega), if_pos (by omega)]; rfl
    | 1, _ => rw [if_neg (by omega), if_neg (by omega), if_neg (by omega), if_neg (by omega), if_pos rfl, if_pos (by omega)]; rfl
    | 2, _ => rw [if_neg (by omega), if_neg (by omega), if_neg (by omega), if_pos rfl, if_pos (by omega)]; rfl
    | 3, _ => rw [if_neg (by omega), if_neg (by omega), if_pos rfl, if_pos (by omega)]; rfl
    | 4, _ => rw [if_neg (by omega), if_pos rfl, if_pos (by omega)]; rfl
    | 5, _ => rw [if_pos rfl, if_pos (by omega)]; rfl
/-- What the copy hands back: a slice that reads as the same ranges, in a block of its own (or nil). -/
def CloneR (w : World) (n : Nat) (Z : List Rng) (e : Ending) (w' : World) : Prop :=
  ∃ A c, e = .returned (.slice A n c) ∧ Reads w' w'.heap.size 6 A n (row6 Z) ∧ Below w.heap.size w w'
set_option maxHeartbeats 1000000 in
set_option maxRecDepth 100000 in
theorem cloneR (A : Option Addr) (n cap : Nat) (Z : List Rng) (w : World) (hr : Reads w w.heap.size 6 A n (row6 Z)) (hA : A = none → n = 0) (hn : n ≤ 16777216) :
    Calls Try.prog 6 #[.slice A n cap] w (CloneR w n Z) := by
  have heq : ∀ (W : World) (a : Option Addr) (l c : Nat), (binOp .eql 22 (.slice a l c) (.slice none 0 0)).run Try.prog W = .ok (.bool a.isNone) W := fun W a l c => Lib.run_eql_slice_nil W 22 31 a l c 0 0 Try.underlying22
  cases A with
  | none =>
    obtain rfl := hA rfl
    have HR := Lib.hid hr
    clear hr hA
    go_enter Try.func6, Try.ntmps6
    go_wp2
    go_ret
    exact ⟨none, 0, rfl, HR.out, Below.refl _ _⟩
  | some ad =>
    obtain ⟨i0, hi, hz0, hz1, hz2⟩ := info_parts rng_info
    have hlen : Z.length = n := by have := hr.1; rw [row6_len] at this; omega
    have hmk : ∀ W : World, (Instr.makeSlice 22 (.int .i64 (n : Int)) (.int .i64 (n : Int))).run Try.prog W = .ok (.slice (some ⟨W.heap.size, 0, none⟩) n n) (W.alloc (.cells (mk6 n) 31)) := fun W => by
      have := run_make (P := Try.prog) W 22 31 i0 z6 Try.underlying22 hi hz0 .i64 .i64 n n (by omega) (by omega) (by rw [hz2]; omega) (by omega)
      simpa [hz1, mk6] using this
    have HM0 := Lib.hid (Blk.new w 31 (mk6 n))
    have HMS := Lib.hid (made6 n)
    have HR := Lib.hid hr; have HLEN := Lib.hid hlen
    clear hr hlen hA
    go_enter Try.func6, Try.ntmps6
    go_wp2
    clear hmk heq
    go_loopw [4] (fun i wr => ∃ (k : Nat) (cs : Array Value), i = .int .i64 k ∧ k ≤ n ∧ Blk wr w.heap.size 31 cs ∧ cs.size = n * 6 ∧ (∀ j, j < k * 6 → cs[j]? = (row6 Z)[j]?) ∧ Below w.heap.size w wr) (fun i _ => n - (intOf i).toNat)
    case atStart => exact ⟨0, _, rfl, by omega, HM0.out, HMS.out, fun j hj => by omega, (Below.refl _ _).alloc (Nat.le_refl _) _⟩
    case round =>
      obtain ⟨k, cs, rfl, hk, hb, hcs, hj, hbw⟩ := hrel
      have HB := Lib.hid hb; have HCS := Lib.hid hcs; have HJ := Lib.hid hj
      have hlt0 := hb.lt
      clear hb hcs hj
      by_cases hlt : k < n
      · obtain ⟨b, off, e1, hbk, hx⟩ := reads6 (HR.out.below hbw) (by omega)
        obtain rfl := Option.some.inj e1
        obtain ⟨r, hr⟩ : ∃ r, Z[k]? = some r := ⟨_, List.getElem?_eq_getElem (by have := HLEN.out; omega)⟩
        obtain ⟨q0, q1, q2, q3, q4, q5⟩ := hx k r hr
        have HRK := Lib.hid hr
        have hsz : k * 6 + 6 ≤ cs.size := by have := HCS.out; omega
        have cc : ∀ j, j < 6 → wr.cell? ⟨w.heap.size, k * 6 + j, none⟩ = some (cs.getD (k * 6 + j) default) := fun j hj => by
          rw [HB.out.cell, Array.getElem?_eq_getElem (by omega), Array.getD_eq_getD_getElem?, Array.getElem?_eq_getElem (by omega)]; rfl
        have c0 := cc 0 (by omega)
        have c1 := cc 1 (by omega)
        have c2 := cc 2 (by omega)
        have c3 := cc 3 (by omega)
        have c4 := cc 4 (by omega)
        have c5 := cc 5 (by omega)
        rw [Nat.add_zero] at c0
        have z0 : wr.frozen? ⟨w.heap.size, k * 6, none⟩ = false := HB.out.frozen _
        have z1 : wr.frozen? ⟨w.heap.size, k * 6 + 1, none⟩ = false := HB.out.frozen _
        have z2 : wr.frozen? ⟨w.heap.size, k * 6 + 2, none⟩ = false := HB.out.frozen _
        have z3 : wr.frozen? ⟨w.heap.size, k * 6 + 3, none⟩ = false := HB.out.frozen _
        have z4 : wr.frozen? ⟨w.heap.size, k * 6 + 4, none⟩ = false := HB.out.frozen _
        have z5 : wr.frozen? ⟨w.heap.size, k * 6 + 5, none⟩ = false := HB.out.frozen _
        generalize cs.getD (k * 6) default = v0 at c0
        generalize cs.getD (k * 6 + 1) default = v1 at c1
        generalize cs.getD (k * 6 + 2) default = v2 at c2
        generalize cs.getD (k * 6 + 3) default = v3 at c3
        generalize cs.getD (k * 6 + 4) default = v4 at c4
        generalize cs.getD (k * 6 + 5) default = v5 at c5
        clear hr hx e1 cc
        have hfin : ∀ W : World, W = (((((wr.setCell ⟨w.heap.size, k * 6, none⟩ (.int .u16 r.a)).setCell ⟨w.heap.size, k * 6 + 1, none⟩ (.int .u8 r.b)).setCell ⟨w.heap.size, k * 6 + 2, none⟩ (.int .u8 r.c)).setCell ⟨w.heap.size, k * 6 + 3, none⟩ (.int .u16 r.d)).setCell ⟨w.heap.size, k * 6 + 4, none⟩ (.int .u8 r.e)).setCell ⟨w.heap.size, k * 6 + 5, none⟩ (.int .u8 r.f) →
            ∃ cs : Array Value, Blk W w.heap.size 31 cs ∧ cs.size = n * 6 ∧ (∀ j, j < (k + 1) * 6 → cs[j]? = (row6 Z)[j]?) ∧ Below w.heap.size w W := fun W hW => by
          subst hW
          exact ⟨_, (((((HB.out.set_ _ _).set_ _ _).set_ _ _).set_ _ _).set_ _ _).set_ _ _, by simpa using HCS.out, row6_get HRK.out hsz HJ.out,
            (((((hbw.setCell (p := ⟨w.heap.size, _, none⟩) (Nat.le_refl _) _).setCell (p := ⟨w.heap.size, _, none⟩) (Nat.le_refl _) _).setCell (p := ⟨w.heap.size, _, none⟩) (Nat.le_refl _) _).setCell (p := ⟨w.heap.size, _, none⟩) (Nat.le_refl _) _).setCell (p := ⟨w.heap.size, _, none⟩) (Nat.le_refl _) _).setCell (p := ⟨w.heap.size, _, none⟩) (Nat.le_refl _) _⟩
        have HFIN := Lib.hid hfin
        clear hfin
        go_wp2
        go_roundw
        case rel =>
          obtain ⟨cs', h1, h2, h3, h4⟩ := HFIN.out _ rfl
          exact ⟨k + 1, cs', by go_num, by omega, h1, h2, h3, h4⟩
        case measure => simp [intOf]; omega
      · obtain rfl : k = n := by omega
        go_wp2
        go_ret
        refine ⟨_, _, rfl, ⟨by rw [row6_len, HLEN.out], fun hn => ⟨_, rfl, hlt0, fun j u hu => ?_⟩⟩, hbw⟩
        have hjl : j < (row6 Z).length := (List.getElem?_eq_some_iff.1 hu).1
        rw [row6_len, HLEN.out] at hjl
        rw [← hu, ← HJ.out j hjl, ← HB.out.cell]
        unfold Addr.add
        split
        · rename_i h0; subst h0; rfl
        · show wr.cell? ⟨w.heap.size, 0 + j, none⟩ = _
          rw [Nat.zero_add]
/-- What the append hands back. -/
def AppR (w : World) (base : Nat) (v : Value) (L : List Rng) (e : Ending) (w' : World) : Prop :=
  ∃ v', e = .returned v' ∧ w'.ownsRow base 41 6 v' L.length (row6 L) ∧ w.grownBy w' v.ownBlock ∧ (v'.ownBlock = v.ownBlock ∨ ∃ g, v'.ownBlock = some g ∧ w.heap.size ≤ g)
set_option maxHeartbeats 1000000 in
set_option maxRecDepth 100000 in
theorem appR (base : Nat) (v : Value) (L : List Rng) (r : Rng) (w : World) (ho : w.ownsRow base 41 6 v L.length (row6 L)) (hn : L.length ≤ 16777216) (hb : base ≤ w.heap.size) :
    Calls Try.prog 9 #[v, .int .u16 r.a, .int .u8 r.b, .int .u8 r.c, .int .u16 r.d, .int .u8 r.e, .int .u8 r.f] w (AppR w base v (L ++ [r])) := by
  obtain ⟨i0, hi, hz0, hz1, hz2⟩ := info_parts ver_info
  have hsrc : Src Try.prog 6 27 (.slice (some ⟨w.heap.size, 0, none⟩) 1 1) 1 (cells6 r) (w.alloc (.cells (cells6 r).toArray 41)) :=
    Src.ofSlice _ Try.underlying27 _ 1 1 (cells6 r) rfl (fun j u hu => by
      rw [← hu]
      have := (Blk.new w 41 (cells6 r).toArray).cell j
      rw [List.getElem?_toArray] at this
      rw [← this]
      unfold Addr.add
      split
      · rename_i h0; subst h0; rfl
      · show World.cell? _ ⟨w.heap.size, 0 + j, none⟩ = _
        rw [Nat.zero_add]) (fun u hu => row6_one [r] u (by simpa [row6] using hu))
  have HS := Lib.hid hsrc; have HO := Lib.hid ho
  clear hsrc ho
  go_enter Try.func9, Try.ntmps9
  go_wp2_with (at_builtin; refine wpList_append_own_src _ rfl (.tmp 15) (.tmp 25) 27 27 rfl base 41 i0 z6 6 8 Try.underlying27 hi hz0 hz1 hz2 rfl v L.length (row6 L) rfl (HO.out.alloc _) _ 1 (cells6 r) rfl HS.out (by unfold maxLen; omega) (by omega) (by simp; omega) ?_)
  intro v' w' hown hg hv
  have HV := Lib.hid hv
  have HO' : Hid (w'.ownsRow base 41 6 v' (L ++ [r]).length (row6 (L ++ [r]))) := Lib.hid (by
    rw [row6_snoc, List.length_append]; exact hown)
  have HG := Lib.hid hg
  clear hown hg hv
  go_wp2
  go_ret
  refine ⟨_, rfl, HO'.out, ?_, ?_⟩
  · have hg := HG.out
    exact ⟨hg.os, hg.tape, hg.output, Nat.le_trans (by simp) hg.size, fun i hi hne => (hg.block i (by simp; omega) hne).trans (Below.heap_alloc w _ i hi)⟩
  · rcases HV.out with h | h
    · exact .inl h
    · exact .inr ⟨_, h, by simp⟩
/-- Two values in blocks apart. -/
def Apart (v1 v2 : Value) : Prop := v1.ownBlock = none ∨ v1.ownBlock ≠ v2.ownBlock
theorem Apart.symm {v1 v2 : Value} (h : Apart v1 v2) : Apart v2 v1 := by
  unfold Apart at *
  by_cases e : v2.ownBlock = none
  · exact .inl e
  · refine .inr fun he => ?_
    rcases h with h | h
    · exact e (he.trans h)
    · exact h he.symm
/-- Three rows of ranges of the call's own, in blocks apart. -/
structure Own3 (w : World) (base : Nat) (v1 : Value) (L1 : List Rng) (v2 : Value) (L2 : List Rng) (v3 : Value) (L3 : List Rng) : Prop where
  o1 : w.ownsRow base 41 6 v1 L1.length (row6 L1)
  o2 : w.ownsRow base 41 6 v2 L2.length (row6 L2)
  o3 : w.ownsRow base 41 6 v3 L3.length (row6 L3)
  a12 : Apart v1 v2
  a13 : Apart v1 v3
  a23 : Apart v2 v3
section
variable {w w' : World} {base : Nat} {v1 v2 v3 : Value} {L1 L2 L3 : List Rng}
theorem Own3.rot (h : Own3 w base v1 L1 v2 L2 v3 L3) : Own3 w base v2 L2 v3 L3 v1 L1 := ⟨h.o2, h.o3, h.o1, h.a23, h.a12.symm, h.a13.symm⟩
theorem Own3.nil (w : World) (base : Nat) : Own3 w base (.slice none 0 0) [] (.slice none 0 0) [] (.slice none 0 0) [] :=
  ⟨World.ownsRow_nil _ _ _ _, World.ownsRow_nil _ _ _ _, World.ownsRow_nil _ _ _ _, .inl rfl, .inl rfl, .inl rfl⟩
theorem Own3.only (h : Own3 w base v1 L1 v2 L2 v3 L3) (hg : w.grownBy w' none) : Own3 w' base v1 L1 v2 L2 v3 L3 := by
  have key : ∀ v : Value, v.ownBlock = none ∨ v.ownBlock ≠ none := fun v => by by_cases e : v.ownBlock = none; exact .inl e; exact .inr e
  exact ⟨h.o1.kept hg (key _), h.o2.kept hg (key _), h.o3.kept hg (key _), h.a12, h.a13, h.a23⟩
theorem Own3.step (h : Own3 w base v1 L1 v2 L2 v3 L3) {L : List Rng} {v' : Value} (hown : w'.ownsRow base 41 6 v' L.length (row6 L)) (hg : w.grownBy w' v1.ownBlock)
    (hv : v'.ownBlock = v1.ownBlock ∨ ∃ g, v'.ownBlock = some g ∧ w.heap.size ≤ g) : Own3 w' base v' L v2 L2 v3 L3 := by
  have key : ∀ {v : Value} {M : List Rng}, w.ownsRow base 41 6 v M.length (row6 M) → Apart v1 v → Apart v' v := fun {v M} ho ha => by
    unfold Apart at *
    rcases hv with hv | ⟨g, hv, hge⟩
    · rw [hv]; exact ha
    · refine .inr fun he => ?_
      have := (ho.lt g (by rw [← he, hv])).2
      omega
  exact ⟨hown, h.o2.kept hg h.a12.symm, h.o3.kept hg h.a13.symm, key h.o2 h.a12, key h.o3 h.a13, h.a23⟩
theorem Own3.blk (h : Own3 w base v1 L1 v2 L2 v3 L3) (hg : w.grownBy w' v1.ownBlock) {g : Nat} {t : TypeId} {cs : Array Value} (hb : Blk w g t cs) (ht : 41 ≠ t) : Blk w' g t cs :=
  hb.grown hg (fun e => own_blk_ne h.o1 hb ht e.symm)
theorem Own3.below (h : Own3 w base v1 L1 v2 L2 v3 L3) (hg : w.grownBy w' v1.ownBlock) {a : World} (hb : Below base a w) (hB : base ≤ w.heap.size) : Below base a w' :=
  hb.grown hg hB (fun k hk => (h.o1.lt k hk).1)
end
theorem own_slice {w : World} {base : Nat} {v : Value} {L : List Rng} (h : w.ownsRow base 41 6 v L.length (row6 L)) : ∃ A c, v = .slice A L.length c ∧ Reads w w.heap.size 6 A L.length (row6 L) := by
  rcases h.2 with ⟨rfl, h0⟩ | ⟨g, cap, cur, rfl, _⟩
  · refine ⟨none, 0, by rw [h0], ?_⟩
    have : L = [] := List.eq_nil_of_length_eq_zero h0
    subst this
    exact Reads.none_
  · exact ⟨_, _, rfl, Reads.of_own h⟩
end Go.Proofs.Ytldhoaefnekknaa
