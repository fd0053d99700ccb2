/- The chunk builder: its cells, its state, the output that it reads. -/
import Derived.Test.YtgdcpladehcegaaDoorRows
import Derived.Test.YtgdcpladehcegaaDoorWords
import Derived.Test.YtgdcpladehcegaaDoorLcm
import Derived.Laws.BytesArg
import Derived.Lib.OthersKept
import Derived.WalkKit
namespace Go.Proofs.YtgdcpladehcegaaDoor
open Go.RowKit
set_option linter.unusedVariables false
set_option linter.unusedSimpArgs false
def CB (im sm nm tb : Value) (pn : ByteArray) (gl lgu gc pgl : Nat) (ploc : Int) (asc lsm cov : Bool) : Array Value :=
  #[im, sm, .slice none 0 0, nm, tb, .string pn, .int .i64 (gl : Int), .int .i64 0, .int .i64 0, .int .i64 0, .int .i64 0, .int .i64 0, .bool false, .int .i64 (lgu : Int), .int .i64 (gc : Int), .int .i64 (pgl : Int), .int .i32 ploc, .int .u32 0, .bool false, .bool asc, .bool lsm, .bool cov]
def semis (n : Nat) : List Value := List.replicate n (.int .u8 59)
theorem semis_succ (n : Nat) : semis (n + 1) = semis n ++ [.int .u8 59] := by unfold semis; rw [List.replicate_succ']
/-- The builder behind j runes. -/
structure BS (s : ByteArray) (B g : Nat) (im sm nm tb : Value) (pn : ByteArray) (j lgu pgl : Nat) (ploc : Int) (asc lsm cov : Bool) (w : World) : Prop where
  blk : Blk w g 38 (CB im sm nm tb pn (lc s j).1 lgu (lc s j).2 pgl ploc asc lsm cov)
  own : w.ownsRow B 5 1 sm (lc s j).1 (semis (lc s j).1)
  cov_ : cov = true → lsm = false
/-- A slice that reads as the first n bytes of s. -/
def Out (w : World) (B : Nat) (A : Option Addr) (n cap : Nat) (s : ByteArray) : Prop :=
  n ≤ cap ∧ n ≤ s.size ∧ ((A = none ∧ cap = 0) ∨ ∃ ob, A = some ⟨ob, 0, none⟩ ∧ ob < B ∧ ∀ i, i < n → w.cell? ⟨ob, i, none⟩ = some (.int .u8 (byteAt s i : Nat)))
theorem Out.below {w w' : World} {B n cap : Nat} {A : Option Addr} {s : ByteArray} (h : Out w B A n cap s) (hb : Below B w w') : Out w' B A n cap s := by
  obtain ⟨h1, h2, h3⟩ := h
  refine ⟨h1, h2, h3.imp id ?_⟩
  rintro ⟨ob, e, hob, hc⟩
  exact ⟨ob, e, hob, fun i hi => (hb.cell (p := ⟨ob, i, none⟩) hob).trans (hc i hi)⟩
theorem Out.cut {w : World} {B n n' cap : Nat} {A : Option Addr} {s : ByteArray} (h : Out w B A n cap s) (hn : n' ≤ n) : Out w B A n' cap s := by
  obtain ⟨h1, h2, h3⟩ := h
  refine ⟨by omega, by omega, h3.imp id ?_⟩
  rintro ⟨ob, e, hob, hc⟩
  exact ⟨ob, e, hob, fun i hi => hc i (by omega)⟩
theorem strOf_piece (s : ByteArray) (K n : Nat) (h : K + n ≤ s.size) : strOfNums ((List.range n).map fun i => ((byteAt s (K + i) : Nat) : Int)) = s.extract K (K + n) := by
  have hsz : (s.extract K (K + n)).size = n := by rw [ByteArray.size_extract]; omega
  refine ByteArray.ext_getElem (by rw [strOfNums_size, hsz]; simp) ?_
  intro i h1 h2
  have hi : i < n := by omega
  rw [ByteArray.getElem_extract]
  have e1 : (strOfNums ((List.range n).map fun i => ((byteAt s (K + i) : Nat) : Int)))[i] = (strOfNums ((List.range n).map fun i => ((byteAt s (K + i) : Nat) : Int))).data.toList[i]'(by rw [strOfNums_data]; simpa using hi) := rfl
  rw [e1]
  have e2 : (strOfNums ((List.range n).map fun i => ((byteAt s (K + i) : Nat) : Int))).data.toList[i]'(by rw [strOfNums_data]; simpa using hi) = UInt8.ofNat (byteAt s (K + i)) := by
    simp [strOfNums_data]
  rw [e2, byteAt_eq s (K + i) (by omega)]
  simp
/-- Converting the part of the output from K on into a string. -/
theorem conv_piece {P : Program} (w : World) {B n cap : Nat} {A : Option Addr} {s : ByteArray} (src e : TypeId) (hs : P.underlying src = some (.slice e)) (he : P.underlying e = some (.int .u8)) (h : Out w B A n cap s) (K : Nat) (hK : K ≤ n) (dst : TypeId) (hd : P.underlying dst = some .string) (A' : Option Addr) (c' : Nat)
    (hA : A' = A ∧ K = cap ∨ ∃ ob, A = some ⟨ob, 0, none⟩ ∧ A' = some ⟨ob, K, none⟩) : (convert src dst (.slice A' (n - K) c')).run P w = .ok (.string (s.extract K n)) w := by
  obtain ⟨h1, h2, h3⟩ := h
  have hend : ∀ A'', (convert src dst (.slice A'' 0 c')).run P w = .ok (.string ByteArray.empty) w := by
    intro A''
    cases A'' with
    | none => exact run_convert_bytes_nil w src e hs he 0 c' dst hd
    | some a =>
      rw [run_convert_bytes_string w src dst e _ _ _ hs he hd, run_bytesToString w _ 0 c' [] (by simpa using run_loadCells_list (P := P) w a [] (by simp))]
      rfl
  have hem : K = n → s.extract K n = ByteArray.empty := fun e => by
    refine ByteArray.ext_getElem (by rw [ByteArray.size_extract, e]; simp; omega) ?_
    intro i h1 h2
    simp [e] at h2; try omega
  rcases Nat.lt_or_ge K n with hlt | hge
  case inr =>
    obtain rfl : K = n := by omega
    rw [Nat.sub_self, hend, hem rfl]
  rcases hA with ⟨_, h4⟩ | ⟨ob, rfl, rfl⟩
  · omega
  rcases h3 with ⟨h3, _⟩ | ⟨ob', h3, hob, hc⟩
  · cases h3
  obtain rfl : ob = ob' := by injection h3 with h3; injection h3
  have := run_convert_bytes_arg (P := P) w src e hs he ob K (n - K) c' ((List.range (n - K)).map fun i => ((byteAt s (K + i) : Nat) : Int)) (by simp) (fun i hi => by
    rw [hc (K + i) (by omega)]
    simp [hi]) dst hd
  rw [this, strOf_piece s K (n - K) (by omega)]
  congr 3
  omega
theorem own_iter {w : World} {B e size n : Nat} {v : Value} {xs : List Value} {k : Nat} {s : ByteArray} {p : Nat} (h : w.ownsRow B e size v n xs) (hk : w.heap[k]? = some (.stringIter s p)) (p' : Nat) : (w.iterAt k s p').ownsRow B e size v n xs := by
  refine ⟨h.1, ?_⟩
  rcases h.2 with h0 | ⟨g, cap, cur, hv, hb, hg, rest⟩
  · exact .inl h0
  · refine .inr ⟨g, cap, cur, hv, hb, ?_, rest⟩
    rw [Lib.iterAt_other _ _ _ _ _ (fun e => by subst e; rw [hk] at hg; cases hg)]
    exact hg
theorem blk_iter {w : World} {g : Nat} {t : TypeId} {cs : Array Value} {k : Nat} {s : ByteArray} {p : Nat} (h : Blk w g t cs) (hk : w.heap[k]? = some (.stringIter s p)) (p' : Nat) : Blk (w.iterAt k s p') g t cs :=
  (Lib.iterAt_other w k g s p' (fun e => by subst e; unfold Blk at h; rw [hk] at h; cases h)).trans h
/-- Only block g, the row's block and new blocks have turned. -/
def KeptU (g : Nat) (r0 : Option Nat) (w wr : World) (sm : Value) : Prop :=
  (∀ i, i < w.heap.size → i ≠ g → some i ≠ r0 → wr.heap[i]? = w.heap[i]?) ∧ (sm.ownBlock = r0 ∨ ∃ b, sm.ownBlock = some b ∧ w.heap.size ≤ b)
theorem KeptU.set {g : Nat} {r0 : Option Nat} {w wr : World} {sm : Value} (h : KeptU g r0 w wr sm) (i : Nat) (u : Value) : KeptU g r0 w (wr.setCell ⟨g, i, none⟩ u) sm :=
  ⟨fun j hj hne hr => (Below.heap_setCell wr ⟨g, i, none⟩ u j hne).trans (h.1 j hj hne hr), h.2⟩
theorem KeptU.iter {g : Nat} {r0 : Option Nat} {w wr : World} {sm : Value} {q : Nat} {s : ByteArray} (h : KeptU g r0 w wr sm) (hq : w.heap.size ≤ q) (p' : Nat) : KeptU g r0 w (wr.iterAt q s p') sm :=
  ⟨fun j hj hne hr => (Lib.iterAt_other wr q j s p' (by omega)).trans (h.1 j hj hne hr), h.2⟩
theorem KeptU.grown {g : Nat} {r0 : Option Nat} {w wr w2 : World} {sm v' : Value} {o : Obj} (h : KeptU g r0 w wr sm) (hs : w.heap.size ≤ wr.heap.size) (hg : (wr.alloc o).grownBy w2 sm.ownBlock) (hat : v'.ownBlock = sm.ownBlock ∨ v'.ownBlock = some (wr.heap.size + 1)) : KeptU g r0 w w2 v' := by
  refine ⟨fun j hj hne hr => ?_, ?_⟩
  · rw [hg.block j (by simp; omega) (fun e => by
      rcases h.2 with h1 | ⟨b, h1, h2⟩
      · exact hr (by rw [e, h1])
      · rw [h1] at e; injection e with e; omega), Below.heap_alloc wr o j (by omega)]
    exact h.1 j hj hne hr
  · rcases hat with h1 | h1
    · rw [h1]; exact h.2
    · exact .inr ⟨_, h1, by omega⟩
/-- What holds ahead of each round. -/
structure UpdAt (s t : ByteArray) (B g q k m : Nat) (im nm tb : Value) (pn : ByteArray) (pgl : Nat) (ploc : Int) (asc cov : Bool) (r0 : Option Nat) (w wr : World) (j : Nat) (sm : Value) (lsm : Bool) : Prop where
  kj : k ≤ j
  jm : j ≤ m
  bs : BS s B g im sm nm tb pn j (pos s k) pgl ploc asc lsm cov wr
  it : wr.heap[q]? = some (.stringIter t (pos s j - pos s k))
  bel : Below B w wr
  kept : KeptU g r0 w wr sm
def UpdPost (s : ByteArray) (B g m : Nat) (im nm tb : Value) (pn : ByteArray) (pgl : Nat) (ploc : Int) (asc cov : Bool) (r0 : Option Nat) (w : World) (e : Ending) (w' : World) : Prop :=
  e = .returned (.tuple #[]) ∧ ∃ sm lsm, BS s B g im sm nm tb pn m (pos s m) pgl ploc asc lsm cov w' ∧ Below B w w' ∧ KeptU g r0 w w' sm
end Go.Proofs.YtgdcpladehcegaaDoor
