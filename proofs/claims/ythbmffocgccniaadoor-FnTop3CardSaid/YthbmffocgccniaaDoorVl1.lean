/- The pieces as the law lays them; strings out of rows. -/
import Derived.Test.YthbmffocgccniaaDoorVl0
import Derived.Laws.IdiomStrings
import Derived.Laws.BytesArg
import Derived.Lib.SlBytesConst
namespace Go.Proofs.YthbmffocgccniaaDoor
open Go.RowKit
set_option linter.unusedVariables false
set_option linter.unusedSimpArgs false
theorem conv_bytes (s : ByteArray) (W : World) : ∃ (cap : Nat) (row : Array Value) (fr : Nat × Nat), s.size ≤ cap ∧ (∀ (k : Nat) (c : UInt8), s.data.toList[k]? = some c → row[k]? = some (u8V c)) ∧ (convert 9 22 (.string s)).run Tryd.prog W = .ok (.slice (some ⟨W.heap.size, 0, none⟩) s.size cap) (W.drew.alloc (.cells row 5 fr)) := by
  refine ⟨_, _, _, grownCap_ge W s.size 0 5, ?_, run_bytes_of_string W 9 22 5 s Tryd.underlying9 Tryd.underlying22 Tryd.underlying5⟩
  intro k c hk
  have hl := (List.getElem?_eq_some_iff.1 hk).1
  have h2 := (List.getElem?_eq_some_iff.1 hk).2
  rw [bytesRow_at s _ k (by simpa using hl)]
  have : s.data[k]'(by simpa using hl) = c := by simpa using h2
  rw [this]; rfl
theorem conv_back (W : World) (A : Option Addr) (n c : Nat) (T : Bt) (h : TxB W A n T) : (convert 22 9 (.slice A n c)).run Tryd.prog W = .ok (.string ⟨T.toArray⟩) W := by
  have hl := h.1
  subst hl
  cases hA : A with
  | none =>
    have h0 : T = [] := by
      rcases Nat.eq_zero_or_pos T.length with h0 | h0
      · exact List.eq_nil_of_length_eq_zero h0
      · obtain ⟨_, _, _, e, _⟩ := h.2 h0; rw [hA] at e; cases e
    subst h0
    have := run_convert_bytes_nil (P := Tryd.prog) W 22 5 Tryd.underlying22 Tryd.underlying5 0 c 9 Tryd.underlying9
    exact this
  | some a =>
    subst hA
    refine run_convert_bytes_back W 22 9 5 a c T Tryd.underlying22 Tryd.underlying5 Tryd.underlying9 (fun j hj => ?_)
    obtain ⟨ad, e, _, hc⟩ := h.txt.2 (by omega)
    obtain rfl := Option.some.inj e
    exact hc j _ (by rw [List.getElem?_map, List.getElem?_eq_getElem hj]; rfl)
theorem conv_const (W : World) (x : Int) : (convert 22 22 (.slice (some ⟨W.heap.size, 0, none⟩) 1 1)).run Tryd.prog (W.alloc (.cells #[.int .u8 x] 5)) = .ok (.slice (some ⟨W.heap.size, 0, none⟩) 1 1) (W.alloc (.cells #[.int .u8 x] 5 (1, 2))) :=
  Go.Lib.run_convert_bytes_const W 22 5 #[.int .u8 x] 1 1 Tryd.underlying22 Tryd.underlying5
theorem blu_new (W : World) (cs : Array Value) (fr : Nat × Nat) : Blu (W.alloc (.cells cs 5 fr)) W.heap.size cs := ⟨fr, heap_alloc_new W _⟩
theorem blu_alloc {W : World} {g : Nat} {cs : Array Value} (h : Blu W g cs) (o : Obj) : Blu (W.alloc o) g cs := by
  have hl := h.lt
  obtain ⟨fr, h⟩ := h
  exact ⟨fr, (Below.heap_alloc W o g hl).trans h⟩
theorem tx_one {W : World} {g : Nat} {c : UInt8} (h : Blu W g #[.int .u8 (c.toNat : Int)]) : TxB W (some ⟨g, 0, none⟩) 1 [c] := by
  refine ⟨rfl, fun _ => ⟨g, 0, _, rfl, h, fun k x hk => ?_⟩⟩
  have hk0 : k = 0 := by have := (List.getElem?_eq_some_iff.1 hk).1; simp at this; omega
  subst hk0
  obtain rfl : c = x := by simpa using hk
  rfl
theorem pieces_world {wE : World} {tS : ByteArray} {cap : Nat} {row : Array Value} {fr : Nat × Nat} (hrow : ∀ (k : Nat) (c : UInt8), tS.data.toList[k]? = some c → row[k]? = some (u8V c)) {W4 : World}
    (h4 : W4 = ((((wE.alloc (.cells #[.int .u8 60] 5 (1, 2))).drew.alloc (.cells row 5 fr)).alloc (.cells #[.int .u8 62] 5 (1, 2))).alloc (.cells #[.slice (some ⟨wE.heap.size, 0, none⟩) 1 1, .slice (some ⟨wE.heap.size + 1, 0, none⟩) tS.size cap, .slice (some ⟨wE.heap.size + 1 + 1, 0, none⟩) 1 1] 38))) :
    wE.grownBy W4 none ∧ TxB W4 (some ⟨wE.heap.size, 0, none⟩) 1 [60] ∧ TxB W4 (some ⟨wE.heap.size + 1, 0, none⟩) tS.size tS.data.toList ∧ TxB W4 (some ⟨wE.heap.size + 1 + 1, 0, none⟩) 1 [62] ∧
      Blk W4 (wE.heap.size + 1 + 1 + 1) 38 #[.slice (some ⟨wE.heap.size, 0, none⟩) 1 1, .slice (some ⟨wE.heap.size + 1, 0, none⟩) tS.size cap, .slice (some ⟨wE.heap.size + 1 + 1, 0, none⟩) 1 1] := by
  obtain ⟨W1, h1⟩ : ∃ W, W = wE.alloc (.cells #[.int .u8 60] 5 (1, 2)) := ⟨_, rfl⟩
  obtain ⟨W2, h2⟩ : ∃ W, W = W1.drew.alloc (.cells row 5 fr) := ⟨_, rfl⟩
  obtain ⟨W3, h3⟩ : ∃ W, W = W2.alloc (.cells #[.int .u8 62] 5 (1, 2)) := ⟨_, rfl⟩
  rw [← h1, ← h2, ← h3] at h4
  have s1 : W1.heap.size = wE.heap.size + 1 := by rw [h1]; simp
  have s2 : W2.heap.size = wE.heap.size + 1 + 1 := by rw [h2]; simp; exact s1
  have s3 : W3.heap.size = wE.heap.size + 1 + 1 + 1 := by rw [h3]; simp; omega
  have b1 : Blu W1 wE.heap.size #[.int .u8 60] := by rw [h1]; exact blu_new _ _ _
  have b1' : Blu W1.drew wE.heap.size #[.int .u8 60] := b1
  have b2 : Blu W2 (wE.heap.size + 1) row := by
    have := blu_new W1.drew row fr
    rw [h2, ← s1]; exact this
  have b12 : Blu W2 wE.heap.size #[.int .u8 60] := by rw [h2]; exact blu_alloc b1' _
  have b3 : Blu W3 (wE.heap.size + 1 + 1) #[.int .u8 62] := by
    have := blu_new W2 #[.int .u8 62] (1, 2)
    rw [h3, ← s2]; exact this
  have b4 : Blk W4 (wE.heap.size + 1 + 1 + 1) 38 #[.slice (some ⟨wE.heap.size, 0, none⟩) 1 1, .slice (some ⟨wE.heap.size + 1, 0, none⟩) tS.size cap, .slice (some ⟨wE.heap.size + 1 + 1, 0, none⟩) 1 1] := by
    have := Blk.new W3 38 #[.slice (some ⟨wE.heap.size, 0, none⟩) 1 1, .slice (some ⟨wE.heap.size + 1, 0, none⟩) tS.size cap, .slice (some ⟨wE.heap.size + 1 + 1, 0, none⟩) 1 1]
    rw [h4, ← s3]; exact this
  refine ⟨?_, tx_one (c := 60) ?_, ?_, tx_one (c := 62) ?_, b4⟩
  · rw [h4]
    refine only_alloc ?_ _
    rw [h3]
    refine only_alloc ?_ _
    rw [h2]
    refine only_alloc (only_drew ?_) _
    rw [h1]
    exact only_alloc (World.grownBy.refl _ _) _
  · rw [h4]; refine blu_alloc ?_ _; rw [h3]; exact blu_alloc b12 _
  · refine ⟨(size_list tS).symm, fun _ => ⟨_, 0, row, rfl, ?_, fun k c hk => by rw [Nat.zero_add]; exact hrow k c hk⟩⟩
    rw [h4]; refine blu_alloc ?_ _; rw [h3]; exact blu_alloc b2 _
  · rw [h4]; exact blu_alloc b3 _
theorem cuts (g n c : Nat) (h1 : 1 ≤ n) (h3 : n ≤ c) : ∃ A', (∀ W : World, (Instr.slice 35 (.slice (some ⟨g, 0, none⟩) n c) (some (.int .i64 1)) none none).run Tryd.prog W = .ok (.slice A' (n - 1) (c - 1)) W) ∧ (1 < n → A' = some ⟨g, 4, none⟩) := by
  have he : Tryd.prog.elem 35 = 34 := by kernel_rfl
  have hu : Tryd.prog.underlying 35 = some (.slice (Tryd.prog.elem 35)) := by kernel_rfl
  refine ⟨if c = 1 then some ⟨g, 0, none⟩ else (some (⟨g, 0, none⟩ : Addr)).map (·.add (1 * 4)), fun W => ?_, fun h => ?_⟩
  · rw [run_slice_l W 35 (some ⟨g, 0, none⟩) n c hu .i64 (1 : Int) (by omega) (by omega), he, Tryd.sizeOf34]
    simp [sliced]
  · rw [if_neg (by omega)]; rfl
/-- What the law holds the finished mappings against. -/
theorem fold_take (l c : Int) (S : List Sh) (j : Nat) (s : Sh) (h : S[j]? = some s) : (S.take (j + 1)).foldl (mvStep l c) 0 = mvStep l c ((S.take j).foldl (mvStep l c) 0) s := by
  rw [List.take_add_one, h]
  show (S.take j ++ [s]).foldl _ 0 = _
  rw [List.foldl_append]; rfl
theorem states_get {S : List Sh} {Q : List Sg} {k : Nat} {x : Sg} (h : (states zs Q)[k]? = some x) : (states zs (Q.map (sh S)))[k]? = some (sh S x) := by
  have e := states_sh S zs 0 Q
  rw [moved_zero] at e
  rw [e, List.getElem?_map, h]; rfl
theorem sh_id {S : List Sh} (h : S.length = 1) (g : Sg) : sh S g = g := by
  have : S.drop 1 = [] := List.drop_eq_nil_of_le (by omega)
  unfold sh
  rw [this]
  show ({ g with col := g.col + 0 } : Sg) = g
  cases g; simp
theorem map_sh_id {S : List Sh} (h : S.length = 1) (Q : List Sg) : Q.map (sh S) = Q := by
  have : sh S = id := by funext g; exact sh_id h g
  rw [this, List.map_id]
end Go.Proofs.YthbmffocgccniaaDoor
