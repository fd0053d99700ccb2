/- n011_276: what follows a prefix; the law's own copy; the making of the printer. -/
import Derived.Test.YtemefojfnghhoaaFmtPie
import Derived.Test.YtemefojfnghhoaaFmtPri
import Derived.Laws.MakeOwn
import Derived.Laws.CopyOwn
namespace Go.Proofs.YtemefojfnghhoaaFmt
open Go.RowKit
set_option linter.unusedVariables false
set_option linter.unusedSimpArgs false
theorem reads_cell {k : IntKind} {w : World} {B : Nat} {A : Option Addr} {n : Nat} {zs : List Int} (h : Reads w B 1 A n (zs.map (Value.int k))) (hn : 0 < n) :
    ∃ b off, A = some ⟨b, off, none⟩ ∧ b < B ∧ ∀ i, i < n → w.cell? ⟨b, off + i, none⟩ = some (.int k (zs.getD i 0)) := by
  have hlen : zs.length = n := by have := h.1; simpa using this
  obtain ⟨ad, u, rfl, hb, _, hc⟩ := h.at_ hn
  obtain ⟨b, off, spot⟩ := ad
  have hs : spot = none := World.cell?_spot (show w.cell? ⟨b, off, spot⟩ = some u from hc)
  subst hs
  refine ⟨b, off, rfl, hb, fun i hi => ?_⟩
  obtain ⟨ad', u', e1, _, hx, hc'⟩ := h.at_ hi
  obtain rfl := Option.some.inj e1
  rw [List.getElem?_map, List.getElem?_eq_getElem (by omega)] at hx
  rw [List.getD_eq_getElem?_getD, List.getElem?_eq_getElem (by omega)]
  have hu := Option.some.inj hx
  rw [Option.getD_some, show (Value.int k zs[i]) = u' from hu, ← hc']
  unfold Addr.add
  split
  · rename_i h0; subst h0; rfl
  · rfl
def sI (s : ByteArray) : List Int := s.data.toList.map fun c => (c.toNat : Int)
theorem sI_cells (s : ByteArray) : byteCells s = (sI s).map (Value.int .u8) := by unfold byteCells sI; rw [List.map_map]; rfl
theorem sI_len (s : ByteArray) : (sI s).length = s.size := by unfold sI; rw [List.length_map, byte_size]
/-- The rest of a row of bytes behind the first k, as a text. -/
theorem rest_string {w : World} {B : Nat} {A : Option Addr} {n k cap : Nat} {xs : List Int} {s : ByteArray} (h : Reads w B 1 A n ((xs ++ sI s).map (Value.int .u8))) (hk : xs.length = k) (hc : n ≤ cap) (hn : n ≤ 100000000) :
    ∃ A2 c2, (∀ W : World, (Instr.slice 22 (.slice A n cap) (some (.int .i64 (k : Int))) none none).run Tryf.prog W = .ok (.slice A2 s.size c2) W) ∧ n = k + s.size ∧
      ∀ W : World, (∀ p : Addr, p.block < B → W.cell? p = w.cell? p) → (convert 22 9 (.slice A2 s.size c2)).run Tryf.prog W = .ok (.string s) W := by
  have hl := h.1
  rw [List.length_map, List.length_append, sI_len, hk, Nat.mul_one] at hl
  have he : Tryf.prog.elem 22 = 5 := by kernel_rfl
  have hu : Tryf.prog.underlying 22 = some (.slice (Tryf.prog.elem 22)) := by kernel_rfl
  refine ⟨if cap = k then A else A.map (·.add k), cap - k, fun W => ?_, hl.symm, fun W hW => ?_⟩
  · have := run_slice_l (P := Tryf.prog) W 22 A n cap hu .i64 (k : Int) (by omega) (by omega)
    rw [he, Tryf.sizeOf5] at this
    rw [this]
    have hs : n - k = s.size := by omega
    simp only [Result.andThen_ok, sliced, Int.toNat_natCast, hs, Nat.mul_one]
    first | rfl | (congr 1; simp) | skip
  · have hlist : s = ⟨s.data.toList.toArray⟩ := by cases s; simp
    rcases Nat.eq_zero_or_pos s.size with h0 | h0
    · have hs0 : s = ⟨#[]⟩ := by
        cases s with
        | mk d => have : d = #[] := Array.eq_empty_of_size_eq_zero h0; rw [this]
      rw [hs0]
      generalize (if cap = k then A else A.map (·.add k)) = A2
      cases A2 with
      | none =>
        rw [run_convert_bytes_string W 22 9 5 _ _ _ Tryf.underlying22 Tryf.underlying5 Tryf.underlying9]
        show (Conv.bytesToString (.slice none 0 _)).run Tryf.prog W = _
        simp [Conv.bytesToString]
        rfl
      | some ad =>
        exact run_convert_bytes_back W 22 9 5 ad (cap - k) [] Tryf.underlying22 Tryf.underlying5 Tryf.underlying9 (fun j hj => by simp at hj)
    · obtain ⟨ad, hA, hb, hcell⟩ := h.2 (by omega)
      subst hA
      rw [if_neg (by omega)]
      have := run_convert_bytes_back W 22 9 5 (ad.add k) (cap - k) s.data.toList Tryf.underlying22 Tryf.underlying5 Tryf.underlying9 (fun j hj => by
        rw [add_of_add, hW _ (by rw [block_of_add]; exact hb)]
        refine hcell (k + j) _ ?_
        rw [List.getElem?_map, List.getElem?_append_right (by omega), hk, Nat.add_sub_cancel_left]
        unfold sI
        rw [List.getElem?_map, List.getElem?_eq_getElem hj]; rfl)
      rw [byte_size] at this
      rw [hlist]
      simpa using this
def TailPost (w : World) (s : ByteArray) (e : Ending) (w' : World) : Prop := e = .returned (.tuple #[.string s, .bool true]) ∧ Below w.heap.size w w'
set_option maxHeartbeats 1000000 in
set_option maxRecDepth 100000 in
theorem tail_any (A : Option Addr) (n c : Nat) (xs : List Int) (s : ByteArray) (A' : Option Addr) (k c' : Nat) (w : World) (hx : Reads w w.heap.size 1 A n ((xs ++ sI s).map (Value.int .u8))) (hy : Reads w w.heap.size 1 A' k (xs.map (Value.int .u8))) (hnc : n ≤ c) (hn : n ≤ 16777216) :
    Calls Tryf.prog 14 #[.slice A n c, .slice A' k c'] w (TailPost w s) := by
  have hk : xs.length = k := by have := hy.1; simpa using this
  obtain ⟨A2, c2, hsl, hnk, hcv⟩ := rest_string hx hk hnc (by omega)
  have HX := Lib.hid hx; have HY := Lib.hid hy; have HK := Lib.hid hk; have HCV := Lib.hid hcv; have HNK := Lib.hid hnk
  have hkn : k ≤ n := by omega
  clear hx hy hk hcv hnk
  go_enter Tryf.func14, Tryf.ntmps14
  go_wp2
  go_loopw [6] (fun i wr => ∃ j : Nat, i = .int .i64 j ∧ j ≤ k ∧ Below w.heap.size w wr) (fun i _ => k - (intOf i).toNat)
  case atStart => exact ⟨0, rfl, by omega, Below.refl _ _⟩
  case round =>
    obtain ⟨j, rfl, hj, hbw⟩ := hrel
    by_cases hlt : j < k
    · obtain ⟨b, off, rfl, hb, hc⟩ := reads_cell (HX.out.below hbw) (by omega)
      obtain ⟨b', off', rfl, hb', hc'⟩ := reads_cell (HY.out.below hbw) (by omega)
      have ck := hc j (by omega)
      have ck' := hc' j hlt
      rw [List.getD_eq_getElem?_getD, List.getElem?_append_left (by rw [HK.out]; exact hlt), ← List.getD_eq_getElem?_getD] at ck
      generalize xs.getD j 0 = x at ck ck'
      clear hc hc'
      go_wp2
      go_region
      all_goals
        go_wp2
        go_roundw
        case rel => exact ⟨j + 1, by go_num, by omega, by repeat (first | exact hbw | apply Below.drew | apply below_drewN)⟩
        case measure => simp [intOf]; omega
    · obtain rfl : j = k := by omega
      have HC2 : Hid (∀ W : World, W = wr ∨ W = wr.drew → (convert 22 9 (.slice A2 s.size c2)).run Tryf.prog W = .ok (.string s) W) := Lib.hid (fun W hW => HCV.out W (fun p hp => by rcases hW with rfl | rfl; exact hbw.cell hp; exact hbw.cell hp))
      have hc3 := HC2.out wr (.inl rfl)
      have hc4 := HC2.out wr.drew (.inr rfl)
      go_wp2
      go_ret2
      exact ⟨rfl, by repeat (first | exact hbw | apply Below.drew | apply below_drewN)⟩
end Go.Proofs.YtemefojfnghhoaaFmt
