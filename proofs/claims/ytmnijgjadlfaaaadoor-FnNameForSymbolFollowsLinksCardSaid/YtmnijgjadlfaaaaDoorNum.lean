/- The helpers of the laws on NumberRenamer: sizes, copies of names, tables of plain symbols. -/
import Derived.Test.YtmnijgjadlfaaaaDoorRows
import Derived.Test.YtmnijgjadlfaaaaDoorWords
import Derived.Test.YtmnijgjadlfaaaaDoorLvl
import Derived.Test.YtmnijgjadlfaaaaDoorFol
import Derived.Maps.OwnSet
import Derived.Maps.Views
import Derived.WalkKit
import Derived.WalkSpells
import Derived.LoopTactic
import Derived.Laws.MakeOwn
import Derived.BigRegion
import Derived.Deep.RegionWith
import Derived.Outline
import Derived.Deep.Light
namespace Go.Proofs.YtmnijgjadlfaaaaDoor
open Go.RowKit Go.Maps Go.WideMaps
set_option linter.unusedVariables false
set_option linter.unusedSimpArgs false

def AnyBool (w : World) (e : Ending) (w' : World) : Prop := ∃ b, e = .returned (.bool b) ∧ w = w'
def AnyInt (w : World) (e : Ending) (w' : World) : Prop := ∃ b : Int, e = .returned (.int .i64 b) ∧ w = w'
set_option maxHeartbeats 2000000 in
set_option maxRecDepth 100000 in
theorem zbytes3 (A0 : Option Addr) (n0 c0 : Nat) (s0 : List ByteArray) (A1 : Option Addr) (n1 c1 : Nat) (s1 : List ByteArray) (A2 : Option Addr) (n2 c2' : Nat) (s2 : List ByteArray) (w : World)
    (h0 : Lv.ok w w.heap.size ⟨A0, n0, c0, s0⟩) (h1 : Lv.ok w w.heap.size ⟨A1, n1, c1, s1⟩) (h2 : Lv.ok w w.heap.size ⟨A2, n2, c2', s2⟩) :
    Calls Tryd.prog 5 #[.slice A0 n0 c0, .slice A1 n1 c1, .slice A2 n2 c2'] w (AnyBool w) := by
  have l0 : n0 ≤ 9223372036854775807 := h0.2.2.1
  have l1 : n1 ≤ 9223372036854775807 := h1.2.2.1
  have l2 : n2 ≤ 9223372036854775807 := h2.2.2.1
  have H0 := Lib.hid h0; have H1 := Lib.hid h1; have H2 := Lib.hid h2
  clear h0 h1 h2
  go_enter Tryd.func5, Tryd.ntmps5
  go_wp2
  all_goals first | (go_ret; exact ⟨_, rfl, rfl⟩) | skip
  go_loopw [7, 8] (fun v t wr => ∃ (z : Int) (k : Nat), v = .int .i64 z ∧ t = .int .i64 k ∧ k ≤ n0 ∧ w = wr) (fun _ t _ => n0 - (intOf t).toNat)
  case atStart => exact ⟨_, 0, rfl, rfl, by omega, rfl⟩
  case round =>
    obtain ⟨z, k, rfl, rfl, hk, rfl⟩ := hrel
    by_cases hlt : k < n0
    · obtain ⟨b2, off2, e2, _, hc2⟩ := reads_any H0.out.1 (by show 0 < n0; omega)
      obtain ⟨x, hx⟩ : ∃ x, s0[k]? = some x := ⟨_, List.getElem?_eq_getElem (by have : s0.length = n0 := H0.out.2.2.2.1; omega)⟩
      have c2 := hc2 k x hx
      have hxs : x.size ≤ 9223372036854775807 := H0.out.2.2.2.2 x (List.mem_of_getElem? hx)
      simp only at e2
      subst e2
      clear hc2 hx
      go_wp2
      all_goals first | (go_ret; exact ⟨_, rfl, rfl⟩) | skip
      go_roundw
      case rel => exact ⟨_, k + 1, rfl, by go_num, by omega, by first | rfl | trivial⟩
      case measure => simp [intOf]; omega
    · obtain rfl : n0 = k := by omega
      clear hlt hk
      go_wp2
      all_goals first | (go_ret; exact ⟨_, rfl, rfl⟩) | skip
      go_loopw [7, 9] (fun v t wr => ∃ (z : Int) (k : Nat), v = .int .i64 z ∧ t = .int .i64 k ∧ k ≤ n1 ∧ w = wr) (fun _ t _ => n1 - (intOf t).toNat)
      case atStart => exact ⟨_, 0, rfl, rfl, by omega, rfl⟩
      case round =>
        obtain ⟨z, k, rfl, rfl, hk, rfl⟩ := hrel
        by_cases hlt : k < n1
        · obtain ⟨b2, off2, e2, _, hc2⟩ := reads_any H1.out.1 (by show 0 < n1; omega)
          obtain ⟨x, hx⟩ : ∃ x, s1[k]? = some x := ⟨_, List.getElem?_eq_getElem (by have : s1.length = n1 := H1.out.2.2.2.1; omega)⟩
          have c2 := hc2 k x hx
          have hxs : x.size ≤ 9223372036854775807 := H1.out.2.2.2.2 x (List.mem_of_getElem? hx)
          simp only at e2
          subst e2
          clear hc2 hx
          go_wp2
          all_goals first | (go_ret; exact ⟨_, rfl, rfl⟩) | skip
          go_roundw
          case rel => exact ⟨_, k + 1, rfl, by go_num, by omega, by first | rfl | trivial⟩
          case measure => simp [intOf]; omega
        · obtain rfl : n1 = k := by omega
          clear hlt hk
          go_wp2
          all_goals first | (go_ret; exact ⟨_, rfl, rfl⟩) | skip
          go_loopw [7, 10] (fun v t wr => ∃ (z : Int) (k : Nat), v = .int .i64 z ∧ t = .int .i64 k ∧ k ≤ n2 ∧ w = wr) (fun _ t _ => n2 - (intOf t).toNat)
          case atStart => exact ⟨_, 0, rfl, rfl, by omega, rfl⟩
          case round =>
            obtain ⟨z, k, rfl, rfl, hk, rfl⟩ := hrel
            by_cases hlt : k < n2
            · obtain ⟨b2, off2, e2, _, hc2⟩ := reads_any H2.out.1 (by show 0 < n2; omega)
              obtain ⟨x, hx⟩ : ∃ x, s2[k]? = some x := ⟨_, List.getElem?_eq_getElem (by have : s2.length = n2 := H2.out.2.2.2.1; omega)⟩
              have c2 := hc2 k x hx
              have hxs : x.size ≤ 9223372036854775807 := H2.out.2.2.2.2 x (List.mem_of_getElem? hx)
              simp only at e2
              subst e2
              clear hc2 hx
              go_wp2
              all_goals first | (go_ret; exact ⟨_, rfl, rfl⟩) | skip
              go_roundw
              case rel => exact ⟨_, k + 1, rfl, by go_num, by omega, by first | rfl | trivial⟩
              case measure => simp [intOf]; omega
            · obtain rfl : n2 = k := by omega
              clear hlt hk
              go_wp2
              all_goals (go_ret; exact ⟨_, rfl, rfl⟩)
set_option maxHeartbeats 2000000 in
set_option maxRecDepth 100000 in
theorem zbytes2 (A0 : Option Addr) (n0 c0 : Nat) (s0 : List ByteArray) (A1 : Option Addr) (n1 c1 : Nat) (w : World)
    (h0 : Lv.ok w w.heap.size ⟨A0, n0, c0, s0⟩) (h1 : n1 ≤ maxLen) :
    Calls Tryd.prog 12 #[.slice A0 n0 c0, .slice A1 n1 c1] w (AnyBool w) := by
  have l0 : n0 ≤ 9223372036854775807 := h0.2.2.1
  have l1 : n1 ≤ 9223372036854775807 := h1
  have H0 := Lib.hid h0
  clear h0 h1
  go_enter Tryd.func12, Tryd.ntmps12
  go_wp2
  all_goals first | (go_ret; exact ⟨_, rfl, rfl⟩) | skip
  go_loopw [5, 6] (fun v t wr => ∃ (z : Int) (k : Nat), v = .int .i64 z ∧ t = .int .i64 k ∧ k ≤ n0 ∧ w = wr) (fun _ t _ => n0 - (intOf t).toNat)
  case atStart => exact ⟨_, 0, rfl, rfl, by omega, rfl⟩
  case round =>
    obtain ⟨z, k, rfl, rfl, hk, rfl⟩ := hrel
    by_cases hlt : k < n0
    · obtain ⟨b2, off2, e2, _, hc2⟩ := reads_any H0.out.1 (by show 0 < n0; omega)
      obtain ⟨x, hx⟩ : ∃ x, s0[k]? = some x := ⟨_, List.getElem?_eq_getElem (by have : s0.length = n0 := H0.out.2.2.2.1; omega)⟩
      have c2 := hc2 k x hx
      have hxs : x.size ≤ 9223372036854775807 := H0.out.2.2.2.2 x (List.mem_of_getElem? hx)
      simp only at e2
      subst e2
      clear hc2 hx
      go_wp2
      all_goals first | (go_ret; exact ⟨_, rfl, rfl⟩) | skip
      go_roundw
      case rel => exact ⟨_, k + 1, rfl, by go_num, by omega, by first | rfl | trivial⟩
      case measure => simp [intOf]; omega
    · obtain rfl : n0 = k := by omega
      clear hlt hk
      go_wp2
      all_goals (go_ret; exact ⟨_, rfl, rfl⟩)
set_option maxHeartbeats 1000000 in
set_option maxRecDepth 100000 in
theorem zstr (A : Option Addr) (n c : Nat) (ss : List ByteArray) (w : World) (h : Lv.ok w w.heap.size ⟨A, n, c, ss⟩) : Calls Tryd.prog 6 #[.slice A n c] w (AnyInt w) := by
  have H := Lib.hid h
  have hln : n ≤ 9223372036854775807 := h.2.2.1
  clear h
  go_enter Tryd.func6, Tryd.ntmps6
  go_wp2
  go_loopw [3, 4] (fun v t wr => ∃ (z : Int) (k : Nat), v = .int .i64 z ∧ t = .int .i64 k ∧ k ≤ n ∧ w = wr) (fun _ t _ => n - (intOf t).toNat)
  case atStart => exact ⟨_, 0, rfl, rfl, by omega, rfl⟩
  case round =>
    obtain ⟨z, k, rfl, rfl, hk, rfl⟩ := hrel
    by_cases hlt : k < n
    · obtain ⟨b2, off2, e2, _, hc2⟩ := reads_any H.out.1 (by show 0 < n; omega)
      obtain ⟨x, hx⟩ : ∃ x, ss[k]? = some x := ⟨_, List.getElem?_eq_getElem (by have : ss.length = n := H.out.2.2.2.1; omega)⟩
      have c2 := hc2 k x hx
      have hxs : x.size ≤ 9223372036854775807 := H.out.2.2.2.2 x (List.mem_of_getElem? hx)
      simp only at e2
      subst e2
      clear hc2 hx
      go_wp2
      go_roundw
      case rel => exact ⟨_, k + 1, rfl, by go_num, by omega, by first | rfl | trivial⟩
      case measure => simp [intOf]; omega
    · obtain rfl : n = k := by omega
      go_wp2
      go_ret
      exact ⟨_, rfl, rfl⟩
/-- What a copy of names hands back. -/
def CloneS (w : World) (n : Nat) (ss : List ByteArray) (e : Ending) (w' : World) : Prop :=
  ∃ A c, e = .returned (.slice A n c) ∧ Lv.ok w' w'.heap.size ⟨A, n, c, ss⟩ ∧ Below w.heap.size w w'
theorem str_info : (Tryd.prog.info? 9).map (fun i => (i.zero, i.size, i.bytes)) = some (some (.string ⟨#[]⟩), 1, 16) := by kernel_rfl
def mkS (n : Nat) : Array Value := madeCells #[.string ⟨#[]⟩] n
set_option maxHeartbeats 1000000 in
set_option maxRecDepth 100000 in
theorem cloneS (A : Option Addr) (n c : Nat) (ss : List ByteArray) (w : World) (h : Lv.ok w w.heap.size ⟨A, n, c, ss⟩) (hn : n ≤ 16777216) : Calls Tryd.prog 7 #[.slice A n c] w (CloneS w n ss) := by
  have heq : ∀ (W : World) (a : Option Addr) (l c : Nat), (binOp .eql 22 (.slice a l c) (.slice none 0 0)).run Tryd.prog W = .ok (.bool a.isNone) W := fun W a l c => Lib.run_eql_slice_nil W 22 9 a l c 0 0 Tryd.underlying22
  cases A with
  | none =>
    have hn0 : n = 0 := h.2.1 rfl
    subst hn0
    have H := Lib.hid h
    clear h
    go_enter Tryd.func7, Tryd.ntmps7
    go_wp2
    go_ret
    exact ⟨none, 0, rfl, H.out, Below.refl _ _⟩
  | some ad =>
    obtain ⟨i0, hi, hz0, hz1, hz2⟩ := info_parts str_info
    have hlen : ss.length = n := h.2.2.2.1
    have hmk : ∀ W : World, (Instr.makeSlice 22 (.int .i64 (n : Int)) (.int .i64 (n : Int))).run Tryd.prog W = .ok (.slice (some ⟨W.heap.size, 0, none⟩) n n) (W.alloc (.cells (mkS n) 9)) := fun W => by
      have := run_make (P := Tryd.prog) W 22 9 i0 (.string ⟨#[]⟩) Tryd.underlying22 hi hz0 .i64 .i64 n n (by omega) (by omega) (by rw [hz2]; omega) (by omega)
      simpa [hz1, Value.cells, mkS] using this
    have HM0 := Lib.hid (Blk.new w 9 (mkS n))
    have HMS := Lib.hid (show (mkS n).size = n by simp [mkS, madeCells])
    have H := Lib.hid h; have HLEN := Lib.hid hlen
    clear h hlen
    go_enter Tryd.func7, Tryd.ntmps7
    go_wp2
    clear hmk heq
    go_loopw [4] (fun i wr => ∃ (k : Nat) (cs : Array Value), i = .int .i64 k ∧ k ≤ n ∧ Blk wr w.heap.size 9 cs ∧ cs.size = n ∧ (∀ j, j < k → cs[j]? = (ss.map Value.string)[j]?) ∧ Below w.heap.size w wr) (fun i _ => n - (intOf i).toNat)
    case atStart => exact ⟨0, _, rfl, by omega, HM0.out, HMS.out, fun j hj => by omega, (Below.refl _ _).alloc (Nat.le_refl _) _⟩
    case round =>
      obtain ⟨k, cs, rfl, hk, hb, hcs, hj, hbw⟩ := hrel
      have HB := Lib.hid hb; have HCS := Lib.hid hcs; have HJ := Lib.hid hj
      have hlt0 := hb.lt
      clear hb hcs hj
      by_cases hlt : k < n
      · obtain ⟨b, off, e1, hbk, hc⟩ := reads_any (H.out.1.below hbw) (by show 0 < n; omega)
        obtain rfl := Option.some.inj e1
        obtain ⟨x, hx⟩ : ∃ x, ss[k]? = some x := ⟨_, List.getElem?_eq_getElem (by have := HLEN.out; omega)⟩
        have hc1 := hc k x hx
        have HX := Lib.hid hx
        have c0 : wr.cell? ⟨w.heap.size, k, none⟩ = some (cs[k]'(by have := HCS.out; omega)) := by
          rw [HB.out.cell k, Array.getElem?_eq_getElem]
        have z0 : wr.frozen? ⟨w.heap.size, k, none⟩ = false := HB.out.frozen k
        generalize (cs[k]'(by have := HCS.out; omega)) = v at c0
        clear hx hc e1
        go_wp2
        go_roundw
        case rel =>
          refine ⟨k + 1, cs.setIfInBounds k (.string x), by go_num, by omega, HB.out.set_ k _, by rw [Array.size_setIfInBounds]; exact HCS.out, fun j hj => ?_, hbw.setCell (p := ⟨w.heap.size, k, none⟩) (Nat.le_refl _) _⟩
          rw [Array.getElem?_setIfInBounds]
          by_cases e : k = j
          · subst e
            rw [if_pos rfl, if_pos (by have := HCS.out; omega), List.getElem?_map, HX.out]; rfl
          · rw [if_neg e]; exact HJ.out j (by omega)
        case measure => simp [intOf]; omega
      · obtain rfl : k = n := by omega
        go_wp2
        go_ret
        refine ⟨_, _, rfl, ⟨⟨by simp [HLEN.out], fun hn => ⟨_, rfl, hlt0, fun j u hu => ?_⟩⟩, (fun h => by cases h), H.out.2.2.1, HLEN.out, H.out.2.2.2.2⟩, hbw⟩
        have hjl : j < k := by have := (List.getElem?_eq_some_iff.1 hu).1; simp at this; have := HLEN.out; omega
        rw [← hu, ← HJ.out j hjl, ← HB.out.cell]
        unfold Addr.add
        split
        · rename_i h0; subst h0; rfl
        · show wr.cell? ⟨w.heap.size, 0 + j, none⟩ = _
          rw [Nat.zero_add]
end Go.Proofs.YtmnijgjadlfaaaaDoor
