/- n011_313: zzCloneSteps, zzBytes of the law of the empty map, zzSizeOK. -/
import Derived.Test.YtgdcpladehcegaaDoorRows
import Derived.Test.YtgdcpladehcegaaDoorStp
import Derived.Test.YtgdcpladehcegaaDoorApp
import Derived.WalkKit
import Derived.WalkSpells
import Derived.LoopTactic
import Derived.Laws.MakeOwn
import Derived.IntWalk
import Derived.Outline
namespace Go.Proofs.YtgdcpladehcegaaDoor
open Go.RowKit
set_option linter.unusedVariables false
set_option linter.unusedSimpArgs false
def z3 : Value := .agg #[.int .i32 0, .int .i32 0, .string ⟨#[]⟩]
theorem stp_info : (Tryd.prog.info? 65).map (fun i => (i.zero, i.size, i.bytes)) = some (some z3, 3, 24) := by kernel_rfl
def mk3 (n : Nat) : Array Value := madeCells z3.cells (n * 3)
theorem made3 (n : Nat) : (mk3 n).size = n * 3 := by simp [mk3, madeCells, z3, Value.cells]
theorem row3_get {Z : List Stp} {cs : Array Value} {k : Nat} {r : Stp} (hr : Z[k]? = some r) (hs : k * 3 + 3 ≤ cs.size) (h : ∀ j, j < k * 3 → cs[j]? = (row3 Z)[j]?) :
    ∀ j, j < (k + 1) * 3 → (((cs.setIfInBounds (k * 3) (.int .i32 r.a)).setIfInBounds (k * 3 + 1) (.int .i32 r.b)).setIfInBounds (k * 3 + 2) (.string r.nm))[j]? = (row3 Z)[j]? := by
  intro j hj
  simp only [Array.getElem?_setIfInBounds, Array.size_setIfInBounds]
  by_cases h1 : j < k * 3
  · rw [if_neg (by omega), if_neg (by omega), if_neg (by omega)]
    exact h j h1
  · obtain ⟨i, hi, rfl⟩ : ∃ i, i < 3 ∧ j = k * 3 + i := ⟨j - k * 3, by omega, by omega⟩
    rw [row3_at Z k r hr i hi]
    match i, hi with
    | 0, _ => rw [if_neg (by omega), if_neg (by omega), if_pos (by omega), if_pos (by omega)]; rfl
    | 1, _ => rw [if_neg (by omega), if_pos rfl, if_pos (by omega)]; rfl
    | 2, _ => rw [if_pos rfl, if_pos (by omega)]; rfl
def CloneS (w : World) (n : Nat) (Z : List Stp) (e : Ending) (w' : World) : Prop :=
  ∃ A c, e = .returned (.slice A n c) ∧ n ≤ c ∧ c ≤ maxLen ∧ Reads w' w'.heap.size 3 A n (row3 Z) ∧ Below w.heap.size w w'
set_option maxHeartbeats 1000000 in
set_option maxRecDepth 100000 in
theorem cloneS (A : Option Addr) (n cap : Nat) (Z : List Stp) (w : World) (hr : Reads w w.heap.size 3 A n (row3 Z)) (hA : A = none → n = 0) (hn : n ≤ 65536) :
    Calls Tryd.prog 14 #[.slice A n cap] w (CloneS w n Z) := by
  have heq : ∀ (W : World) (a : Option Addr) (l c : Nat), (binOp .eql 46 (.slice a l c) (.slice none 0 0)).run Tryd.prog W = .ok (.bool a.isNone) W := fun W a l c => Lib.run_eql_slice_nil W 46 65 a l c 0 0 Tryd.underlying46
  cases A with
  | none =>
    obtain rfl := hA rfl
    have HR := Lib.hid hr
    clear hr hA
    go_enter Tryd.func14, Tryd.ntmps14
    go_wp2
    go_ret
    exact ⟨none, 0, rfl, Nat.le_refl _, by unfold maxLen; omega, HR.out, Below.refl _ _⟩
  | some ad =>
    obtain ⟨i0, hi, hz0, hz1, hz2⟩ := info_parts stp_info
    have hlen : Z.length = n := by have := hr.1; rw [row3_len] at this; omega
    have hmk : ∀ W : World, (Instr.makeSlice 46 (.int .i64 (n : Int)) (.int .i64 (n : Int))).run Tryd.prog W = .ok (.slice (some ⟨W.heap.size, 0, none⟩) n n) (W.alloc (.cells (mk3 n) 65)) := fun W => by
      have := run_make (P := Tryd.prog) W 46 65 i0 z3 Tryd.underlying46 hi hz0 .i64 .i64 n n (by omega) (by omega) (by rw [hz2]; omega) (by omega)
      simpa [hz1, mk3] using this
    have HM0 := Lib.hid (Blk.new w 65 (mk3 n))
    have HMS := Lib.hid (made3 n)
    have HR := Lib.hid hr; have HLEN := Lib.hid hlen
    clear hr hlen hA
    go_enter Tryd.func14, Tryd.ntmps14
    go_wp2
    clear hmk heq
    go_loopw [4] (fun i wr => ∃ (k : Nat) (cs : Array Value), i = .int .i64 k ∧ k ≤ n ∧ Blk wr w.heap.size 65 cs ∧ cs.size = n * 3 ∧ (∀ j, j < k * 3 → cs[j]? = (row3 Z)[j]?) ∧ Below w.heap.size w wr) (fun i _ => n - (intOf i).toNat)
    case atStart => exact ⟨0, _, rfl, by omega, HM0.out, HMS.out, fun j hj => by omega, (Below.refl _ _).alloc (Nat.le_refl _) _⟩
    case round =>
      obtain ⟨k, cs, rfl, hk, hb, hcs, hj, hbw⟩ := hrel
      have HB := Lib.hid hb; have HCS := Lib.hid hcs; have HJ := Lib.hid hj
      have hlt0 := hb.lt
      clear hb hcs hj
      by_cases hlt : k < n
      · obtain ⟨b, off, e1, hbk, hx⟩ := reads3 (HR.out.below hbw) (by omega)
        obtain rfl := Option.some.inj e1
        obtain ⟨r, hr⟩ : ∃ r, Z[k]? = some r := ⟨_, List.getElem?_eq_getElem (by have := HLEN.out; omega)⟩
        obtain ⟨q0, q1, q2⟩ := hx k r hr
        have HRK := Lib.hid hr
        have hsz : k * 3 + 3 ≤ cs.size := by have := HCS.out; omega
        have cc : ∀ j, j < 3 → wr.cell? ⟨w.heap.size, k * 3 + j, none⟩ = some (cs.getD (k * 3 + j) default) := fun j hj => by
          rw [HB.out.cell, Array.getElem?_eq_getElem (by omega), Array.getD_eq_getD_getElem?, Array.getElem?_eq_getElem (by omega)]; rfl
        have c0 := cc 0 (by omega)
        have c1 := cc 1 (by omega)
        have c2 := cc 2 (by omega)
        rw [Nat.add_zero] at c0
        have z0 : wr.frozen? ⟨w.heap.size, k * 3, none⟩ = false := HB.out.frozen _
        have z1 : wr.frozen? ⟨w.heap.size, k * 3 + 1, none⟩ = false := HB.out.frozen _
        have z2 : wr.frozen? ⟨w.heap.size, k * 3 + 2, none⟩ = false := HB.out.frozen _
        generalize cs.getD (k * 3) default = v0 at c0
        generalize cs.getD (k * 3 + 1) default = v1 at c1
        generalize cs.getD (k * 3 + 2) default = v2 at c2
        clear hr hx e1 cc
        have hfin : ∀ W : World, W = ((wr.setCell ⟨w.heap.size, k * 3, none⟩ (.int .i32 r.a)).setCell ⟨w.heap.size, k * 3 + 1, none⟩ (.int .i32 r.b)).setCell ⟨w.heap.size, k * 3 + 2, none⟩ (.string r.nm) →
            ∃ cs : Array Value, Blk W w.heap.size 65 cs ∧ cs.size = n * 3 ∧ (∀ j, j < (k + 1) * 3 → cs[j]? = (row3 Z)[j]?) ∧ Below w.heap.size w W := fun W hW => by
          subst hW
          exact ⟨_, ((HB.out.set_ _ _).set_ _ _).set_ _ _, by simpa using HCS.out, row3_get HRK.out hsz HJ.out,
            ((hbw.setCell (p := ⟨w.heap.size, _, none⟩) (Nat.le_refl _) _).setCell (p := ⟨w.heap.size, _, none⟩) (Nat.le_refl _) _).setCell (p := ⟨w.heap.size, _, none⟩) (Nat.le_refl _) _⟩
        have HFIN := Lib.hid hfin
        clear hfin
        go_wp2
        go_roundw
        case rel =>
          obtain ⟨cs', h1, h2, h3, h4⟩ := HFIN.out _ rfl
          exact ⟨k + 1, cs', by go_num, by omega, h1, h2, h3, h4⟩
        case measure => simp [intOf]; omega
      · obtain rfl : k = n := by omega
        go_wp2
        go_ret
        refine ⟨_, _, rfl, Nat.le_refl _, by unfold maxLen; omega, ⟨by rw [row3_len, HLEN.out], fun hn => ⟨_, rfl, hlt0, fun j u hu => ?_⟩⟩, hbw⟩
        have hjl : j < (row3 Z).length := (List.getElem?_eq_some_iff.1 hu).1
        rw [row3_len, HLEN.out] at hjl
        rw [← hu, ← HJ.out j hjl, ← HB.out.cell]
        unfold Addr.add
        split
        · rename_i h0; subst h0; rfl
        · show wr.cell? ⟨w.heap.size, 0 + j, none⟩ = _
          rw [Nat.zero_add]
def AnyB (w : World) (e : Ending) (w' : World) : Prop := ∃ b, e = .returned (.bool b) ∧ w = w'
def SizeP (x y z : Nat) (w : World) (e : Ending) (w' : World) : Prop := ∃ b, e = .returned (.bool b) ∧ w = w' ∧ (b = true → x + y ≤ 1048576 ∧ z ≤ 65536)
set_option maxHeartbeats 1000000 in
set_option maxRecDepth 100000 in
theorem zbe_any (s : ByteArray) (q : Bool) (A : Option Addr) (n c : Nat) (D : Option Addr) (m mc : Nat) (Z : List Stp) (w : World) (hs : s.size ≤ maxLen) (hn : n ≤ maxLen) (hm : m ≤ maxLen) (hz : IsStps w D m Z) :
    Calls Tryd.prog 11 #[.string s, .bool q, .slice A n c, .slice D m mc] w (AnyB w) := by
  have HZ := Lib.hid hz
  clear hz
  unfold maxLen at hs hn hm
  by_cases h0 : 1048576 < s.size
  · go_enter Tryd.func11, Tryd.ntmps11
    go_wp2
    go_ret
    exact ⟨_, rfl, rfl⟩
  by_cases h1 : 1048576 < n
  · go_enter Tryd.func11, Tryd.ntmps11
    go_wp2
    go_ret
    exact ⟨_, rfl, rfl⟩
  by_cases h2 : 1048576 < s.size + n
  · have h2' : 1048576 < (s.size : Int) + (n : Int) := by omega
    go_enter Tryd.func11, Tryd.ntmps11
    go_wp2
    go_ret
    exact ⟨_, rfl, rfl⟩
  have h2' : ¬ 1048576 < (s.size : Int) + (n : Int) := by omega
  by_cases h3 : 1048576 < m
  · go_enter Tryd.func11, Tryd.ntmps11
    go_wp2
    go_ret
    exact ⟨_, rfl, rfl⟩
  obtain ⟨t0, ht0⟩ : ∃ t, t = s.size + n + m := ⟨_, rfl⟩
  have hw0 : IntKind.i64.wrap ((s.size : Int) + (n : Int) + (m : Int)) = (t0 : Int) := by rw [IntKind.wrap_i64]; omega
  have ht : t0 ≤ 3145728 := by omega
  by_cases h4 : 1048576 < t0
  · have h4' : 1048576 < (t0 : Int) := by omega
    clear ht0
    go_enter Tryd.func11, Tryd.ntmps11
    go_wp2
    go_ret
    exact ⟨_, rfl, rfl⟩
  have h4' : ¬ 1048576 < (t0 : Int) := by omega
  clear ht0
  go_enter Tryd.func11, Tryd.ntmps11
  go_wp2
  go_loop [9, 10] (fun t i => ∃ (tt k : Nat), t = .int .i64 (tt : Int) ∧ i = .int .i64 (k : Int) ∧ k ≤ m ∧ tt ≤ 1048576) (fun _ i => m - (intOf i).toNat)
  case atStart => exact ⟨t0, 0, rfl, rfl, Nat.zero_le _, by omega⟩
  case round =>
    obtain ⟨tt, k, rfl, rfl, hk, htt⟩ := hrel
    by_cases hlt : k < m
    · obtain ⟨hr, hA, hml, hlen, hok⟩ := HZ.out
      obtain ⟨b, off, rfl, hbk, hx⟩ := reads3 hr (by omega)
      obtain ⟨r, hr⟩ : ∃ r, Z[k]? = some r := ⟨_, List.getElem?_eq_getElem (by omega)⟩
      obtain ⟨q0, q1, q2⟩ := hx k r hr
      have hnm := (hok r (List.mem_of_getElem? hr)).2.2
      unfold maxLen at hnm
      have HW := Lib.hid hr
      clear hr hA hml hlen hok hx hw0
      have hlt' : (k : Int) < (m : Int) := by omega
      by_cases h5 : 1048576 < r.nm.size
      · go_wp2
        go_ret
        exact ⟨_, rfl, rfl⟩
      have hwk : IntKind.i64.wrap ((k : Int) + 1) = ((k + 1 : Nat) : Int) := by rw [IntKind.wrap_i64]; omega
      obtain ⟨t1, ht1⟩ : ∃ t, t = tt + r.nm.size := ⟨_, rfl⟩
      have hw1 : IntKind.i64.wrap ((tt : Int) + (r.nm.size : Int)) = (t1 : Int) := by rw [IntKind.wrap_i64]; omega
      have HT1 := Lib.hid ht1
      by_cases h6 : 1048576 < t1
      · have h6' : 1048576 < (t1 : Int) := by omega
        clear ht1
        go_wp2
        go_ret
        exact ⟨_, rfl, rfl⟩
      have h6' : ¬ 1048576 < (t1 : Int) := by omega
      clear ht1
      go_wp2
      go_round
      case rel => exact ⟨t1, k + 1, rfl, rfl, by omega, by omega⟩
      case measure => simp [intOf]; omega
    · obtain rfl : k = m := by omega
      have hlt' : ¬ ((k : Int) < (k : Int)) := by omega
      go_wp2
      go_ret
      exact ⟨_, rfl, rfl⟩
end Go.Proofs.YtgdcpladehcegaaDoor
