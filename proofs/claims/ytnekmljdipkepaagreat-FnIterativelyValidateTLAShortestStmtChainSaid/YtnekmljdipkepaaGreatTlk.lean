/- The law's small functions (n011_217): the bound on bytes, the edges' range, the kinds; the check of one file. -/
import Derived.Test.YtnekmljdipkepaaGreatTli
import Derived.Test.YtnekmljdipkepaaGreatTsm
import Derived.Laws.MakeOwn
import Derived.IntWalk
namespace Go.Proofs.YtnekmljdipkepaaGreat
open Go.RowKit
set_option linter.unusedVariables false
set_option linter.unusedSimpArgs false
def AnyB (w : World) (e : Ending) (w' : World) : Prop := ∃ b, e = .returned (.bool b) ∧ w = w'
set_option maxHeartbeats 1000000 in
set_option maxRecDepth 100000 in
theorem zb_any (A0 : Option Addr) (n0 c0 : Nat) (A1 : Option Addr) (n1 c1 : Nat) (A2 : Option Addr) (n2 c2 : Nat) (A3 : Option Addr) (n3 c3 : Nat) (A4 : Option Addr) (n4 c4 : Nat) (w : World) (h0 : n0 ≤ maxLen) (h1 : n1 ≤ maxLen) (h2 : n2 ≤ maxLen) (h3 : n3 ≤ maxLen) (h4 : n4 ≤ maxLen) :
    Calls Tryz.prog 4 #[.slice A0 n0 c0, .slice A1 n1 c1, .slice A2 n2 c2, .slice A3 n3 c3, .slice A4 n4 c4] w (AnyB w) := by
  unfold maxLen at h0 h1 h2 h3 h4
  have w0 : IntKind.i64.wrap (n0 : Int) = (n0 : Int) := by rw [IntKind.wrap_i64]; omega
  by_cases a0 : 1048576 < (n0 : Int)
  · go_enter Tryz.func4, Tryz.ntmps4
    go_wp2
    go_ret
    exact ⟨_, rfl, rfl⟩
  by_cases a1 : 1048576 < (n1 : Int)
  · go_enter Tryz.func4, Tryz.ntmps4
    go_wp2
    go_ret
    exact ⟨_, rfl, rfl⟩
  have w1 : IntKind.i64.wrap ((n0 : Int) + (n1 : Int)) = (n0 : Int) + (n1 : Int) := by rw [IntKind.wrap_i64]; omega
  by_cases b1 : 1048576 < (n0 : Int) + (n1 : Int)
  · go_enter Tryz.func4, Tryz.ntmps4
    go_wp2
    go_ret
    exact ⟨_, rfl, rfl⟩
  by_cases a2 : 1048576 < (n2 : Int)
  · go_enter Tryz.func4, Tryz.ntmps4
    go_wp2
    go_ret
    exact ⟨_, rfl, rfl⟩
  have w2 : IntKind.i64.wrap ((n0 : Int) + (n1 : Int) + (n2 : Int)) = (n0 : Int) + (n1 : Int) + (n2 : Int) := by rw [IntKind.wrap_i64]; omega
  by_cases b2 : 1048576 < (n0 : Int) + (n1 : Int) + (n2 : Int)
  · go_enter Tryz.func4, Tryz.ntmps4
    go_wp2
    go_ret
    exact ⟨_, rfl, rfl⟩
  by_cases a3 : 1048576 < (n3 : Int)
  · go_enter Tryz.func4, Tryz.ntmps4
    go_wp2
    go_ret
    exact ⟨_, rfl, rfl⟩
  have w3 : IntKind.i64.wrap ((n0 : Int) + (n1 : Int) + (n2 : Int) + (n3 : Int)) = (n0 : Int) + (n1 : Int) + (n2 : Int) + (n3 : Int) := by rw [IntKind.wrap_i64]; omega
  by_cases b3 : 1048576 < (n0 : Int) + (n1 : Int) + (n2 : Int) + (n3 : Int)
  · go_enter Tryz.func4, Tryz.ntmps4
    go_wp2
    go_ret
    exact ⟨_, rfl, rfl⟩
  by_cases a4 : 1048576 < (n4 : Int)
  · go_enter Tryz.func4, Tryz.ntmps4
    go_wp2
    go_ret
    exact ⟨_, rfl, rfl⟩
  have w4 : IntKind.i64.wrap ((n0 : Int) + (n1 : Int) + (n2 : Int) + (n3 : Int) + (n4 : Int)) = (n0 : Int) + (n1 : Int) + (n2 : Int) + (n3 : Int) + (n4 : Int) := by rw [IntKind.wrap_i64]; omega
  by_cases b4 : 1048576 < (n0 : Int) + (n1 : Int) + (n2 : Int) + (n3 : Int) + (n4 : Int)
  · go_enter Tryz.func4, Tryz.ntmps4
    go_wp2
    go_ret
    exact ⟨_, rfl, rfl⟩
  go_enter Tryz.func4, Tryz.ntmps4
  go_wp2
  go_ret
  exact ⟨_, rfl, rfl⟩

/-- All edges lie in range, or not. -/
def RngPost (n m : Nat) (fr tg : Nat → Nat) (w : World) (e : Ending) (w' : World) : Prop := ∃ b, e = .returned (.bool b) ∧ w = w' ∧ (b = true → ∀ j, j < m → fr j < n ∧ tg j < n)
set_option maxHeartbeats 1000000 in
set_option maxRecDepth 100000 in
theorem rng_any (n m : Nat) (fr tg : Nat → Nat) (Af At : Option Addr) (cf ct : Nat) (w : World) (hf : ∀ j, j < m → ∃ ad, Af = some ad ∧ w.cell? (ad.add j) = some (.int .u32 (fr j : Int))) (ht : ∀ j, j < m → ∃ ad, At = some ad ∧ w.cell? (ad.add j) = some (.int .u32 (tg j : Int))) (hn : n ≤ 65536) (hm : m ≤ 65536) (hfb : ∀ j, j < m → fr j ≤ 4294967295) (htb : ∀ j, j < m → tg j ≤ 4294967295) :
    Calls Tryz.prog 5 #[.int .i64 (n : Int), .slice Af m cf, .slice At m ct] w (RngPost n m fr tg w) := by
  have HF := Lib.hid hf; have HT := Lib.hid ht; have HFB := Lib.hid hfb; have HTB := Lib.hid htb
  clear hf ht hfb htb
  go_enter Tryz.func5, Tryz.ntmps5
  go_wp2
  go_loopw [7] (fun iv wr => ∃ k : Nat, iv = .int .i64 (k : Int) ∧ k ≤ m ∧ wr = w ∧ ∀ j, j < k → fr j < n ∧ tg j < n) (fun iv _ => m - (intOf iv).toNat)
  case atStart => exact ⟨0, rfl, Nat.zero_le _, rfl, fun j h => by omega⟩
  case round =>
    obtain ⟨k, rfl, hk, rfl, hj⟩ := hrel
    have HJ := Lib.hid hj
    clear hj
    by_cases hlt : k < m
    · have hlt' : (k : Int) < (m : Int) := by omega
      obtain ⟨af, rfl, c1⟩ := HF.out k hlt
      obtain ⟨at_, rfl, c2⟩ := HT.out k hlt
      have hfk := HFB.out k hlt
      have htk := HTB.out k hlt
      obtain ⟨f, hfe⟩ : ∃ f, f = fr k := ⟨_, rfl⟩
      obtain ⟨t, hte⟩ : ∃ t, t = tg k := ⟨_, rfl⟩
      rw [← hfe] at c1 hfk
      rw [← hte] at c2 htk
      have HFE := Lib.hid hfe; have HTE := Lib.hid hte
      have hwe : IntKind.i64.wrap ((k : Int) + 1) = (k : Int) + 1 := by rw [IntKind.wrap_i64]; omega
      have hw1 : IntKind.i64.wrap (f : Int) = (f : Int) := by rw [IntKind.wrap_i64]; omega
      have hw2 : IntKind.i64.wrap (t : Int) = (t : Int) := by rw [IntKind.wrap_i64]; omega
      clear hfe hte hfk htk
      by_cases h1 : f < n
      · have h1' : (f : Int) < (n : Int) := by omega
        by_cases h2 : t < n
        · have h2' : (t : Int) < (n : Int) := by omega
          go_wp2
          go_roundw
          case rel => exact ⟨k + 1, by simp, by omega, by first | trivial | rfl, fun j hj => by
            rcases Nat.lt_or_ge j k with h | h
            · exact HJ.out j h
            · obtain rfl : j = k := by omega
              rw [← HFE.out, ← HTE.out]; exact ⟨h1, h2⟩⟩
          case measure => simp [intOf]; omega
        · have h2' : ¬ (t : Int) < (n : Int) := by omega
          go_wp2
          go_ret
          exact ⟨_, rfl, rfl, fun h => by cases h⟩
      · have h1' : ¬ (f : Int) < (n : Int) := by omega
        go_wp2
        go_ret
        exact ⟨_, rfl, rfl, fun h => by cases h⟩
    · obtain rfl : k = m := by omega
      go_wp2
      go_ret
      exact ⟨_, rfl, rfl, fun _ => HJ.out⟩
theorem ik_info : (Tryz.prog.info? 46).map (fun i => (i.zero, i.size, i.bytes)) = some (some (.int .u8 0), 1, 1) := by kernel_rfl
/-- The kinds: one more than the rest by three. -/
def KindPost (m : Nat) (kb : Nat → Nat) (w : World) (e : Ending) (w' : World) : Prop := ∃ g, e = .returned (.slice (some ⟨g, 0, none⟩) m m) ∧ Arr w' 46 (some ⟨g, 0, none⟩) m (fun j => .int .u8 ((kb j % 3 + 1 : Nat) : Int)) ∧ w.grownBy w' none
set_option maxHeartbeats 2000000 in
set_option maxRecDepth 100000 in
theorem kinds_any (m : Nat) (kb : Nat → Nat) (Ak : Option Addr) (ck : Nat) (w : World) (ha : Arr w 5 Ak m (fun j => .int .u8 (kb j : Int))) (hm : m ≤ 65536) (hb : ∀ j, j < m → kb j ≤ 255) :
    Calls Tryz.prog 10 #[.slice Ak m ck] w (KindPost m kb w) := by
  obtain ⟨i0, hi, hz0, hz1, hz2⟩ := info_parts ik_info
  have hmk : ∀ W : World, (Instr.makeSlice 33 (.int .i64 (m : Int)) (.int .i64 (m : Int))).run Tryz.prog W = .ok (.slice (some ⟨W.heap.size, 0, none⟩) m m) (W.alloc (.cells (madeCells #[.int .u8 0] m) 46)) := fun W => by
    have := run_make (P := Tryz.prog) W 33 46 i0 (.int .u8 0) Tryz.underlying33 hi hz0 .i64 .i64 m m (by omega) (by omega) (by rw [hz2]; omega) (by omega)
    simpa [hz1, Value.cells] using this
  have HM0 := Lib.hid (Blk.new w 46 (madeCells #[Value.int .u8 0] m))
  have HMS := Lib.hid (show (madeCells #[Value.int .u8 0] m).size = m by simp [madeCells])
  have HA := Lib.hid ha; have HB := Lib.hid hb
  clear ha hb hi hz0 hz1 hz2
  go_enter Tryz.func10, Tryz.ntmps10
  go_wp2
  clear hmk
  go_loopw [4] (fun iv wr => ∃ (k : Nat) (cs : Array Value), iv = .int .i64 (k : Int) ∧ k ≤ m ∧ Blk wr w.heap.size 46 cs ∧ cs.size = m ∧ (∀ j, j < k → cs[j]? = some (.int .u8 ((kb j % 3 + 1 : Nat) : Int))) ∧ w.grownBy wr none) (fun iv _ => m - (intOf iv).toNat)
  case atStart => exact ⟨0, _, rfl, Nat.zero_le _, HM0.out, HMS.out, fun j h => by omega, only_alloc (World.grownBy.refl _ _) _⟩
  case round =>
    obtain ⟨k, cs, rfl, hk, hbk, hcs, hj, hg⟩ := hrel
    have HB1 := Lib.hid hbk; have HCS := Lib.hid hcs; have HJ := Lib.hid hj; have HG := Lib.hid hg
    clear hbk hcs hj hg
    by_cases hlt : k < m
    · have hlt' : (k : Int) < (m : Int) := by omega
      obtain ⟨gk, rfl, c1⟩ := (HA.out.grown HG.out).at_ hlt
      obtain ⟨x, hx⟩ : ∃ x, x = kb k := ⟨_, rfl⟩
      have hx5 := HB.out k hlt
      rw [← hx] at c1 hx5
      have HX := Lib.hid hx
      have c0 : wr.cell? ⟨w.heap.size, k, none⟩ = some (cs[k]'(by have := HCS.out; omega)) := by
        rw [HB1.out.cell k, Array.getElem?_eq_getElem]
      have z0 : wr.frozen? ⟨w.heap.size, k, none⟩ = false := HB1.out.frozen k
      generalize (cs[k]'(by have := HCS.out; omega)) = v at c0
      have hwe : IntKind.i64.wrap ((k : Int) + 1) = (k : Int) + 1 := by rw [IntKind.wrap_i64]; omega
      have hmod : (x : Int).tmod 3 = ((x % 3 : Nat) : Int) := by rw [Int.tmod_eq_emod_of_nonneg (by omega)]; omega
      have HFIN : Hid (∀ u, u = .int .u8 ((x % 3 + 1 : Nat) : Int) → ∃ cs : Array Value, Blk (wr.setCell ⟨w.heap.size, k, none⟩ u) w.heap.size 46 cs ∧ cs.size = m ∧ (∀ j, j < k + 1 → cs[j]? = some (.int .u8 ((kb j % 3 + 1 : Nat) : Int))) ∧ w.grownBy (wr.setCell ⟨w.heap.size, k, none⟩ u) none) := Lib.hid (fun u hu => by
        refine ⟨_, HB1.out.set_ k u, by simpa using HCS.out, fun j hj => ?_, ?_⟩
        · by_cases e : j = k
          · subst e; rw [Array.getElem?_setIfInBounds_self_of_lt (by have := HCS.out; omega), hu, HX.out]
          · rw [Array.getElem?_setIfInBounds_ne (fun h => e h.symm)]; exact HJ.out j (by omega)
        · have hb := HG.out
          exact ⟨hb.os, hb.tape, hb.output, by simp [World.setCell]; exact hb.size, fun i hi _ => (Below.heap_setCell wr _ u i (by show i ≠ w.heap.size; omega)).trans (hb.block i hi (by simp))⟩)
      obtain ⟨r, hr⟩ : ∃ r, r = x % 3 := ⟨_, rfl⟩
      rw [← hr] at hmod HFIN
      have hr3 : r = 0 ∨ r = 1 ∨ r = 2 := by omega
      have hwr : IntKind.u8.wrap (r : Int) = (r : Int) := by rw [IntKind.wrap_u8']; omega
      clear hr hx hx5
      rcases hr3 with rfl | rfl | rfl
      all_goals
        go_wp2
        go_roundw
        case rel =>
          obtain ⟨cs', h1, h2, h3, h4⟩ := HFIN.out _ rfl
          exact ⟨k + 1, cs', by simp, by omega, h1, h2, h3, h4⟩
        case measure => simp [intOf]; omega
    · obtain rfl : k = m := by omega
      go_wp2
      go_ret
      exact ⟨w.heap.size, rfl, Arr.of_blk HB1.out HJ.out, HG.out⟩
/-- The check of one file. -/
def ChkPost (σ : TS) (i : Nat) (w : World) (e : Ending) (w' : World) : Prop := e = .returned (.tuple #[.bool (decide (σ.par i ≠ INV)), .int .u32 (σ.par i : Int), .int .u32 (σ.dep i : Int)]) ∧ w.grownBy w' none
end Go.Proofs.YtnekmljdipkepaaGreat
