/- The map of default loaders (written by mkomp.py). -/
import Derived.Test.YtjellcldojmpcaaOpt
import Derived.Maps.OwnSet
import Derived.Maps.Views
import Derived.Carry
namespace Go.Proofs.Ytjellcldojmpcaa
open Go.RowKit Go.Maps Go.WideMaps
set_option linter.unusedVariables false
set_option linter.unusedSimpArgs false

theorem law9 : Keyed Try.prog 9 := string_keyed Try.underlying9
theorem zeroL (w : World) : (zeroValue 83).run Try.prog w = .ok (.int .u8 0) w := by kernel_rfl
abbrev MapIs (w : World) (b n : Nat) (D : DataW Unit) : Prop := w.ownsMap (H := Unit) Try.prog 9 (plainElem Try.prog 83) b n D
def kvs : List (List UInt8 × Int) := [([], 10), ([46, 106, 115], 10), ([46, 109, 106, 115], 10), ([46, 99, 106, 115], 10), ([46, 106, 115, 120], 13), ([46, 116, 115], 16), ([46, 99, 116, 115], 17), ([46, 109, 116, 115], 17), ([46, 116, 115, 120], 18), ([46, 99, 115, 115], 4), ([46, 109, 111, 100, 117, 108, 101, 46, 99, 115, 115], 14), ([46, 106, 115, 111, 110], 11), ([46, 116, 120, 116], 15)]
def kb (i : Nat) : ByteArray := ⟨((kvs.getD i ([], 0)).1).toArray⟩
def kv (i : Nat) : Int := (kvs.getD i ([], 0)).2
def putS (D : DataW Unit) (x : List UInt8 × Int) : DataW Unit := D.put (.string x.1) (.lit (.int .u8 x.2))
def D13 : DataW Unit := kvs.foldl putS (.map [])
theorem d13_size : Maps.size D13 = 13 := by kernel_rfl
theorem h13_0 : has D13 (.string (kb 0).data.toList) = true := by kernel_rfl
theorem a13_0 : D13.atKey (.string (kb 0).data.toList) (.lit (.int .u8 0)) = .lit (.int .u8 (kv 0)) := by kernel_rfl
theorem h13_1 : has D13 (.string (kb 1).data.toList) = true := by kernel_rfl
theorem a13_1 : D13.atKey (.string (kb 1).data.toList) (.lit (.int .u8 0)) = .lit (.int .u8 (kv 1)) := by kernel_rfl
theorem h13_2 : has D13 (.string (kb 2).data.toList) = true := by kernel_rfl
theorem a13_2 : D13.atKey (.string (kb 2).data.toList) (.lit (.int .u8 0)) = .lit (.int .u8 (kv 2)) := by kernel_rfl
theorem h13_3 : has D13 (.string (kb 3).data.toList) = true := by kernel_rfl
theorem a13_3 : D13.atKey (.string (kb 3).data.toList) (.lit (.int .u8 0)) = .lit (.int .u8 (kv 3)) := by kernel_rfl
theorem h13_4 : has D13 (.string (kb 4).data.toList) = true := by kernel_rfl
theorem a13_4 : D13.atKey (.string (kb 4).data.toList) (.lit (.int .u8 0)) = .lit (.int .u8 (kv 4)) := by kernel_rfl
theorem h13_5 : has D13 (.string (kb 5).data.toList) = true := by kernel_rfl
theorem a13_5 : D13.atKey (.string (kb 5).data.toList) (.lit (.int .u8 0)) = .lit (.int .u8 (kv 5)) := by kernel_rfl
theorem h13_6 : has D13 (.string (kb 6).data.toList) = true := by kernel_rfl
theorem a13_6 : D13.atKey (.string (kb 6).data.toList) (.lit (.int .u8 0)) = .lit (.int .u8 (kv 6)) := by kernel_rfl
theorem h13_7 : has D13 (.string (kb 7).data.toList) = true := by kernel_rfl
theorem a13_7 : D13.atKey (.string (kb 7).data.toList) (.lit (.int .u8 0)) = .lit (.int .u8 (kv 7)) := by kernel_rfl
theorem h13_8 : has D13 (.string (kb 8).data.toList) = true := by kernel_rfl
theorem a13_8 : D13.atKey (.string (kb 8).data.toList) (.lit (.int .u8 0)) = .lit (.int .u8 (kv 8)) := by kernel_rfl
theorem h13_9 : has D13 (.string (kb 9).data.toList) = true := by kernel_rfl
theorem a13_9 : D13.atKey (.string (kb 9).data.toList) (.lit (.int .u8 0)) = .lit (.int .u8 (kv 9)) := by kernel_rfl
theorem h13_10 : has D13 (.string (kb 10).data.toList) = true := by kernel_rfl
theorem a13_10 : D13.atKey (.string (kb 10).data.toList) (.lit (.int .u8 0)) = .lit (.int .u8 (kv 10)) := by kernel_rfl
theorem h13_11 : has D13 (.string (kb 11).data.toList) = true := by kernel_rfl
theorem a13_11 : D13.atKey (.string (kb 11).data.toList) (.lit (.int .u8 0)) = .lit (.int .u8 (kv 11)) := by kernel_rfl
theorem h13_12 : has D13 (.string (kb 12).data.toList) = true := by kernel_rfl
theorem a13_12 : D13.atKey (.string (kb 12).data.toList) (.lit (.int .u8 0)) = .lit (.int .u8 (kv 12)) := by kernel_rfl
theorem d13_has (i : Nat) (hi : i < 13) : has D13 (.string (kb i).data.toList) = true := by
  have h : i = 0 ∨ i = 1 ∨ i = 2 ∨ i = 3 ∨ i = 4 ∨ i = 5 ∨ i = 6 ∨ i = 7 ∨ i = 8 ∨ i = 9 ∨ i = 10 ∨ i = 11 ∨ i = 12 := by omega
  rcases h with rfl | rfl | rfl | rfl | rfl | rfl | rfl | rfl | rfl | rfl | rfl | rfl | rfl
  · exact h13_0
  · exact h13_1
  · exact h13_2
  · exact h13_3
  · exact h13_4
  · exact h13_5
  · exact h13_6
  · exact h13_7
  · exact h13_8
  · exact h13_9
  · exact h13_10
  · exact h13_11
  · exact h13_12
theorem d13_at (i : Nat) (hi : i < 13) : D13.atKey (.string (kb i).data.toList) (.lit (.int .u8 0)) = .lit (.int .u8 (kv i)) := by
  have h : i = 0 ∨ i = 1 ∨ i = 2 ∨ i = 3 ∨ i = 4 ∨ i = 5 ∨ i = 6 ∨ i = 7 ∨ i = 8 ∨ i = 9 ∨ i = 10 ∨ i = 11 ∨ i = 12 := by omega
  rcases h with rfl | rfl | rfl | rfl | rfl | rfl | rfl | rfl | rfl | rfl | rfl | rfl | rfl
  · exact a13_0
  · exact a13_1
  · exact a13_2
  · exact a13_3
  · exact a13_4
  · exact a13_5
  · exact a13_6
  · exact a13_7
  · exact a13_8
  · exact a13_9
  · exact a13_10
  · exact a13_11
  · exact a13_12
/-- What a map answers to a key, as a pair. -/
def answer (D : DataW Unit) (k : ByteArray) (v : Int) : Prop := D.atKey (.string k.data.toList) (.lit (.int .u8 0)) = .lit (.int .u8 v)
theorem mp_look {w : World} {b n : Nat} {D : DataW Unit} (h : MapIs w b n D) (k : ByteArray) (hk : k.size ≤ maxLen) :
    ∃ v : Int, (Instr.lookup 46 (.map (some b)) (.string k) true).run Try.prog w = .ok (.tuple #[.int .u8 v, .bool (has D (.string k.data.toList))]) w ∧ answer D k v := by
  obtain ⟨x, ps, hrun, hx⟩ := h.look_ok law9 Try.underlying46 (zeroL w) (plainElem_int Try.underlying83 (by decide)) (keyOf_string_mk Try.underlying9 hk)
  obtain ⟨a, rfl, hz, hwf⟩ := plainElem_int_inv Try.underlying83 hx
  exact ⟨a, hrun, congrArg Prod.fst hz⟩
theorem answer_uniq {D : DataW Unit} {k : ByteArray} {v v' : Int} (h : answer D k v) (h' : answer D k v') : v = v' := by
  unfold answer at h h'
  rw [h] at h'
  injection h' with h2
  injection h2
theorem mp_put {w : World} {b n : Nat} {D : DataW Unit} (h : MapIs w b n D) (hn : n < maxLen) (k : ByteArray) (hk : k.size ≤ maxLen) (v : Int) (hv : (Lit.int .u8 v).wf = true) :
    ∃ w', (Instr.mapUpdate 46 (.map (some b)) (.string k) (.int .u8 v)).run Try.prog w = .ok () w' ∧ MapIs w' b (n + 1) (D.put (.string k.data.toList) (.lit (.int .u8 v))) ∧ w.grownBy w' (some b) :=
  h.update law9 Try.underlying46 hn (keyOf_string_mk Try.underlying9 hk) (plainElem_int Try.underlying83 hv)
theorem new_grown {w w1 w2 : World} {g : Nat} (h : w.grownBy w1 none) (hg : w1.grownBy w2 (some g)) (hb : w.heap.size ≤ g) : w.grownBy w2 none :=
  ⟨hg.os.trans h.os, hg.tape.trans h.tape, hg.output.trans h.output, Nat.le_trans h.size hg.size, fun i hi hne => (hg.block i (Nat.lt_of_lt_of_le hi h.size) (by intro e; injection e with e; omega)).trans (h.block i hi hne)⟩
def DmPost (w : World) (e : Ending) (w' : World) : Prop := ∃ g, e = .returned (.map (some g)) ∧ w.heap.size ≤ g ∧ MapIs w' g 13 D13 ∧ w.grownBy w' none
set_option maxHeartbeats 2000000 in
set_option maxRecDepth 100000 in
theorem dm_any (w : World) : Calls Try.prog 18 #[] w (DmPost w) := by
  have hg0 : w.grownBy (w.alloc (.map #[] 0)) none := World.grownBy_alloc _ _ _
  have o0 : MapIs (w.alloc (.map #[] 0)) w.heap.size 0 (.map []) := World.ownsMap_made _ _ _ _
  have HG0 := Lib.hid hg0; have O0 := Lib.hid o0
  clear hg0 o0
  obtain ⟨w1, r1, o1, g1⟩ := mp_put O0.out (by decide) ⟨#[]⟩ (by decide) 10 (by decide)
  have O1 := Lib.hid o1; have HG1 := Lib.hid (new_grown HG0.out g1 (Nat.le_refl _))
  clear o1 g1
  obtain ⟨w2, r2, o2, g2⟩ := mp_put O1.out (by decide) ⟨#[46, 106, 115]⟩ (by decide) 10 (by decide)
  have O2 := Lib.hid o2; have HG2 := Lib.hid (new_grown HG1.out g2 (Nat.le_refl _))
  clear o2 g2
  obtain ⟨w3, r3, o3, g3⟩ := mp_put O2.out (by decide) ⟨#[46, 109, 106, 115]⟩ (by decide) 10 (by decide)
  have O3 := Lib.hid o3; have HG3 := Lib.hid (new_grown HG2.out g3 (Nat.le_refl _))
  clear o3 g3
  obtain ⟨w4, r4, o4, g4⟩ := mp_put O3.out (by decide) ⟨#[46, 99, 106, 115]⟩ (by decide) 10 (by decide)
  have O4 := Lib.hid o4; have HG4 := Lib.hid (new_grown HG3.out g4 (Nat.le_refl _))
  clear o4 g4
  obtain ⟨w5, r5, o5, g5⟩ := mp_put O4.out (by decide) ⟨#[46, 106, 115, 120]⟩ (by decide) 13 (by decide)
  have O5 := Lib.hid o5; have HG5 := Lib.hid (new_grown HG4.out g5 (Nat.le_refl _))
  clear o5 g5
  obtain ⟨w6, r6, o6, g6⟩ := mp_put O5.out (by decide) ⟨#[46, 116, 115]⟩ (by decide) 16 (by decide)
  have O6 := Lib.hid o6; have HG6 := Lib.hid (new_grown HG5.out g6 (Nat.le_refl _))
  clear o6 g6
  obtain ⟨w7, r7, o7, g7⟩ := mp_put O6.out (by decide) ⟨#[46, 99, 116, 115]⟩ (by decide) 17 (by decide)
  have O7 := Lib.hid o7; have HG7 := Lib.hid (new_grown HG6.out g7 (Nat.le_refl _))
  clear o7 g7
  obtain ⟨w8, r8, o8, g8⟩ := mp_put O7.out (by decide) ⟨#[46, 109, 116, 115]⟩ (by decide) 17 (by decide)
  have O8 := Lib.hid o8; have HG8 := Lib.hid (new_grown HG7.out g8 (Nat.le_refl _))
  clear o8 g8
  obtain ⟨w9, r9, o9, g9⟩ := mp_put O8.out (by decide) ⟨#[46, 116, 115, 120]⟩ (by decide) 18 (by decide)
  have O9 := Lib.hid o9; have HG9 := Lib.hid (new_grown HG8.out g9 (Nat.le_refl _))
  clear o9 g9
  obtain ⟨w10, r10, o10, g10⟩ := mp_put O9.out (by decide) ⟨#[46, 99, 115, 115]⟩ (by decide) 4 (by decide)
  have O10 := Lib.hid o10; have HG10 := Lib.hid (new_grown HG9.out g10 (Nat.le_refl _))
  clear o10 g10
  obtain ⟨w11, r11, o11, g11⟩ := mp_put O10.out (by decide) ⟨#[46, 109, 111, 100, 117, 108, 101, 46, 99, 115, 115]⟩ (by decide) 14 (by decide)
  have O11 := Lib.hid o11; have HG11 := Lib.hid (new_grown HG10.out g11 (Nat.le_refl _))
  clear o11 g11
  obtain ⟨w12, r12, o12, g12⟩ := mp_put O11.out (by decide) ⟨#[46, 106, 115, 111, 110]⟩ (by decide) 11 (by decide)
  have O12 := Lib.hid o12; have HG12 := Lib.hid (new_grown HG11.out g12 (Nat.le_refl _))
  clear o12 g12
  obtain ⟨w13, r13, o13, g13⟩ := mp_put O12.out (by decide) ⟨#[46, 116, 120, 116]⟩ (by decide) 15 (by decide)
  have O13 := Lib.hid o13; have HG13 := Lib.hid (new_grown HG12.out g13 (Nat.le_refl _))
  clear o13 g13
  have hmm := @run_makeMap Try.prog
  go_enter Try.func18, Try.ntmps18
  go_wp2
  go_ret
  exact ⟨_, rfl, Nat.le_refl _, O13.out, HG13.out⟩
set_option maxRecDepth 100000 in
theorem key_any (i : Nat) (hi : i < 13) (w : World) : Calls Try.prog 8 #[.int .i64 i] w fun e w' => e = .returned (.string (kb i)) ∧ w = w' := by
  have h : i = 0 ∨ i = 1 ∨ i = 2 ∨ i = 3 ∨ i = 4 ∨ i = 5 ∨ i = 6 ∨ i = 7 ∨ i = 8 ∨ i = 9 ∨ i = 10 ∨ i = 11 ∨ i = 12 := by omega
  rcases h with rfl | rfl | rfl | rfl | rfl | rfl | rfl | rfl | rfl | rfl | rfl | rfl | rfl
  all_goals
    go_enter Try.func8, Try.ntmps8
    go_wp2
    go_ret
    exact ⟨rfl, rfl⟩
set_option maxHeartbeats 2000000 in
set_option maxRecDepth 100000 in
theorem ldr_any (i : Nat) (hi : i < 13) (w : World) : Calls Try.prog 17 #[.string (kb i)] w fun e w' => e = .returned (.tuple #[.int .u8 (kv i), .bool true]) ∧ w = w' := by
  have h : i = 0 ∨ i = 1 ∨ i = 2 ∨ i = 3 ∨ i = 4 ∨ i = 5 ∨ i = 6 ∨ i = 7 ∨ i = 8 ∨ i = 9 ∨ i = 10 ∨ i = 11 ∨ i = 12 := by omega
  rcases h with rfl | rfl | rfl | rfl | rfl | rfl | rfl | rfl | rfl | rfl | rfl | rfl | rfl
  · rw [show kb 0 = ⟨#[]⟩ from rfl]
    go_enter Try.func17, Try.ntmps17
    go_wp2
    go_ret2
    exact ⟨rfl, rfl⟩
  · rw [show kb 1 = ⟨#[46, 106, 115]⟩ from rfl]
    go_enter Try.func17, Try.ntmps17
    go_wp2
    go_ret2
    exact ⟨rfl, rfl⟩
  · rw [show kb 2 = ⟨#[46, 109, 106, 115]⟩ from rfl]
    go_enter Try.func17, Try.ntmps17
    go_wp2
    go_ret2
    exact ⟨rfl, rfl⟩
  · rw [show kb 3 = ⟨#[46, 99, 106, 115]⟩ from rfl]
    go_enter Try.func17, Try.ntmps17
    go_wp2
    go_ret2
    exact ⟨rfl, rfl⟩
  · rw [show kb 4 = ⟨#[46, 106, 115, 120]⟩ from rfl]
    go_enter Try.func17, Try.ntmps17
    go_wp2
    go_ret2
    exact ⟨rfl, rfl⟩
  · rw [show kb 5 = ⟨#[46, 116, 115]⟩ from rfl]
    go_enter Try.func17, Try.ntmps17
    go_wp2
    go_ret2
    exact ⟨rfl, rfl⟩
  · rw [show kb 6 = ⟨#[46, 99, 116, 115]⟩ from rfl]
    go_enter Try.func17, Try.ntmps17
    go_wp2
    go_ret2
    exact ⟨rfl, rfl⟩
  · rw [show kb 7 = ⟨#[46, 109, 116, 115]⟩ from rfl]
    go_enter Try.func17, Try.ntmps17
    go_wp2
    go_ret2
    exact ⟨rfl, rfl⟩
  · rw [show kb 8 = ⟨#[46, 116, 115, 120]⟩ from rfl]
    go_enter Try.func17, Try.ntmps17
    go_wp2
    go_ret2
    exact ⟨rfl, rfl⟩
  · rw [show kb 9 = ⟨#[46, 99, 115, 115]⟩ from rfl]
    go_enter Try.func17, Try.ntmps17
    go_wp2
    go_ret2
    exact ⟨rfl, rfl⟩
  · rw [show kb 10 = ⟨#[46, 109, 111, 100, 117, 108, 101, 46, 99, 115, 115]⟩ from rfl]
    go_enter Try.func17, Try.ntmps17
    go_wp2
    go_ret2
    exact ⟨rfl, rfl⟩
  · rw [show kb 11 = ⟨#[46, 106, 115, 111, 110]⟩ from rfl]
    go_enter Try.func17, Try.ntmps17
    go_wp2
    go_ret2
    exact ⟨rfl, rfl⟩
  · rw [show kb 12 = ⟨#[46, 116, 120, 116]⟩ from rfl]
    go_enter Try.func17, Try.ntmps17
    go_wp2
    go_ret2
    exact ⟨rfl, rfl⟩
end Go.Proofs.Ytjellcldojmpcaa
