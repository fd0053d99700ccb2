/-
  PROVED: printWithEscape appends the encoding of c with no escape, a backslash and that encoding under the backslash escape, and nothing under any other kind but hex.
-/
import Derived.Test.YthpbnnlmmljcoaaFmtRows
import Derived.Test.YthpbnnlmmljcoaaFmtCards
import Derived.WalkKit
import Derived.ProofKit
import Derived.Outline
import Derived.LoopTactic
import Derived.WalkSpells
import Derived.Deep.Light
import Derived.Test.YthpbnnlmmljcoaaFmtEs5
import Derived.OpenShut
import Derived.ShutString
import Derived.ChangeOld
import Derived.Below
import Derived.Carry
import Derived.Stop.JoinedAt
import Derived.Stop.Texts
import Derived.Stop.JoinedTold
import Derived.SevenToldRow
namespace Go.Proofs.YthpbnnlmmljcoaaFmt.fnPrintWithEscapeCaseTable
open Go.ChangeShapes Go.WideShapes Go.ChangeAt Go.RowKit
open Go.ChangeMaps (open_string shut_string)
open Go.Extern.Stop Go.Stop Go.Extern
set_option linter.unusedVariables false
set_option linter.unusedSimpArgs false

theorem own : ownKnob Tryf.prog.godebug = none := by kernel_rfl
theorem laidOut : laidOutB Tryf.pinned.checked.prog = true := by kernel_rfl

/-- What the walk is told of a slice of integers that came in. -/
def IsRow (k : IntKind) (w : World) (a : Option Addr) (len cap : Nat) (zs : List Int) : Prop :=
  (a = none ∧ len = 0 ∧ cap = 0 ∧ zs = []) ∨
  ∃ x, a = some x ∧ len ≤ cap ∧ cap ≤ maxLen ∧ zs.length = cap ∧ (∀ i, i < zs.length → w.cell? (x.add i) = some (.int k (zs.getD i 0))) ∧ ∀ n ∈ zs, (Lit.int k n).wf = true
theorem isrow_reads {k : IntKind} {w : World} {a : Option Addr} {len cap : Nat} {zs : List Int} (h : IsRow k w a len cap zs) : Reads w w.heap.size 1 a len ((zs.take len).map (Value.int k)) ∧ (a = none → len = 0) ∧ len ≤ maxLen := by
  rcases h with ⟨rfl, rfl, rfl, rfl⟩ | ⟨x, rfl, hl, hm, hz, hc, _⟩
  · exact ⟨Reads.none_, fun _ => rfl, by unfold maxLen; omega⟩
  · refine ⟨⟨by simp; omega, fun hn => ⟨x, rfl, ?_, fun j u hu => ?_⟩⟩, (fun h => by cases h), by omega⟩
    · have := hc 0 (by omega)
      exact World.block_lt_of_cell? w x (by simpa [Addr.add] using this)
    · have hj : j < len := by
        have := (List.getElem?_eq_some_iff.1 hu).1
        simp at this; omega
      rw [hc j (by omega)]
      rw [List.getElem?_map, List.getElem?_take_of_lt hj, List.getElem?_eq_getElem (by omega)] at hu
      rw [List.getD_eq_getElem?_getD, List.getElem?_eq_getElem (by omega)]
      exact hu



set_option maxRecDepth 100000 in
theorem zb (A : Option Addr) (n c : Nat) (x k : Int) (s : ByteArray) (b : Bool) (w : World) (hn : n ≤ maxLen) (hm : s.size ≤ maxLen) :
    Calls Tryf.prog 13 #[.slice A n c, .int .i32 x, .int .u8 k, .string s, .bool b] w fun e w' => e = .returned (.bool (decide (n + s.size ≤ 1048576))) ∧ w = w' := by
  unfold maxLen at hn hm
  by_cases h1 : 1048576 < n
  · go_enter Tryf.func13, Tryf.ntmps13
    go_wp2
    go_ret
    exact ⟨ret_bool (by symm; simp; omega), rfl⟩
  · by_cases h2 : n + s.size ≤ 1048576
    · go_enter Tryf.func13, Tryf.ntmps13
      go_wp2
      go_ret
      exact ⟨ret_bool (by symm; simpa using h2), rfl⟩
    · by_cases h3 : 1048576 < s.size
      · go_enter Tryf.func13, Tryf.ntmps13
        go_wp2
        go_ret
        exact ⟨ret_bool (by symm; simp; omega), rfl⟩
      · go_enter Tryf.func13, Tryf.ntmps13
        go_wp2
        go_ret
        exact ⟨ret_bool (by symm; simp; omega), rfl⟩
theorem rune_ints (c : Int) : Lib.runeCells c = (Lib.encodeRuneZ c).map (Value.int .u8) := rfl
/-! ### STEP 1: THE WALK -/
set_option maxHeartbeats 2000000 in
set_option maxRecDepth 100000 in
theorem walk (a0 : Option Addr) (len0 cap0 : Nat) (z0 : List Int) (a1 : Int) (a2 : Int) (a3 : ByteArray) (a4 : Bool) (w : World) (w0 : IsRow .u8 w a0 len0 cap0 z0) (w1 : (Lit.int .i32 a1).wf = true) (w2 : (Lit.int .u8 a2).wf = true) (w3 : a3.size ≤ maxLen)  :
    Calls Tryf.prog 4 #[.slice a0 len0 cap0, .int .i32 a1, .int .u8 a2, .string a3, .bool a4] w fun e w' => e = .returned (.bool true) ∧ Below w.heap.size w w' := by
  simp [Lit.wf, IntKind.min, IntKind.max, IntKind.signed, IntKind.bits] at w1 w2
  obtain ⟨hlo, hhi⟩ := w1
  obtain ⟨i0, hi, hz0, hz1, hz2⟩ := info_parts u8I
  obtain ⟨hr, hA, hln⟩ := isrow_reads w0
  obtain ⟨X, hX⟩ : ∃ X, X = z0.take len0 := ⟨_, rfl⟩
  rw [← hX] at hr
  have HX := Lib.hid (show X.length = len0 by have := hr.1; simpa using this)
  have HR := Lib.hid hr; have HA := Lib.hid hA; have HLN := Lib.hid hln; have HW3 := Lib.hid w3
  have HLE := Lib.hid (Lib.encodeRuneZ_length a1)
  clear hr hX w0 hA w3
  unfold maxLen at hln
  have hw3 : a3.size ≤ 9223372036854775807 := by have := HW3.out; unfold maxLen at this; omega
  by_cases hbig : len0 + a3.size ≤ 1048576
  case neg =>
    have HB := Lib.hid (show decide (len0 + a3.size ≤ 1048576) = false by simpa using hbig)
    go_enter Tryf.func4, Tryf.ntmps4
    go_wp2_with (go_at_call 13; refine (zb a0 len0 cap0 a1 a2 a3 a4 _ HLN.out HW3.out).mono ?_; rw [HB.out]; rintro e wz ⟨rfl, rfl⟩)
    go_ret
    exact ⟨rfl, Below.refl _ _⟩
  have HB := Lib.hid (show decide (len0 + a3.size ≤ 1048576) = true by simpa using hbig)
  by_cases h2 : a2 = 2
  · subst h2
    go_enter Tryf.func4, Tryf.ntmps4
    go_wp2_with (go_at_call 13; refine (zb a0 len0 cap0 a1 2 a3 a4 _ HLN.out HW3.out).mono ?_; rw [HB.out]; rintro e wz ⟨rfl, rfl⟩)
    go_ret
    exact ⟨rfl, Below.refl _ _⟩
  by_cases h0 : a2 = 0
  · subst h0
    clear h2
    go_enter Tryf.func4, Tryf.ntmps4
    go_wp2_with (go_at_call 13; refine (zb a0 len0 cap0 a1 0 a3 a4 _ HLN.out HW3.out).mono ?_; rw [HB.out]; rintro e wz ⟨rfl, rfl⟩)
    go_wp2_with (go_at_call 9; refine (copyRow a0 len0 cap0 X w HR.out (by omega) HA.out).mono ?_)
    rintro e w1 ⟨A1, n1, c1, rfl, hl1, ho1, hb1⟩
    have O1w := Lib.hid ho1; have L1 := Lib.hid hl1; have B1 := Lib.hid hb1
    have hn1 : n1 ≤ 1048576 := by have := HX.out; simp at hl1; omega
    have R1 : Hid (Reads w1 w1.heap.size 1 A1 n1 (X.map (Value.int .u8))) := Lib.hid (Reads.of_own ho1)
    have HA1 : Hid (A1 = none → n1 = 0) := Lib.hid (fun h => by
      rcases ho1.2 with ⟨hv, h0⟩ | ⟨g, cap, cur, hv, _⟩
      · exact h0
      · injection hv with a; rw [h] at a; cases a)
    clear hl1 ho1 hb1
    go_wp2_with (go_at_call 9; refine (copyRow A1 n1 c1 X w1 R1.out (by omega) HA1.out).mono ?_)
    rintro e w2 ⟨A2, n2, c2, rfl, hl2, ho2, hb2⟩
    have O2 := Lib.hid ho2; have L2 := Lib.hid hl2; have B2 := Lib.hid hb2
    have hn2 : n2 ≤ 1048576 := by have := HX.out; simp at hl2; omega
    have HSA : Hid (∀ o, w1.heap.size ≤ (w2.alloc o).heap.size) := Lib.hid (fun o => by have := hb2.size; simp; omega)
    clear hl2 ho2 hb2
    go_wp2_with (go_at_call 15; refine (enc_any w1.heap.size A2 n2 c2 (X.map (Value.int .u8)) a1 hlo hhi w2 O2.out B2.out.size (by omega)).mono ?_)
    rintro e w3 ⟨A3, n3, c3, rfl, hl3, ho3, hb3'⟩
    have hb3 := B2.out.trans hb3'
    clear hb3'
    have H13 := Lib.hid hb3
    have O1 : Hid (w3.ownsRow w.heap.size 5 1 (.slice A1 n1 c1) n1 (X.map (Value.int .u8))) := Lib.hid (own_below O1w.out hb3)
    have O3 : Hid (w3.ownsRow w1.heap.size 5 1 (.slice A3 n3 c3) n3 ((X ++ Lib.encodeRuneZ a1).map (Value.int .u8))) := Lib.hid (by simpa [rune_ints] using ho3)
    have L3 : Hid (((X ++ Lib.encodeRuneZ a1).map (Value.int .u8)).length = n3) := Lib.hid (by simpa [rune_ints] using hl3)
    have B3 := Lib.hid (B1.out.trans (hb3.mono B1.out.size))
    have SEP : Hid (∀ g, rb A3 = some g → rb A1 ≠ some g) := Lib.hid (fun g h3 h1 => by
      have q3 := (O3.out.lt g (by rw [ownBlock_slice]; exact h3)).1
      have q1 := (O1w.out.lt g (by rw [ownBlock_slice]; exact h1)).2
      omega)
    clear hl3 ho3 hb3
    go_wp2_with (go_at_call 16; refine (zzesc_any w.heap.size A1 n1 c1 (X.map (Value.int .u8)) (X.map (Value.int .u8) ++ Lib.runeCells a1) a1 0 a3 a4 w3 O1.out L1.out (Nat.le_trans B1.out.size H13.out.size) (fun W K h hB => esc_none a1 hlo hhi a3 a4 W h hB n1 L1.out (by omega))).mono ?_)
    rintro e w4 ⟨hp4, hg4⟩

    obtain ⟨A4, n4, c4, rfl, hl4, ho4, hb4⟩ := hp4
    have R4 : Hid (Reads w4 w4.heap.size 1 A4 n4 ((X ++ Lib.encodeRuneZ a1).map (Value.int .u8))) := Lib.hid (by have := Reads.of_own ho4; simpa [rune_ints] using this)
    have R3 : Hid (Reads w4 w4.heap.size 1 A3 n3 ((X ++ Lib.encodeRuneZ a1).map (Value.int .u8))) := Lib.hid (by
      have hh := own_kept O3.out (w' := w4) (fun g hg hlt => hg4.block g hlt (fun e => SEP.out g hg e.symm))
      have := Reads.of_own hh; simpa using this)
    have B4 := Lib.hid (B3.out.trans hb4)
    have hn3 : n3 ≤ 16777216 := by have := L3.out; simp at this; have := HLE.out; have := HX.out; omega
    have hn4 : n4 ≤ 16777216 := by simp [rune_ints] at hl4; have := HLE.out; have := HX.out; omega
    clear hl4 ho4 hb4 hg4
    go_wp2_with (go_at_call 12; refine (eq_any A4 n4 c4 (X ++ Lib.encodeRuneZ a1) A3 n3 c3 (X ++ Lib.encodeRuneZ a1) w4 R4.out R3.out (by omega) (by omega)).mono ?_)
    rintro e w5 rfl hb5
    have B5 := Lib.hid (B4.out.trans (hb5.mono B4.out.size))
    clear hb5
    go_wp2
    go_ret
    exact ⟨rfl, B5.out⟩
  by_cases h1 : a2 = 1
  · subst h1
    clear h2 h0
    by_cases hx : isHex a1 = true
    · have HHX := Lib.hid hx
      clear hx
      go_enter Tryf.func4, Tryf.ntmps4
      go_wp2_with (first | (go_at_call 13; refine (zb a0 len0 cap0 a1 1 a3 a4 _ HLN.out HW3.out).mono ?_; rw [HB.out]; rintro e wz ⟨rfl, rfl⟩) | (go_at_call 14; refine (hexd_any a1 _).mono ?_; rw [HHX.out]; rintro e wz ⟨rfl, rfl⟩))
      go_ret
      exact ⟨rfl, Below.refl _ _⟩
    have HHX := Lib.hid (show isHex a1 = false by simpa using hx)
    clear hx
    go_enter Tryf.func4, Tryf.ntmps4
    go_wp2_with (first | (go_at_call 13; refine (zb a0 len0 cap0 a1 1 a3 a4 _ HLN.out HW3.out).mono ?_; rw [HB.out]; rintro e wz ⟨rfl, rfl⟩) | (go_at_call 14; refine (hexd_any a1 _).mono ?_; rw [HHX.out]; rintro e wz ⟨rfl, rfl⟩))
    go_wp2_with (go_at_call 9; refine (copyRow a0 len0 cap0 X w HR.out (by omega) HA.out).mono ?_)
    rintro e w1 ⟨A1, n1, c1, rfl, hl1, ho1, hb1⟩
    have O1w := Lib.hid ho1; have L1 := Lib.hid hl1; have B1 := Lib.hid hb1
    have hn1 : n1 ≤ 1048576 := by have := HX.out; simp at hl1; omega
    have R1 : Hid (Reads w1 w1.heap.size 1 A1 n1 (X.map (Value.int .u8))) := Lib.hid (Reads.of_own ho1)
    have HA1 : Hid (A1 = none → n1 = 0) := Lib.hid (fun h => by
      rcases ho1.2 with ⟨hv, h0⟩ | ⟨g, cap, cur, hv, _⟩
      · exact h0
      · injection hv with a; rw [h] at a; cases a)
    clear hl1 ho1 hb1
    go_wp2_with (go_at_call 9; refine (copyRow A1 n1 c1 X w1 R1.out (by omega) HA1.out).mono ?_)
    rintro e w2 ⟨A2, n2, c2, rfl, hl2, ho2, hb2⟩
    have O2 := Lib.hid ho2; have L2 := Lib.hid hl2; have B2 := Lib.hid hb2
    have hn2 : n2 ≤ 1048576 := by have := HX.out; simp at hl2; omega
    have HSA : Hid (∀ o, w1.heap.size ≤ (w2.alloc o).heap.size) := Lib.hid (fun o => by have := hb2.size; simp; omega)
    clear hl2 ho2 hb2
    go_wp2_with (at_builtin; refine wpList_append_own_src _ rfl (.tmp 50) (.tmp 51) 22 22 rfl w1.heap.size 5 i0 (.int .u8 0) 1 1 Tryf.underlying22 hi hz0 hz1 hz2 rfl _ _ _ rfl (O2.out.alloc _) _ 1 [.int .u8 92] rfl (srcOne w2 (.int .u8 92) rfl) (by unfold maxLen; omega) (by omega) (HSA.out _) ?_)
    intro v2 w2' hown2 hgrow2 _
    have hb2' : Below w1.heap.size w1 w2' := (B2.out.alloc (B2.out.size) _).grown hgrow2 (HSA.out _) (fun k hk => (O2.out.lt k hk).1)
    obtain ⟨A2', c2', hv2⟩ := own_slice hown2
    have O2' := Lib.hid hown2; have B2' := Lib.hid hb2'
    subst hv2
    clear hown2 hb2' hgrow2
    go_wp2_with (go_at_call 15; refine (enc_any w1.heap.size A2' (n2 + 1) c2' (X.map (Value.int .u8) ++ [.int .u8 92]) a1 hlo hhi w2' O2'.out B2'.out.size (by omega)).mono ?_)
    rintro e w3 ⟨A3, n3, c3, rfl, hl3, ho3, hb3'⟩
    have hb3 := B2'.out.trans hb3'
    clear hb3'
    have H13 := Lib.hid hb3
    have O1 : Hid (w3.ownsRow w.heap.size 5 1 (.slice A1 n1 c1) n1 (X.map (Value.int .u8))) := Lib.hid (own_below O1w.out hb3)
    have O3 : Hid (w3.ownsRow w1.heap.size 5 1 (.slice A3 n3 c3) n3 ((X ++ [92] ++ Lib.encodeRuneZ a1).map (Value.int .u8))) := Lib.hid (by simpa [rune_ints] using ho3)
    have L3 : Hid (((X ++ [92] ++ Lib.encodeRuneZ a1).map (Value.int .u8)).length = n3) := Lib.hid (by simpa [rune_ints] using hl3)
    have B3 := Lib.hid (B1.out.trans (hb3.mono B1.out.size))
    have SEP : Hid (∀ g, rb A3 = some g → rb A1 ≠ some g) := Lib.hid (fun g h3 h1 => by
      have q3 := (O3.out.lt g (by rw [ownBlock_slice]; exact h3)).1
      have q1 := (O1w.out.lt g (by rw [ownBlock_slice]; exact h1)).2
      omega)
    clear hl3 ho3 hb3
    go_wp2_with (go_at_call 16; refine (zzesc_any w.heap.size A1 n1 c1 (X.map (Value.int .u8)) (X.map (Value.int .u8) ++ [.int .u8 92] ++ Lib.runeCells a1) a1 1 a3 a4 w3 O1.out L1.out (Nat.le_trans B1.out.size H13.out.size) (fun W K h hB => esc_bs a1 hlo hhi HHX.out a3 a4 W h hB n1 L1.out (by omega))).mono ?_)
    rintro e w4 ⟨hp4, hg4⟩

    obtain ⟨A4, n4, c4, rfl, hl4, ho4, hb4⟩ := hp4
    have R4 : Hid (Reads w4 w4.heap.size 1 A4 n4 ((X ++ [92] ++ Lib.encodeRuneZ a1).map (Value.int .u8))) := Lib.hid (by have := Reads.of_own ho4; simpa [rune_ints] using this)
    have R3 : Hid (Reads w4 w4.heap.size 1 A3 n3 ((X ++ [92] ++ Lib.encodeRuneZ a1).map (Value.int .u8))) := Lib.hid (by
      have hh := own_kept O3.out (w' := w4) (fun g hg hlt => hg4.block g hlt (fun e => SEP.out g hg e.symm))
      have := Reads.of_own hh; simpa using this)
    have B4 := Lib.hid (B3.out.trans hb4)
    have hn3 : n3 ≤ 16777216 := by have := L3.out; simp at this; have := HLE.out; have := HX.out; omega
    have hn4 : n4 ≤ 16777216 := by simp [rune_ints] at hl4; have := HLE.out; have := HX.out; omega
    clear hl4 ho4 hb4 hg4
    go_wp2_with (go_at_call 12; refine (eq_any A4 n4 c4 (X ++ [92] ++ Lib.encodeRuneZ a1) A3 n3 c3 (X ++ [92] ++ Lib.encodeRuneZ a1) w4 R4.out R3.out (by omega) (by omega)).mono ?_)
    rintro e w5 rfl hb5
    have B5 := Lib.hid (B4.out.trans (hb5.mono B4.out.size))
    clear hb5
    go_wp2
    go_ret
    exact ⟨rfl, B5.out⟩
  · have HK3 := Lib.hid (show 3 ≤ a2 by omega)
    have e1 : (a2 == 1) = false := by simpa using h1
    have e2 : (a2 == 2) = false := by simpa using h2
    have e3 : decide (a2 ≤ 1) = false := by simp; omega
    clear h0 h1 h2
    go_enter Tryf.func4, Tryf.ntmps4
    go_wp2_with (go_at_call 13; refine (zb a0 len0 cap0 a1 a2 a3 a4 _ HLN.out HW3.out).mono ?_; rw [HB.out]; rintro e wz ⟨rfl, rfl⟩)
    go_wp2_with (go_at_call 9; refine (copyRow a0 len0 cap0 X w HR.out (by omega) HA.out).mono ?_)
    rintro e w1 ⟨A1, n1, c1, rfl, hl1, ho1, hb1⟩
    have O1w := Lib.hid ho1; have L1 := Lib.hid hl1; have B1 := Lib.hid hb1
    have hn1 : n1 ≤ 1048576 := by have := HX.out; simp at hl1; omega
    have R1 : Hid (Reads w1 w1.heap.size 1 A1 n1 (X.map (Value.int .u8))) := Lib.hid (Reads.of_own ho1)
    have HA1 : Hid (A1 = none → n1 = 0) := Lib.hid (fun h => by
      rcases ho1.2 with ⟨hv, h0⟩ | ⟨g, cap, cur, hv, _⟩
      · exact h0
      · injection hv with a; rw [h] at a; cases a)
    clear hl1 ho1 hb1
    go_wp2_with (go_at_call 9; refine (copyRow A1 n1 c1 X w1 R1.out (by omega) HA1.out).mono ?_)
    rintro e w2 ⟨A2, n2, c2, rfl, hl2, ho2, hb2⟩
    have O2 := Lib.hid ho2; have L2 := Lib.hid hl2; have B2 := Lib.hid hb2
    have hn2 : n2 ≤ 1048576 := by have := HX.out; simp at hl2; omega
    have HSA : Hid (∀ o, w1.heap.size ≤ (w2.alloc o).heap.size) := Lib.hid (fun o => by have := hb2.size; simp; omega)
    clear hl2 ho2 hb2
    have hb3 := B2.out; have ho3 := O2.out; have hl3 := L2.out
    have H13 := Lib.hid hb3
    have O1 : Hid (w2.ownsRow w.heap.size 5 1 (.slice A1 n1 c1) n1 (X.map (Value.int .u8))) := Lib.hid (own_below O1w.out hb3)
    have O3 : Hid (w2.ownsRow w1.heap.size 5 1 (.slice A2 n2 c2) n2 ((X).map (Value.int .u8))) := Lib.hid (by simpa [rune_ints] using ho3)
    have L3 : Hid (((X).map (Value.int .u8)).length = n2) := Lib.hid (by simpa [rune_ints] using hl3)
    have B3 := Lib.hid (B1.out.trans (hb3.mono B1.out.size))
    have SEP : Hid (∀ g, rb A2 = some g → rb A1 ≠ some g) := Lib.hid (fun g h3 h1 => by
      have q3 := (O3.out.lt g (by rw [ownBlock_slice]; exact h3)).1
      have q1 := (O1w.out.lt g (by rw [ownBlock_slice]; exact h1)).2
      omega)
    clear hl3 ho3 hb3
    go_wp2_with (go_at_call 16; refine (zzesc_any w.heap.size A1 n1 c1 (X.map (Value.int .u8)) (X.map (Value.int .u8)) a1 a2 a3 a4 w2 O1.out L1.out (Nat.le_trans B1.out.size H13.out.size) (fun W K h hB => esc_other a1 a2 HK3.out a3 a4 W h hB)).mono ?_)
    rintro e w4 ⟨hp4, hg4⟩

    obtain ⟨A4, n4, c4, rfl, hl4, ho4, hb4⟩ := hp4
    have R4 : Hid (Reads w4 w4.heap.size 1 A4 n4 ((X).map (Value.int .u8))) := Lib.hid (by have := Reads.of_own ho4; simpa [rune_ints] using this)
    have R3 : Hid (Reads w4 w4.heap.size 1 A2 n2 ((X).map (Value.int .u8))) := Lib.hid (by
      have hh := own_kept O3.out (w' := w4) (fun g hg hlt => hg4.block g hlt (fun e => SEP.out g hg e.symm))
      have := Reads.of_own hh; simpa using this)
    have B4 := Lib.hid (B3.out.trans hb4)
    have hn2x : n2 ≤ 16777216 := by have := L3.out; simp at this; have := HLE.out; have := HX.out; omega
    have hn4 : n4 ≤ 16777216 := by simp [rune_ints] at hl4; have := HLE.out; have := HX.out; omega
    clear hl4 ho4 hb4 hg4
    go_wp2_with (go_at_call 12; refine (eq_any A4 n4 c4 (X) A2 n2 c2 (X) w4 R4.out R3.out (by omega) (by omega)).mono ?_)
    rintro e w5 rfl hb5
    have B5 := Lib.hid (B4.out.trans (hb5.mono B4.out.size))
    clear hb5
    go_wp2
    go_ret
    exact ⟨rfl, B5.out⟩

/-! ### THE ROW's STEP -/
set_option maxRecDepth 100000 in
theorem lifted (os : Os) (started : os.Started) (H : Type) (enc : TypeId × Value → H) :
    ReturnsInTold none {} Tryf.checked os 4 .any Input.okWide ((OpenSpec.ofChange Rows.fnPrintWithEscapeCaseTableSpec).preRow enc Tryf.prog Tryf.f4 [] false []) (fun F => ((OpenSpec.ofChange Rows.fnPrintWithEscapeCaseTableSpec).at F).post enc Tryf.prog Tryf.f4 false true false false) (aloneAtReturn Tryf.prog) nothingAlways := by
  refine returnsInTold_of_row (C := Tryf.checked) (s := (OpenSpec.ofChange Rows.fnPrintWithEscapeCaseTableSpec)) (by kernel_rfl) own started (by kernel_rfl) Tryf.func4
    (OpenSpec.witness_stopped (enc := enc) (C := Tryf.checked) false ⟨#[], #[.slice none 0 0, .int .i32 0, .int .u8 0, .string ByteArray.empty, .bool false], []⟩ 8 (by kernel_rfl) (by kernel_rfl) (by kernel_rfl) (by kernel_rfl)) ?_
  intro F W base args ds gs before _ hF hval0 hW _ _ hsz _ _
  have hval : ∀ (j : Nat) t v, Tryf.f4.params[j]? = some t → args[j]? = some v → Value.okWide Tryf.prog W .any base t v := hval0
  have hW' := hW
  obtain ⟨p, q, hA0, hV, rfl, hfz, hnd⟩ := hW
  have hA : DataW.TrodAll enc Tryf.prog W 0 (fun _ => true) true Tryf.f4.params.toList args.toList ds p := hA0
  rw [Tryf.params4] at hA hval
  obtain ⟨v0, vs0, d0, ds0, p0, q0, hargs, rfl, rfl, h0, r0⟩ := trodAll_cons hA
  obtain ⟨v1, vs1, d1, ds1, p1, q1, rfl, rfl, rfl, h1, r1⟩ := trodAll_cons r0
  obtain ⟨v2, vs2, d2, ds2, p2, q2, rfl, rfl, rfl, h2, r2⟩ := trodAll_cons r1
  obtain ⟨v3, vs3, d3, ds3, p3, q3, rfl, rfl, rfl, h3, r3⟩ := trodAll_cons r2
  obtain ⟨v4, vs4, d4, ds4, p4, q4, rfl, rfl, rfl, h4, r4⟩ := trodAll_cons r3
  obtain ⟨rfl, rfl, rfl⟩ := trodAll_nil r4
  obtain rfl : args = #[v0, v1, v2, v3, v4] := by cases args; simp_all
  obtain ⟨rfl, rfl⟩ := trodVars_none hV
  have k0 := h0
  have lt0 : ∀ x ∈ p0, x.block < W.heap.size := by obtain ⟨m, hm⟩ := k0; exact DataW.trod_lt m _ _ _ hm
  have k1 := h1
  have lt1 : ∀ x ∈ p1, x.block < W.heap.size := by obtain ⟨m, hm⟩ := k1; exact DataW.trod_lt m _ _ _ hm
  have k2 := h2
  have lt2 : ∀ x ∈ p2, x.block < W.heap.size := by obtain ⟨m, hm⟩ := k2; exact DataW.trod_lt m _ _ _ hm
  have k3 := h3
  have lt3 : ∀ x ∈ p3, x.block < W.heap.size := by obtain ⟨m, hm⟩ := k3; exact DataW.trod_lt m _ _ _ hm
  have k4 := h4
  have lt4 : ∀ x ∈ p4, x.block < W.heap.size := by obtain ⟨m, hm⟩ := k4; exact DataW.trod_lt m _ _ _ hm
  obtain ⟨a0, len0, cap0, rfl⟩ := okWide_slice Tryf.underlying22 (hval 0 22 v0 rfl rfl)
  obtain ⟨z0, w0⟩ : ∃ zs, IsRow .u8 W a0 len0 cap0 zs := by
    obtain ⟨fuel, hf⟩ := h0
    rcases open_ints Tryf.underlying22 Tryf.underlying5 (by kernel_rfl) hf with ⟨hcs, _⟩ | ⟨x, l, c, zs, hcs, _, hl, hm, hz, _, hcell, hwz⟩
    · simp [Value.cells] at hcs
      obtain ⟨rfl, rfl, rfl⟩ := hcs
      exact ⟨[], .inl ⟨rfl, rfl, rfl, rfl⟩⟩
    · simp [Value.cells] at hcs
      obtain ⟨rfl, rfl, rfl⟩ := hcs
      exact ⟨zs, .inr ⟨_, rfl, hl, hm, by simpa using hz, hcell, hwz⟩⟩
  obtain ⟨a1, rfl, rfl, rfl, w1⟩ := open_int Tryf.underlying21 (hval 1 21 v1 rfl rfl) h1
  obtain ⟨a2, rfl, rfl, rfl, w2⟩ := open_int Tryf.underlying5 (hval 2 5 v2 rfl rfl) h2
  obtain ⟨a3, rfl, rfl, rfl, w3⟩ := open_string Tryf.underlying9 (hval 3 9 v3 rfl rfl) h3
  obtain ⟨a4, rfl, rfl, rfl⟩ := open_bool Tryf.underlying4 (hval 4 4 v4 rfl rfl) h4
  clear hA0 hval0
  refine (walk a0 len0 cap0 z0 a1 a2 a3 a4 W w0 w1 w2 w3 ).mono fun e W' ⟨he, bel⟩ => ?_
  subst he
  exact ⟨_, rfl, _, _, _, [], _, [], hW', trodAll_mk1 (shut_bool Tryf.underlying4 _), (trodAll_cons_mk (Below.trod laidOut (by kernel_rfl) (of_decide_eq_true (by kernel_rfl)) k0 bel lt0) (trodAll_cons_mk (Below.trod laidOut (by kernel_rfl) (of_decide_eq_true (by kernel_rfl)) k1 bel lt1) (trodAll_cons_mk (Below.trod laidOut (by kernel_rfl) (of_decide_eq_true (by kernel_rfl)) k2 bel lt2) (trodAll_cons_mk (Below.trod laidOut (by kernel_rfl) (of_decide_eq_true (by kernel_rfl)) k3 bel lt3) (trodAll_cons_mk (Below.trod laidOut (by kernel_rfl) (of_decide_eq_true (by kernel_rfl)) k4 bel lt4) trodAll_mk0))))), rfl, bel.frame _, fun h => by cases h⟩

theorem stopsAre : Tryf.pinned.checked.prog.stops = ["fmt.Sprintf"] := by kernel_rfl
theorem stopKnobs : Tryf.pinned.checked.prog.stopKnobs = [] := by kernel_rfl
theorem quiet (os : Os) : Stop.quiet Tryf.pinned.checked.prog os := by
  intro k hk
  rw [stopKnobs] at hk
  cases hk

theorem proved : Rows.FnPrintWithEscapeCaseTableToldSaid :=
  Claim7.holds_of_told_any 4 Tryf.f4 "fmt.Sprintf" [] [] _ _ _ (by kernel_rfl) rfl rfl rfl laidOut (by kernel_rfl) rfl ⟨rfl, rfl, rfl, rfl, rfl, rfl, rfl⟩ rfl rfl (by kernel_rfl) (by kernel_rfl) Tryf.func4 (by kernel_rfl)
    (of_decide_eq_true (by kernel_rfl)) (of_decide_eq_true (by kernel_rfl)) stopsAre.symm rfl stopKnobs.symm (by kernel_rfl)
    (by kernel_rfl) (by kernel_rfl) (by kernel_rfl) (by kernel_rfl) (by kernel_rfl) (by kernel_rfl) (by kernel_rfl) (by kernel_rfl) (by kernel_rfl) rfl (by kernel_rfl) rfl rfl
    rfl rfl
    rfl (by kernel_rfl) (by kernel_rfl) (by kernel_rfl) (by decide) (by kernel_rfl)
    (OpenClaim.moreEntering_of (by kernel_rfl) (by kernel_rfl) (by kernel_rfl) (by kernel_rfl) (by kernel_rfl) (by kernel_rfl) (by kernel_rfl) (by kernel_rfl) (by kernel_rfl) (by kernel_rfl))
    ⟨_, WideRow.started_initial, quiet _⟩
    (fun os started _ H enc _ => lifted os started H enc)
#print axioms proved
end Go.Proofs.YthpbnnlmmljcoaaFmt.fnPrintWithEscapeCaseTable