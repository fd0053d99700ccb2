/-
  PROVED: for every output text, every text and flags, with no line limit and the quote 0, 34 or 39, the law FnPrintQuotedWithQuoteMatchesModel returns true. Conditions: none beyond the form's own reach; told and tied (the tables of unicode and unicode/utf8 as they are laid).
-/
import Derived.Test.YtachkgmngahpoaaFmtRows
import Derived.Test.YtachkgmngahpoaaFmtCards
import Derived.Test.YtachkgmngahpoaaFmtTie
import Derived.WalkKit
import Derived.ProofKit
import Derived.Outline
import Derived.LoopTactic
import Derived.WalkSpells
import Derived.Deep.Light
import Derived.Test.YtachkgmngahpoaaFmtFta
import Derived.Test.YtachkgmngahpoaaFmtQm0
import Derived.Test.YtachkgmngahpoaaFmtQm1
import Derived.Test.YtachkgmngahpoaaFmtPqe
import Derived.Test.YtachkgmngahpoaaFmtPq2
import Derived.Test.YtachkgmngahpoaaFmtPq1
import Derived.Test.YtachkgmngahpoaaFmtPq0
import Derived.OpenShut
import Derived.ShutString
import Derived.ChangeOld
import Derived.Below
import Derived.Carry
import Derived.Stop.JoinedAt
import Derived.Stop.Texts
import Derived.Stop.JoinedTold
import Derived.SevenToldRow
import Derived.Handy
import Derived.Lay
import Derived.SevenTiedAt
namespace Go.Proofs.YtachkgmngahpoaaFmt.fnPrintQuotedWithQuoteMatchesModel
open Go.ChangeShapes Go.WideShapes Go.ChangeAt Go.RowKit
open Go.ChangeMaps (open_string shut_string)
open Go.Extern.Stop Go.Stop Go.Extern
set_option linter.unusedVariables false
set_option linter.unusedSimpArgs false

theorem own : ownKnob Tryf.prog.godebug = none := by kernel_rfl
theorem laidOut : laidOutB Tryf.pinned.checked.prog = true := by kernel_rfl

/-- What the walk is told of a slice of integers that came in. -/
def IsRow (k : IntKind) (w : World) (a : Option Addr) (len cap : Nat) (zs : List Int) : Prop :=
  (a = none ∧ len = 0 ∧ cap = 0 ∧ zs = []) ∨
  ∃ x, a = some x ∧ len ≤ cap ∧ cap ≤ maxLen ∧ zs.length = cap ∧ (∀ i, i < zs.length → w.cell? (x.add i) = some (.int k (zs.getD i 0))) ∧ ∀ n ∈ zs, (Lit.int k n).wf = true
theorem isrow_reads {k : IntKind} {w : World} {a : Option Addr} {len cap : Nat} {zs : List Int} (h : IsRow k w a len cap zs) : Reads w w.heap.size 1 a len ((zs.take len).map (Value.int k)) ∧ (a = none → len = 0) ∧ len ≤ maxLen := by
  rcases h with ⟨rfl, rfl, rfl, rfl⟩ | ⟨x, rfl, hl, hm, hz, hc, _⟩
  · exact ⟨Reads.none_, fun _ => rfl, by unfold maxLen; omega⟩
  · refine ⟨⟨by simp; omega, fun hn => ⟨x, rfl, ?_, fun j u hu => ?_⟩⟩, (fun h => by cases h), by omega⟩
    · have := hc 0 (by omega)
      exact World.block_lt_of_cell? w x (by simpa [Addr.add] using this)
    · have hj : j < len := by
        have := (List.getElem?_eq_some_iff.1 hu).1
        simp at this; omega
      rw [hc j (by omega)]
      rw [List.getElem?_map, List.getElem?_take_of_lt hj, List.getElem?_eq_getElem (by omega)] at hu
      rw [List.getD_eq_getElem?_getD, List.getElem?_eq_getElem (by omega)]
      exact hu



set_option maxRecDepth 100000 in
theorem zb (A : Option Addr) (n c : Nat) (q fl : Int) (s : ByteArray) (w : World) (hn : n ≤ maxLen) (hm : s.size ≤ maxLen) :
    Calls Tryf.prog 5 #[.slice A n c, .string s, .int .u8 q, .int .u8 fl] w fun e w' => e = .returned (.bool (decide (n + s.size ≤ 1048576))) ∧ w = w' := by
  unfold maxLen at hn hm
  by_cases h1 : 1048576 < n
  · go_enter Tryf.func5, Tryf.ntmps5
    go_wp2
    go_ret
    exact ⟨ret_bool (by symm; simp; omega), rfl⟩
  · by_cases h2 : n + s.size ≤ 1048576
    · go_enter Tryf.func5, Tryf.ntmps5
      go_wp2
      go_ret
      exact ⟨ret_bool (by symm; simpa using h2), rfl⟩
    · by_cases h3 : 1048576 < s.size
      · go_enter Tryf.func5, Tryf.ntmps5
        go_wp2
        go_ret
        exact ⟨ret_bool (by symm; simp; omega), rfl⟩
      · go_enter Tryf.func5, Tryf.ntmps5
        go_wp2
        go_ret
        exact ⟨ret_bool (by symm; simp; omega), rfl⟩
theorem tabs_keep {w w' : World} (hT : Lib.Utf8Tabs 0 1 w) (hF : FoldTabs w) (hb : Below w.heap.size w w') : Lib.Utf8Tabs 0 1 w' ∧ FoldTabs w' := by
  refine ⟨?_, hF.below hb⟩
  have key : ∀ p u, w.cell? p = some u → w'.cell? p = some u := fun p u hp => (hb.cell (World.block_lt_of_cell? _ _ hp)).trans hp
  exact ⟨fun c hc => key _ _ (hT.1 c hc), fun i hi => ⟨key _ _ (hT.2 i hi).1, key _ _ (hT.2 i hi).2⟩⟩
theorem q_ints (X : List Int) (q : Nat) (t : List UInt8) : ∃ Y : List Int, X.map (Value.int .u8) ++ qAll q t = Y.map (Value.int .u8) := by
  refine ⟨X ++ ((if q = 0 then [] else [(q : Int)]) ++ (outW noW q t t.length).map (fun b => (b.toNat : Int)) ++ (if q = 0 then [] else [(q : Int)])), ?_⟩
  unfold qAll qCells cells
  by_cases h : q = 0
  · simp [h]
  · simp [h]
theorem qAll_le (q : Nat) (t : List UInt8) : (qAll q t).length ≤ 4 * t.length + 2 := by
  unfold qAll qCells
  have := outW_le noW q t t.length
  simp only [List.length_append, cells_len]
  split <;> simp <;> omega
/-! ### STEP 1: THE WALK -/
set_option maxHeartbeats 2000000 in
set_option maxRecDepth 100000 in
theorem walk (a0 : Option Addr) (len0 cap0 : Nat) (z0 : List Int) (a1 : ByteArray) (a2 : Int) (a3 : Int) (w : World) (w0 : IsRow .u8 w a0 len0 cap0 z0) (w1 : a1.size ≤ maxLen) (w2 : (Lit.int .u8 a2).wf = true) (w3 : (Lit.int .u8 a3).wf = true) (hT : Lib.Utf8Tabs 0 1 w) (hF : FoldTabs w) :
    Calls Tryf.prog 3 #[.slice a0 len0 cap0, .string a1, .int .u8 a2, .int .u8 a3] w fun e w' => e = .returned (.bool true) ∧ Below w.heap.size w w' := by
  simp [Lit.wf, IntKind.min, IntKind.max, IntKind.signed, IntKind.bits] at w2 w3
  obtain ⟨i0, hi, hz0, hz1, hz2⟩ := info_parts u8I
  obtain ⟨hr, hA, hln⟩ := isrow_reads w0
  obtain ⟨X, hX⟩ : ∃ X, X = z0.take len0 := ⟨_, rfl⟩
  rw [← hX] at hr
  have HX := Lib.hid (show X.length = len0 by have := hr.1; simpa using this)
  have HR := Lib.hid hr; have HA := Lib.hid hA; have HLN := Lib.hid hln; have HW3 := Lib.hid w1
  have HT := Lib.hid hT; have HF := Lib.hid hF
  clear hr hX w0 hA w1 hT hF
  unfold maxLen at hln
  have hw3 : a1.size ≤ 9223372036854775807 := by have := HW3.out; unfold maxLen at this; omega
  by_cases hbig : len0 + a1.size ≤ 1048576
  case neg =>
    have HB := Lib.hid (show decide (len0 + a1.size ≤ 1048576) = false by simpa using hbig)
    go_enter Tryf.func3, Tryf.ntmps3
    go_wp2_with (go_at_call 5; refine (zb a0 len0 cap0 a2 a3 a1 _ HLN.out HW3.out).mono ?_; rw [HB.out]; rintro e wz ⟨rfl, rfl⟩)
    go_ret
    exact ⟨rfl, Below.refl _ _⟩
  have HB := Lib.hid (show decide (len0 + a1.size ≤ 1048576) = true by simpa using hbig)
  by_cases q0 : a2 = 0
  · subst q0
    go_enter Tryf.func3, Tryf.ntmps3
    go_wp2_with (go_at_call 5; refine (zb a0 len0 cap0 0 a3 a1 _ HLN.out HW3.out).mono ?_; rw [HB.out]; rintro e wz ⟨rfl, rfl⟩)
    refine (rh_any a1 (by omega) w).mono ?_
    rintro e wz ⟨hb, rfl, hfree, hq⟩
    have hq := hq.symm
    subst hq
    by_cases hbt : hb = true
    · subst hbt
      go_wp2
      go_ret
      exact ⟨rfl, Below.refl _ _⟩
    obtain rfl : hb = false := by simpa using hbt
    have HFREE := Lib.hid (hfree rfl)
    clear hfree
    go_wp2_with (go_at_call 7; refine (copyRow a0 len0 cap0 X w HR.out (by omega) HA.out).mono ?_)
    rintro e w1 ⟨A1, n1, c1, rfl, hl1, ho1, hb1⟩
    have O1w := Lib.hid ho1; have L1 := Lib.hid hl1; have B1 := Lib.hid hb1
    have hn1 : n1 ≤ 1048576 := by have := HX.out; simp at hl1; omega
    have R1 : Hid (Reads w1 w1.heap.size 1 A1 n1 (X.map (Value.int .u8))) := Lib.hid (Reads.of_own ho1)
    have HA1 : Hid (A1 = none → n1 = 0) := Lib.hid (fun h => by
      rcases ho1.2 with ⟨hv, h0⟩ | ⟨g, cap, cur, hv, _⟩
      · exact h0
      · injection hv with a; rw [h] at a; cases a)
    clear hl1 ho1 hb1
    go_wp2_with (go_at_call 7; refine (copyRow A1 n1 c1 X w1 R1.out (by omega) HA1.out).mono ?_)
    rintro e w2 ⟨A2, n2, c2, rfl, hl2, ho2, hb2⟩
    have hn2 : n2 ≤ 1048576 := by have := HX.out; simp at hl2; omega
    have O2 := Lib.hid ho2; have L2 := Lib.hid hl2; have B2 := Lib.hid hb2
    clear hl2 ho2 hb2
    go_wp2_with (go_at_call 8; refine (model_loop0 w1.heap.size a1 A2 n2 c2 (X.map (Value.int .u8)) w2 O2.out L2.out B2.out.size (by omega) (by omega)).mono ?_)
    rintro e w3 ⟨A3, n3, c3, rfl, hl3, ho3, hb3'⟩
    have O3 := Lib.hid ho3; have L3 := Lib.hid hl3
    have H13 := Lib.hid (B2.out.trans hb3')
    have B3 := Lib.hid (B1.out.trans (H13.out.mono B1.out.size))
    have O1 : Hid (w3.ownsRow w.heap.size 5 1 (.slice A1 n1 c1) n1 (X.map (Value.int .u8))) := Lib.hid (own_below O1w.out H13.out)
    have SEP : Hid (∀ g, rb A3 = some g → rb A1 ≠ some g) := Lib.hid (fun g h3 h1 => by
      have q3 := (O3.out.lt g (by rw [ownBlock_slice]; exact h3)).1
      have q1 := (O1w.out.lt g (by rw [ownBlock_slice]; exact h1)).2
      omega)
    have HT1 : Hid (∀ W, Below w.heap.size w3 W → Lib.Utf8Tabs 0 1 W ∧ FoldTabs W) := Lib.hid (fun W hb => tabs_keep HT.out HF.out (B3.out.trans hb))
    clear hl3 ho3 hb3'
    go_wp2_with (go_at_call 9; refine (zzpq_any w.heap.size A1 n1 c1 (X.map (Value.int .u8)) (X.map (Value.int .u8) ++ qAll 0 a1.data.toList) 0 0 a3 a1 w3 O1.out L1.out B3.out.size (fun W h hB hb => pq_0 a1 a3 0 (by decide) W h hB n1 L1.out (by omega) (by omega) HFREE.out rfl rfl rfl (fun W' hb' => HT1.out W' (hb.trans hb')))).mono ?_)
    rintro e w4 ⟨hp4, hg4⟩
    obtain ⟨A4, n4, c4, rfl, hl4, ho4, hb4⟩ := hp4
    obtain ⟨Y, hY⟩ := q_ints X 0 a1.data.toList
    have R4 : Hid (Reads w4 w4.heap.size 1 A4 n4 (Y.map (Value.int .u8))) := Lib.hid (by have := Reads.of_own ho4; rwa [hY] at this)
    have R3 : Hid (Reads w4 w4.heap.size 1 A3 n3 (Y.map (Value.int .u8))) := Lib.hid (by
      have hh := own_kept O3.out (w' := w4) (fun g hg hlt => hg4.block g hlt (fun e => SEP.out g hg e.symm))
      have := Reads.of_own hh; rwa [hY] at this)
    have B4 := Lib.hid (B3.out.trans hb4)
    have hq := qAll_le 0 a1.data.toList
    have hz := qsize a1
    have hn3 : n3 ≤ 16777216 := by have := L3.out; rw [List.length_append] at this; have := HX.out; simp at *; omega
    have hn4 : n4 ≤ 16777216 := by rw [List.length_append] at hl4; have := HX.out; simp at *; omega
    clear hl4 ho4 hb4 hg4 hq hz hY
    go_wp2_with (go_at_call 10; refine (eq_any A4 n4 c4 Y A3 n3 c3 Y w4 R4.out R3.out (by omega) (by omega)).mono ?_; rw [decide_eq_true (rfl : Y = Y)]; rintro e w5 ⟨rfl, hb5⟩; have B5 := Lib.hid (B4.out.trans (hb5.mono B4.out.size)); clear hb5)
    go_ret
    exact ⟨rfl, B5.out⟩
  by_cases q34 : a2 = 34
  · subst q34
    clear q0
    go_enter Tryf.func3, Tryf.ntmps3
    go_wp2_with (go_at_call 5; refine (zb a0 len0 cap0 34 a3 a1 _ HLN.out HW3.out).mono ?_; rw [HB.out]; rintro e wz ⟨rfl, rfl⟩)
    refine (rh_any a1 (by omega) w).mono ?_
    rintro e wz ⟨hb, rfl, hfree, hq⟩
    have hq := hq.symm
    subst hq
    by_cases hbt : hb = true
    · subst hbt
      go_wp2
      go_ret
      exact ⟨rfl, Below.refl _ _⟩
    obtain rfl : hb = false := by simpa using hbt
    have HFREE := Lib.hid (hfree rfl)
    clear hfree
    go_wp2_with (go_at_call 7; refine (copyRow a0 len0 cap0 X w HR.out (by omega) HA.out).mono ?_)
    rintro e w1 ⟨A1, n1, c1, rfl, hl1, ho1, hb1⟩
    have O1w := Lib.hid ho1; have L1 := Lib.hid hl1; have B1 := Lib.hid hb1
    have hn1 : n1 ≤ 1048576 := by have := HX.out; simp at hl1; omega
    have R1 : Hid (Reads w1 w1.heap.size 1 A1 n1 (X.map (Value.int .u8))) := Lib.hid (Reads.of_own ho1)
    have HA1 : Hid (A1 = none → n1 = 0) := Lib.hid (fun h => by
      rcases ho1.2 with ⟨hv, h0⟩ | ⟨g, cap, cur, hv, _⟩
      · exact h0
      · injection hv with a; rw [h] at a; cases a)
    clear hl1 ho1 hb1
    go_wp2_with (go_at_call 7; refine (copyRow A1 n1 c1 X w1 R1.out (by omega) HA1.out).mono ?_)
    rintro e w2 ⟨A2, n2, c2, rfl, hl2, ho2, hb2⟩
    have hn2 : n2 ≤ 1048576 := by have := HX.out; simp at hl2; omega
    have O2 := Lib.hid ho2; have L2 := Lib.hid hl2; have B2 := Lib.hid hb2
    clear hl2 ho2 hb2
    go_wp2_with (go_at_call 8; refine (model_loop34 w1.heap.size a1 A2 n2 c2 (X.map (Value.int .u8)) w2 O2.out L2.out B2.out.size (by omega) (by omega)).mono ?_)
    rintro e w3 ⟨A3, n3, c3, rfl, hl3, ho3, hb3'⟩
    have O3 := Lib.hid ho3; have L3 := Lib.hid hl3
    have H13 := Lib.hid (B2.out.trans hb3')
    have B3 := Lib.hid (B1.out.trans (H13.out.mono B1.out.size))
    have O1 : Hid (w3.ownsRow w.heap.size 5 1 (.slice A1 n1 c1) n1 (X.map (Value.int .u8))) := Lib.hid (own_below O1w.out H13.out)
    have SEP : Hid (∀ g, rb A3 = some g → rb A1 ≠ some g) := Lib.hid (fun g h3 h1 => by
      have q3 := (O3.out.lt g (by rw [ownBlock_slice]; exact h3)).1
      have q1 := (O1w.out.lt g (by rw [ownBlock_slice]; exact h1)).2
      omega)
    have HT1 : Hid (∀ W, Below w.heap.size w3 W → Lib.Utf8Tabs 0 1 W ∧ FoldTabs W) := Lib.hid (fun W hb => tabs_keep HT.out HF.out (B3.out.trans hb))
    clear hl3 ho3 hb3'
    go_wp2_with (go_at_call 9; refine (zzpq_any w.heap.size A1 n1 c1 (X.map (Value.int .u8)) (X.map (Value.int .u8) ++ qAll 34 a1.data.toList) 0 34 a3 a1 w3 O1.out L1.out B3.out.size (fun W h hB hb => pq_34 a1 a3 0 (by decide) W h hB n1 L1.out (by omega) (by omega) HFREE.out rfl rfl rfl (fun W' hb' => HT1.out W' (hb.trans hb')))).mono ?_)
    rintro e w4 ⟨hp4, hg4⟩
    obtain ⟨A4, n4, c4, rfl, hl4, ho4, hb4⟩ := hp4
    obtain ⟨Y, hY⟩ := q_ints X 34 a1.data.toList
    have R4 : Hid (Reads w4 w4.heap.size 1 A4 n4 (Y.map (Value.int .u8))) := Lib.hid (by have := Reads.of_own ho4; rwa [hY] at this)
    have R3 : Hid (Reads w4 w4.heap.size 1 A3 n3 (Y.map (Value.int .u8))) := Lib.hid (by
      have hh := own_kept O3.out (w' := w4) (fun g hg hlt => hg4.block g hlt (fun e => SEP.out g hg e.symm))
      have := Reads.of_own hh; rwa [hY] at this)
    have B4 := Lib.hid (B3.out.trans hb4)
    have hq := qAll_le 34 a1.data.toList
    have hz := qsize a1
    have hn3 : n3 ≤ 16777216 := by have := L3.out; rw [List.length_append] at this; have := HX.out; simp at *; omega
    have hn4 : n4 ≤ 16777216 := by rw [List.length_append] at hl4; have := HX.out; simp at *; omega
    clear hl4 ho4 hb4 hg4 hq hz hY
    go_wp2_with (go_at_call 10; refine (eq_any A4 n4 c4 Y A3 n3 c3 Y w4 R4.out R3.out (by omega) (by omega)).mono ?_; rw [decide_eq_true (rfl : Y = Y)]; rintro e w5 ⟨rfl, hb5⟩; have B5 := Lib.hid (B4.out.trans (hb5.mono B4.out.size)); clear hb5)
    go_ret
    exact ⟨rfl, B5.out⟩
  by_cases q39 : a2 = 39
  · subst q39
    clear q0 q34
    go_enter Tryf.func3, Tryf.ntmps3
    go_wp2_with (go_at_call 5; refine (zb a0 len0 cap0 39 a3 a1 _ HLN.out HW3.out).mono ?_; rw [HB.out]; rintro e wz ⟨rfl, rfl⟩)
    refine (rh_any a1 (by omega) w).mono ?_
    rintro e wz ⟨hb, rfl, hfree, hq⟩
    have hq := hq.symm
    subst hq
    by_cases hbt : hb = true
    · subst hbt
      go_wp2
      go_ret
      exact ⟨rfl, Below.refl _ _⟩
    obtain rfl : hb = false := by simpa using hbt
    have HFREE := Lib.hid (hfree rfl)
    clear hfree
    go_wp2_with (go_at_call 7; refine (copyRow a0 len0 cap0 X w HR.out (by omega) HA.out).mono ?_)
    rintro e w1 ⟨A1, n1, c1, rfl, hl1, ho1, hb1⟩
    have O1w := Lib.hid ho1; have L1 := Lib.hid hl1; have B1 := Lib.hid hb1
    have hn1 : n1 ≤ 1048576 := by have := HX.out; simp at hl1; omega
    have R1 : Hid (Reads w1 w1.heap.size 1 A1 n1 (X.map (Value.int .u8))) := Lib.hid (Reads.of_own ho1)
    have HA1 : Hid (A1 = none → n1 = 0) := Lib.hid (fun h => by
      rcases ho1.2 with ⟨hv, h0⟩ | ⟨g, cap, cur, hv, _⟩
      · exact h0
      · injection hv with a; rw [h] at a; cases a)
    clear hl1 ho1 hb1
    go_wp2_with (go_at_call 7; refine (copyRow A1 n1 c1 X w1 R1.out (by omega) HA1.out).mono ?_)
    rintro e w2 ⟨A2, n2, c2, rfl, hl2, ho2, hb2⟩
    have hn2 : n2 ≤ 1048576 := by have := HX.out; simp at hl2; omega
    have O2 := Lib.hid ho2; have L2 := Lib.hid hl2; have B2 := Lib.hid hb2
    clear hl2 ho2 hb2
    go_wp2_with (go_at_call 8; refine (model_loop39 w1.heap.size a1 A2 n2 c2 (X.map (Value.int .u8)) w2 O2.out L2.out B2.out.size (by omega) (by omega)).mono ?_)
    rintro e w3 ⟨A3, n3, c3, rfl, hl3, ho3, hb3'⟩
    have O3 := Lib.hid ho3; have L3 := Lib.hid hl3
    have H13 := Lib.hid (B2.out.trans hb3')
    have B3 := Lib.hid (B1.out.trans (H13.out.mono B1.out.size))
    have O1 : Hid (w3.ownsRow w.heap.size 5 1 (.slice A1 n1 c1) n1 (X.map (Value.int .u8))) := Lib.hid (own_below O1w.out H13.out)
    have SEP : Hid (∀ g, rb A3 = some g → rb A1 ≠ some g) := Lib.hid (fun g h3 h1 => by
      have q3 := (O3.out.lt g (by rw [ownBlock_slice]; exact h3)).1
      have q1 := (O1w.out.lt g (by rw [ownBlock_slice]; exact h1)).2
      omega)
    have HT1 : Hid (∀ W, Below w.heap.size w3 W → Lib.Utf8Tabs 0 1 W ∧ FoldTabs W) := Lib.hid (fun W hb => tabs_keep HT.out HF.out (B3.out.trans hb))
    clear hl3 ho3 hb3'
    go_wp2_with (go_at_call 9; refine (zzpq_any w.heap.size A1 n1 c1 (X.map (Value.int .u8)) (X.map (Value.int .u8) ++ qAll 39 a1.data.toList) 0 39 a3 a1 w3 O1.out L1.out B3.out.size (fun W h hB hb => pq_39 a1 a3 0 (by decide) W h hB n1 L1.out (by omega) (by omega) HFREE.out rfl rfl rfl (fun W' hb' => HT1.out W' (hb.trans hb')))).mono ?_)
    rintro e w4 ⟨hp4, hg4⟩
    obtain ⟨A4, n4, c4, rfl, hl4, ho4, hb4⟩ := hp4
    obtain ⟨Y, hY⟩ := q_ints X 39 a1.data.toList
    have R4 : Hid (Reads w4 w4.heap.size 1 A4 n4 (Y.map (Value.int .u8))) := Lib.hid (by have := Reads.of_own ho4; rwa [hY] at this)
    have R3 : Hid (Reads w4 w4.heap.size 1 A3 n3 (Y.map (Value.int .u8))) := Lib.hid (by
      have hh := own_kept O3.out (w' := w4) (fun g hg hlt => hg4.block g hlt (fun e => SEP.out g hg e.symm))
      have := Reads.of_own hh; rwa [hY] at this)
    have B4 := Lib.hid (B3.out.trans hb4)
    have hq := qAll_le 39 a1.data.toList
    have hz := qsize a1
    have hn3 : n3 ≤ 16777216 := by have := L3.out; rw [List.length_append] at this; have := HX.out; simp at *; omega
    have hn4 : n4 ≤ 16777216 := by rw [List.length_append] at hl4; have := HX.out; simp at *; omega
    clear hl4 ho4 hb4 hg4 hq hz hY
    go_wp2_with (go_at_call 10; refine (eq_any A4 n4 c4 Y A3 n3 c3 Y w4 R4.out R3.out (by omega) (by omega)).mono ?_; rw [decide_eq_true (rfl : Y = Y)]; rintro e w5 ⟨rfl, hb5⟩; have B5 := Lib.hid (B4.out.trans (hb5.mono B4.out.size)); clear hb5)
    go_ret
    exact ⟨rfl, B5.out⟩
  · have e0 : (a2 == 0) = false := by simpa using q0
    have e1 : (a2 == 34) = false := by simpa using q34
    have e2 : (a2 == 39) = false := by simpa using q39
    have f0 : (a2 != 0) = true := by simpa using q0
    have f1 : (a2 != 34) = true := by simpa using q34
    have f2 : (a2 != 39) = true := by simpa using q39
    clear q0 q34 q39
    go_enter Tryf.func3, Tryf.ntmps3
    go_wp2_with (go_at_call 5; refine (zb a0 len0 cap0 a2 a3 a1 _ HLN.out HW3.out).mono ?_; rw [HB.out]; rintro e wz ⟨rfl, rfl⟩)
    go_ret
    exact ⟨rfl, Below.refl _ _⟩

/-! ### THE ROW's STEP -/
/-- An input that fits, at a world whose variables are laid (slices among them). -/
theorem witness_zip {H : Type} {enc : TypeId × Value → H} {C : Checked} {os : Os} {f : FuncId} {fn : Func} {s : OpenSpec} {conds : List PathCond} {apart : Bool} {laid : List (String × DataW Unit)} (modest : Bool) (w0 : World) (args : Array Value) (hos : w0.os = os)
    (hsh : (w0.forCall (fun _ _ => 0) ⟨#[], args, []⟩).Shaped C.prog)
    (hok : Input.okWideB C.prog (w0.forCall (fun _ _ => 0) ⟨#[], args, []⟩) f ⟨#[], args, []⟩ = true)
    (hrow : s.preRow enc C.prog fn conds apart laid (w0.forCall (fun _ _ => 0) ⟨#[], args, []⟩).memory args) (F : Stop.Interp) :
    ∃ (w : World) (tape : Tape) (i : Input), w.os = os ∧ (w.forCall tape i).Shaped C.prog ∧ i.vars = [] ∧ Input.okWide C.prog (w.forCall tape i) .any w.heap.size f i ∧
      s.preRow enc C.prog fn conds apart laid (w.forCall tape i).memory i.args ∧ ({ modest := modest } : Assume).holds C.prog (lone (Frame.enter C.prog f i.args .normal) [] (w.forCall tape i)) ∧ F.answers tape :=
  ⟨w0, F.over fun _ _ => 0, ⟨#[], args, []⟩, hos, hsh, (Input.okWide_of_okWideB (base := 0) hok).1, (Input.okWide_of_okWideB hok).2, hrow, by
    simp only [Assume.holds]
    exact ⟨by simp, by simp, fun _ => F.over_modest Modest.zero, by simp, by simp⟩, F.over_answers _⟩
set_option maxRecDepth 100000 in
theorem lifted (os : Os) (started : os.Started) (H : Type) (enc : TypeId × Value → H) :
    ReturnsInTold none {} Tryf.checked os 3 .any Input.okWide ((OpenSpec.ofChange Rows.fnPrintQuotedWithQuoteMatchesModelSpec).preRow enc Tryf.prog Tryf.f3 [] false Rows.fnPrintQuotedWithQuoteMatchesModelRow.laid) (fun F => ((OpenSpec.ofChange Rows.fnPrintQuotedWithQuoteMatchesModelSpec).at F).post enc Tryf.prog Tryf.f3 false true false false) (aloneAtReturn Tryf.prog) nothingAlways := by
  refine returnsInTold_of_row (C := Tryf.checked) (s := (OpenSpec.ofChange Rows.fnPrintQuotedWithQuoteMatchesModelSpec)) (by kernel_rfl) own started (by kernel_rfl) Tryf.func3
    (witness_zip (enc := enc) (C := Tryf.checked) false (World.laidAll Tryf.prog os Rows.fnPrintQuotedWithQuoteMatchesModelRow.laid) #[.slice none 0 0, .string ByteArray.empty, .int .u8 0, .int .u8 0] (World.laidAll_os _ _ _) (World.shaped_of_ZipB (by kernel_rfl) (by kernel_rfl)) (by kernel_rfl)
      (OpenSpec.preRow_of_B rfl 8 (by kernel_rfl) (by kernel_rfl) (by rw [MakeChecks.laidMetH_plain _ _ _ (by kernel_rfl)]; exact laidMet_laidAll _ (by kernel_rfl) (by kernel_rfl)))) ?_
  intro F W base args ds gs before _ hF hval0 hW _ _ hsz hL _
  have hval : ∀ (j : Nat) t v, Tryf.f3.params[j]? = some t → args[j]? = some v → Value.okWide Tryf.prog W .any base t v := hval0
  have hW' := hW
  obtain ⟨p, q, hA0, hV, rfl, hfz, hnd⟩ := hW
  have hA : DataW.TrodAll enc Tryf.prog W 0 (fun _ => true) true Tryf.f3.params.toList args.toList ds p := hA0
  rw [Tryf.params3] at hA hval
  obtain ⟨v0, vs0, d0, ds0, p0, q0, hargs, rfl, rfl, h0, r0⟩ := trodAll_cons hA
  obtain ⟨v1, vs1, d1, ds1, p1, q1, rfl, rfl, rfl, h1, r1⟩ := trodAll_cons r0
  obtain ⟨v2, vs2, d2, ds2, p2, q2, rfl, rfl, rfl, h2, r2⟩ := trodAll_cons r1
  obtain ⟨v3, vs3, d3, ds3, p3, q3, rfl, rfl, rfl, h3, r3⟩ := trodAll_cons r2
  obtain ⟨rfl, rfl, rfl⟩ := trodAll_nil r3
  obtain rfl : args = #[v0, v1, v2, v3] := by cases args; simp_all
  obtain ⟨rfl, rfl⟩ := trodVars_none hV
  have k0 := h0
  have lt0 : ∀ x ∈ p0, x.block < W.heap.size := by obtain ⟨m, hm⟩ := k0; exact DataW.trod_lt m _ _ _ hm
  have k1 := h1
  have lt1 : ∀ x ∈ p1, x.block < W.heap.size := by obtain ⟨m, hm⟩ := k1; exact DataW.trod_lt m _ _ _ hm
  have k2 := h2
  have lt2 : ∀ x ∈ p2, x.block < W.heap.size := by obtain ⟨m, hm⟩ := k2; exact DataW.trod_lt m _ _ _ hm
  have k3 := h3
  have lt3 : ∀ x ∈ p3, x.block < W.heap.size := by obtain ⟨m, hm⟩ := k3; exact DataW.trod_lt m _ _ _ hm
  obtain ⟨a0, len0, cap0, rfl⟩ := okWide_slice Tryf.underlying22 (hval 0 22 v0 rfl rfl)
  obtain ⟨z0, w0⟩ : ∃ zs, IsRow .u8 W a0 len0 cap0 zs := by
    obtain ⟨fuel, hf⟩ := h0
    rcases open_ints Tryf.underlying22 Tryf.underlying5 (by kernel_rfl) hf with ⟨hcs, _⟩ | ⟨x, l, c, zs, hcs, _, hl, hm, hz, _, hcell, hwz⟩
    · simp [Value.cells] at hcs
      obtain ⟨rfl, rfl, rfl⟩ := hcs
      exact ⟨[], .inl ⟨rfl, rfl, rfl, rfl⟩⟩
    · simp [Value.cells] at hcs
      obtain ⟨rfl, rfl, rfl⟩ := hcs
      exact ⟨zs, .inr ⟨_, rfl, hl, hm, by simpa using hz, hcell, hwz⟩⟩
  obtain ⟨a1, rfl, rfl, rfl, w1⟩ := open_string Tryf.underlying9 (hval 1 9 v1 rfl rfl) h1
  obtain ⟨a2, rfl, rfl, rfl, w2⟩ := open_int Tryf.underlying5 (hval 2 5 v2 rfl rfl) h2
  obtain ⟨a3, rfl, rfl, rfl, w3⟩ := open_int Tryf.underlying5 (hval 3 5 v3 rfl rfl) h3
  clear hA0 hval0
  refine (walk a0 len0 cap0 z0 a1 a2 a3 W w0 w1 w2 w3 (tabs_of hL) (fold_of hL)).mono fun e W' ⟨he, bel⟩ => ?_
  subst he
  exact ⟨_, rfl, _, _, _, [], _, [], hW', trodAll_mk1 (shut_bool Tryf.underlying4 _), (trodAll_cons_mk (Below.trod laidOut (by kernel_rfl) (of_decide_eq_true (by kernel_rfl)) k0 bel lt0) (trodAll_cons_mk (Below.trod laidOut (by kernel_rfl) (of_decide_eq_true (by kernel_rfl)) k1 bel lt1) (trodAll_cons_mk (Below.trod laidOut (by kernel_rfl) (of_decide_eq_true (by kernel_rfl)) k2 bel lt2) (trodAll_cons_mk (Below.trod laidOut (by kernel_rfl) (of_decide_eq_true (by kernel_rfl)) k3 bel lt3) trodAll_mk0)))), rfl, bel.frame _, fun h => by cases h⟩

theorem stopsAre : Tryf.pinned.checked.prog.stops = ["fmt.Sprintf"] := by kernel_rfl
theorem stopKnobs : Tryf.pinned.checked.prog.stopKnobs = [] := by kernel_rfl
theorem quiet (os : Os) : Stop.quiet Tryf.pinned.checked.prog os := by
  intro k hk
  rw [stopKnobs] at hk
  cases hk

theorem proved : Rows.FnPrintQuotedWithQuoteMatchesModelToldSaid :=
  Claim7.holds_of_told_tied_any_at .later 3 Tryf.f3 "fmt.Sprintf" [] [] _ _ _ [.data, .data, .data, .pinned, .pinned] true (by kernel_rfl) rfl rfl rfl laidOut (by kernel_rfl) rfl ⟨rfl, rfl, rfl, rfl, rfl, rfl, rfl⟩ rfl rfl (by kernel_rfl) (by kernel_rfl) Tryf.func3 (by kernel_rfl)
    (of_decide_eq_true (by kernel_rfl)) (of_decide_eq_true (by kernel_rfl)) stopsAre.symm rfl stopKnobs.symm (by kernel_rfl)
    (by kernel_rfl) (by kernel_rfl) (by kernel_rfl) (by kernel_rfl) (by kernel_rfl) (by kernel_rfl) (by kernel_rfl) (by kernel_rfl) (by kernel_rfl) rfl (by kernel_rfl) rfl rfl
    rfl rfl
    rfl (by kernel_rfl) (by kernel_rfl) (by kernel_rfl) (by decide) (by kernel_rfl) fnPrintQuotedWithQuoteMatchesModel_row_tie
    (OpenClaim.moreEntering_of (by kernel_rfl) (by kernel_rfl) (by kernel_rfl) (by kernel_rfl) (by kernel_rfl) (by kernel_rfl) (by kernel_rfl) (by kernel_rfl) (by kernel_rfl) (by kernel_rfl))
    ⟨_, WideRow.started_initial, quiet _⟩
    (fun os started _ H enc _ => lifted os started H enc)
#print axioms proved
end Go.Proofs.YtachkgmngahpoaaFmt.fnPrintQuotedWithQuoteMatchesModel