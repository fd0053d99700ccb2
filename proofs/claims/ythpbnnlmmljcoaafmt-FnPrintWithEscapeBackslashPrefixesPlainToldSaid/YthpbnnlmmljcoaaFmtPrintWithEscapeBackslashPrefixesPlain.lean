/-
  PROVED: A backslash escape prints one backslash and then what the plain print gives; the plain print keeps the old buffer and adds 1 to 4 bytes.
-/
import Derived.Test.YthpbnnlmmljcoaaFmtRows
import Derived.Test.YthpbnnlmmljcoaaFmtCards
import Derived.WalkKit
import Derived.ProofKit
import Derived.IntWalk
import Derived.Deep.RegionWith
import Derived.Outline
import Derived.LoopTactic
import Derived.WalkSpells
import Derived.Deep.Light
import Derived.Test.YthpbnnlmmljcoaaFmtEs5
import Derived.OpenShut
import Derived.ShutString
import Derived.ChangeOld
import Derived.Below
import Derived.Carry
import Derived.Stop.JoinedAt
import Derived.Stop.Texts
import Derived.Stop.JoinedTold
import Derived.SevenToldRow
namespace Go.Proofs.YthpbnnlmmljcoaaFmt.fnPrintWithEscapeBackslashPrefixesPlain
open Go.ChangeShapes Go.WideShapes Go.ChangeAt Go.RowKit
open Go.ChangeMaps (open_string shut_string)
open Go.Extern.Stop Go.Stop Go.Extern
set_option linter.unusedVariables false
set_option linter.unusedSimpArgs false

theorem own : ownKnob Tryf.prog.godebug = none := by kernel_rfl
theorem laidOut : laidOutB Tryf.pinned.checked.prog = true := by kernel_rfl

/-- What the walk is told of a slice of integers that came in. -/
def IsRow (k : IntKind) (w : World) (a : Option Addr) (len cap : Nat) (zs : List Int) : Prop :=
  (a = none ∧ len = 0 ∧ cap = 0 ∧ zs = []) ∨
  ∃ x, a = some x ∧ len ≤ cap ∧ cap ≤ maxLen ∧ zs.length = cap ∧ (∀ i, i < zs.length → w.cell? (x.add i) = some (.int k (zs.getD i 0))) ∧ ∀ n ∈ zs, (Lit.int k n).wf = true
theorem isrow_reads {k : IntKind} {w : World} {a : Option Addr} {len cap : Nat} {zs : List Int} (h : IsRow k w a len cap zs) : Reads w w.heap.size 1 a len ((zs.take len).map (Value.int k)) ∧ (a = none → len = 0) ∧ len ≤ maxLen := by
  rcases h with ⟨rfl, rfl, rfl, rfl⟩ | ⟨x, rfl, hl, hm, hz, hc, _⟩
  · exact ⟨Reads.none_, fun _ => rfl, by unfold maxLen; omega⟩
  · refine ⟨⟨by simp; omega, fun hn => ⟨x, rfl, ?_, fun j u hu => ?_⟩⟩, (fun h => by cases h), by omega⟩
    · have := hc 0 (by omega)
      exact World.block_lt_of_cell? w x (by simpa [Addr.add] using this)
    · have hj : j < len := by
        have := (List.getElem?_eq_some_iff.1 hu).1
        simp at this; omega
      rw [hc j (by omega)]
      rw [List.getElem?_map, List.getElem?_take_of_lt hj, List.getElem?_eq_getElem (by omega)] at hu
      rw [List.getD_eq_getElem?_getD, List.getElem?_eq_getElem (by omega)]
      exact hu



set_option maxHeartbeats 1000000 in
set_option maxRecDepth 100000 in
theorem zb (A : Option Addr) (n c : Nat) (x : Int) (s : ByteArray) (b : Bool) (s' : ByteArray) (b' : Bool) (w : World) (hn : n ≤ maxLen) (hm : s.size ≤ maxLen) (hm' : s'.size ≤ maxLen) :
    Calls Tryf.prog 17 #[.slice A n c, .int .i32 x, .string s, .bool b, .string s', .bool b'] w fun e w' => e = .returned (.bool (decide (n + s.size + s'.size ≤ 1048576))) ∧ w = w' := by
  unfold maxLen at hn hm hm'
  by_cases h1 : 1048576 < n
  · go_enter Tryf.func17, Tryf.ntmps17
    go_wp2
    go_ret
    exact ⟨ret_bool (by symm; simp; omega), rfl⟩
  by_cases h2 : 1048576 < s.size
  · go_enter Tryf.func17, Tryf.ntmps17
    go_wp2
    go_ret
    exact ⟨ret_bool (by symm; simp; omega), rfl⟩
  by_cases h3 : 1048576 < n + s.size
  · go_enter Tryf.func17, Tryf.ntmps17
    go_wp2
    go_ret
    exact ⟨ret_bool (by symm; simp; omega), rfl⟩
  by_cases h4 : 1048576 < s'.size
  · go_enter Tryf.func17, Tryf.ntmps17
    go_wp2
    go_ret
    exact ⟨ret_bool (by symm; simp; omega), rfl⟩
  by_cases h5 : 1048576 < n + s.size + s'.size
  · go_enter Tryf.func17, Tryf.ntmps17
    go_wp2
    go_ret
    exact ⟨ret_bool (by symm; simp; omega), rfl⟩
  · go_enter Tryf.func17, Tryf.ntmps17
    go_wp2
    go_ret
    exact ⟨ret_bool (by symm; simp; omega), rfl⟩
theorem rune_ints (c : Int) : Lib.runeCells c = (Lib.encodeRuneZ c).map (Value.int .u8) := rfl
theorem reads_take {w : World} {B n : Nat} {A : Option Addr} {xs : List Int} {k : IntKind} (h : Reads w B 1 A n (xs.map (Value.int k))) {m : Nat} (hm : m ≤ n) : Reads w B 1 A m ((xs.take m).map (Value.int k)) := by
  have lx : xs.length = n := by have := h.1; simpa using this
  refine ⟨by simp; omega, fun hm0 => ?_⟩
  obtain ⟨ad, e, hb, hc⟩ := h.2 (by omega)
  refine ⟨ad, e, hb, fun j u hu => hc j u ?_⟩
  have hj : j < m := by
    have := (List.getElem?_eq_some_iff.1 hu).1
    simp at this; omega
  rw [List.getElem?_map, List.getElem?_take_of_lt hj] at hu
  rw [List.getElem?_map]; exact hu
theorem reads_drop {w : World} {B n g : Nat} {xs : List Int} {k : IntKind} (h : Reads w B 1 (some ⟨g, 0, none⟩) n (xs.map (Value.int k))) {m : Nat} (hm : m ≤ n) : Reads w B 1 (some ⟨g, m, none⟩) (n - m) ((xs.drop m).map (Value.int k)) := by
  have lx : xs.length = n := by have := h.1; simpa using this
  refine ⟨by simp; omega, fun hm0 => ?_⟩
  obtain ⟨ad, e, hb, hc⟩ := h.2 (by omega)
  injection e with e
  subst e
  refine ⟨_, rfl, hb, fun j u hu => ?_⟩
  have := hc (m + j) u (by rw [← hu, List.map_drop, List.getElem?_drop])
  rw [← this, ← add_of_add]
  congr 1
  by_cases h0 : m = 0
  · subst h0; simp [Addr.add]
  · simp [Addr.add, h0]
theorem cut_from (g n cap k : Nat) (hk : k < cap) (hn : k ≤ n) (W : World) (l : Int) (hl : l = k) : (Instr.slice 22 (.slice (some ⟨g, 0, none⟩) n cap) (some (.int .i64 l)) none none).run Tryf.prog W = .ok (.slice (some ⟨g, k, none⟩) (n - k) (cap - k)) W := by
  subst hl
  have he : Tryf.prog.elem 22 = 5 := by kernel_rfl
  have hu : Tryf.prog.underlying 22 = some (.slice (Tryf.prog.elem 22)) := by kernel_rfl
  rw [run_slice_l W 22 (some ⟨g, 0, none⟩) n cap hu .i64 (k : Int) (by omega) (by omega), he, Tryf.sizeOf5]
  have hne : ¬ cap = k := by omega
  by_cases h0 : k = 0
  · subst h0; simp [sliced, Addr.add]
  · simp [sliced, Addr.add, hne, h0]
theorem own_some {w : World} {B n : Nat} {A : Option Addr} {c : Nat} {xs : List Value} (h : w.ownsRow B 5 1 (.slice A n c) n xs) (hn : 0 < n) : ∃ g, A = some ⟨g, 0, none⟩ ∧ n ≤ c ∧ c ≤ maxLen := by
  rcases h.2 with ⟨_, h0⟩ | ⟨g, cap, cur, hv, _, _, h1, h2, _⟩
  · omega
  · injection hv with a b c'
    subst a; subst c'
    exact ⟨g, rfl, h1, h2⟩
theorem own_none {w : World} {B n : Nat} {A : Option Addr} {c : Nat} {xs : List Value} (h : w.ownsRow B 5 1 (.slice A n c) n xs) : A = none → n = 0 := fun h0 => by
  rcases h.2 with ⟨_, h1⟩ | ⟨g, cap, cur, hv, _⟩
  · exact h1
  · injection hv with a; rw [h0] at a; cases a
/-! ### STEP 1: THE WALK -/
set_option maxHeartbeats 2000000 in
set_option maxRecDepth 100000 in
theorem walk (a0 : Option Addr) (len0 cap0 : Nat) (z0 : List Int) (a1 : Int) (a2 : ByteArray) (a3 : Bool) (a4 : ByteArray) (a5 : Bool) (w : World) (w0 : IsRow .u8 w a0 len0 cap0 z0) (w1 : (Lit.int .i32 a1).wf = true) (w2 : a2.size ≤ maxLen) (w4 : a4.size ≤ maxLen)  :
    Calls Tryf.prog 5 #[.slice a0 len0 cap0, .int .i32 a1, .string a2, .bool a3, .string a4, .bool a5] w fun e w' => e = .returned (.bool true) ∧ Below w.heap.size w w' := by
  simp [Lit.wf, IntKind.min, IntKind.max, IntKind.signed, IntKind.bits] at w1
  obtain ⟨hlo, hhi⟩ := w1
  obtain ⟨hr, hA, hln⟩ := isrow_reads w0
  obtain ⟨X, hX⟩ : ∃ X, X = z0.take len0 := ⟨_, rfl⟩
  rw [← hX] at hr
  have HX := Lib.hid (show X.length = len0 by have := hr.1; simpa using this)
  have HR := Lib.hid hr; have HA := Lib.hid hA; have HLN := Lib.hid hln; have HW2 := Lib.hid w2; have HW4 := Lib.hid w4
  have hE := Lib.encodeRuneZ_length a1
  obtain ⟨E, hEE⟩ : ∃ E, E = Lib.encodeRuneZ a1 := ⟨_, rfl⟩
  rw [← hEE] at hE
  have HRC : Hid (Lib.runeCells a1 = E.map (Value.int .u8)) := Lib.hid (by rw [hEE]; rfl)
  obtain ⟨q, hq⟩ : ∃ q, E.length = q := ⟨_, rfl⟩
  rw [hq] at hE
  have HQ := Lib.hid hq
  obtain ⟨hq1, hq4⟩ := hE
  clear hr hX w0 hA hEE hq
  unfold maxLen at hln w2 w4
  by_cases hbig : len0 + a2.size + a4.size ≤ 1048576
  case neg =>
    have HB := Lib.hid (show decide (len0 + a2.size + a4.size ≤ 1048576) = false by simpa using hbig)
    go_enter Tryf.func5, Tryf.ntmps5
    go_wp2_with (go_at_call 17; refine (zb a0 len0 cap0 a1 a2 a3 a4 a5 _ HLN.out HW2.out HW4.out).mono ?_; rw [HB.out]; rintro e wz ⟨rfl, rfl⟩)
    go_ret
    exact ⟨rfl, Below.refl _ _⟩
  have HB := Lib.hid (show decide (len0 + a2.size + a4.size ≤ 1048576) = true by simpa using hbig)
  by_cases hx : isHex a1 = true
  · have HHX := Lib.hid hx
    clear hx
    go_enter Tryf.func5, Tryf.ntmps5
    go_wp2_with (first | (go_at_call 17; refine (zb a0 len0 cap0 a1 a2 a3 a4 a5 _ HLN.out HW2.out HW4.out).mono ?_; rw [HB.out]; rintro e wz ⟨rfl, rfl⟩) | (go_at_call 14; refine (hexd_any a1 _).mono ?_; rw [HHX.out]; rintro e wz ⟨rfl, rfl⟩))
    go_ret
    exact ⟨rfl, Below.refl _ _⟩
  have HHX := Lib.hid (show isHex a1 = false by simpa using hx)
  clear hx
  go_enter Tryf.func5, Tryf.ntmps5
  go_wp2_with (first | (go_at_call 17; refine (zb a0 len0 cap0 a1 a2 a3 a4 a5 _ HLN.out HW2.out HW4.out).mono ?_; rw [HB.out]; rintro e wz ⟨rfl, rfl⟩) | (go_at_call 14; refine (hexd_any a1 _).mono ?_; rw [HHX.out]; rintro e wz ⟨rfl, rfl⟩))
  go_wp2_with (go_at_call 9; refine (copyRow a0 len0 cap0 X w HR.out (by omega) HA.out).mono ?_)
  rintro e w1 ⟨A1, n1, c1, rfl, hl1, ho1, hb1⟩
  obtain rfl : len0 = n1 := by have := HX.out; simp at hl1; omega
  have O1 := Lib.hid ho1; have L1 := Lib.hid hl1; have B1 := Lib.hid hb1
  have R1 : Hid (Reads w1 w1.heap.size 1 A1 len0 (X.map (Value.int .u8))) := Lib.hid (Reads.of_own ho1)
  have HA1 : Hid (A1 = none → len0 = 0) := Lib.hid (own_none ho1)
  clear hl1 ho1 hb1
  go_wp2_with (go_at_call 9; refine (copyRow A1 len0 c1 X w1 R1.out (by omega) HA1.out).mono ?_)
  rintro e w2 ⟨A2, n2, c2, rfl, hl2, ho2, hb2⟩
  obtain rfl : len0 = n2 := by have := HX.out; simp at hl2; omega
  have O2 := Lib.hid ho2; have L2 := Lib.hid hl2; have B2 := Lib.hid hb2
  clear hl2 ho2 hb2
  go_wp2_with (go_at_call 16; refine (zzesc_any w1.heap.size A2 len0 c2 (X.map (Value.int .u8)) (X.map (Value.int .u8) ++ [.int .u8 92] ++ Lib.runeCells a1) a1 1 a2 a3 w2 O2.out L2.out B2.out.size (fun W K h hB => esc_bs a1 hlo hhi HHX.out a2 a3 W h hB len0 L2.out (by omega))).mono ?_)
  rintro e w3 ⟨⟨A3, n3, c3, rfl, hl3, ho3, hb3⟩, _⟩
  obtain rfl : n3 = len0 + 1 + q := by have := HX.out; have := HQ.out; have hrc := congrArg List.length HRC.out; simp at hl3 hrc; omega
  obtain ⟨g3, rfl, hc3, hc3m⟩ := own_some ho3 (by omega)
  have B13 := Lib.hid (B2.out.trans hb3)
  have R13 : Hid (Reads w3 w3.heap.size 1 A1 len0 (X.map (Value.int .u8))) := Lib.hid ((R1.out.below B13.out).more B13.out.size)
  have R3 : Hid (Reads w3 w3.heap.size 1 (some ⟨g3, 0, none⟩) (len0 + 1 + q) ((X ++ 92 :: E).map (Value.int .u8))) := Lib.hid (by have := Reads.of_own ho3; simpa [HRC.out] using this)
  clear hl3 ho3 hb3
  go_wp2_with (go_at_call 9; refine (copyRow A1 len0 c1 X w3 R13.out (by omega) HA1.out).mono ?_)
  rintro e w4 ⟨A4, n4, c4, rfl, hl4, ho4, hb4⟩
  obtain rfl : len0 = n4 := by have := HX.out; simp at hl4; omega
  have O4 := Lib.hid ho4; have L4 := Lib.hid hl4; have B4 := Lib.hid hb4
  clear hl4 ho4 hb4
  go_wp2_with (go_at_call 16; refine (zzesc_any w3.heap.size A4 len0 c4 (X.map (Value.int .u8)) (X.map (Value.int .u8) ++ Lib.runeCells a1) a1 0 a4 a5 w4 O4.out L4.out B4.out.size (fun W K h hB => esc_none a1 hlo hhi a4 a5 W h hB len0 L4.out (by omega))).mono ?_)
  rintro e w5 ⟨⟨A5, n5, c5, rfl, hl5, ho5, hb5⟩, _⟩
  obtain rfl : n5 = len0 + q := by have := HX.out; have := HQ.out; have hrc := congrArg List.length HRC.out; simp at hl5 hrc; omega
  obtain ⟨g5, rfl, hc5, hc5m⟩ := own_some ho5 (by omega)
  have B35 := Lib.hid (B4.out.trans hb5)
  have R15 : Hid (Reads w5 w5.heap.size 1 A1 len0 (X.map (Value.int .u8))) := Lib.hid ((R13.out.below B35.out).more B35.out.size)
  have R35 : Hid (Reads w5 w5.heap.size 1 (some ⟨g3, 0, none⟩) (len0 + 1 + q) ((X ++ 92 :: E).map (Value.int .u8))) := Lib.hid ((R3.out.below B35.out).more B35.out.size)
  have R5 : Hid (Reads w5 w5.heap.size 1 (some ⟨g5, 0, none⟩) (len0 + q) ((X ++ E).map (Value.int .u8))) := Lib.hid (by have := Reads.of_own ho5; simpa [HRC.out] using this)
  have B05 := Lib.hid (B1.out.trans ((B13.out.trans (B35.out.mono B13.out.size)).mono B1.out.size))
  clear hl5 ho5 hb5
  unfold maxLen at hc3m hc5m
  have T5 : Hid ((X ++ E).take len0 = X) := Lib.hid (List.take_left' HX.out)
  have T3 : Hid ((X ++ 92 :: E).take len0 = X) := Lib.hid (List.take_left' HX.out)
  go_wp2_with (go_at_call 12; refine (eq_any (some ⟨g5, 0, none⟩) len0 _ X A1 len0 c1 X w5 (by have := reads_take R5.out (m := len0) (by omega); rwa [T5.out] at this) R15.out (by omega) (by omega)).mono ?_)
  rintro e w6 rfl hb6
  have B56 := Lib.hid hb6
  have R16 : Hid (Reads w6 w6.heap.size 1 A1 len0 (X.map (Value.int .u8))) := Lib.hid ((R15.out.below hb6).more hb6.size)
  have R36 : Hid (Reads w6 w6.heap.size 1 (some ⟨g3, 0, none⟩) (len0 + 1 + q) ((X ++ 92 :: E).map (Value.int .u8))) := Lib.hid ((R35.out.below hb6).more hb6.size)
  have R56 : Hid (Reads w6 w6.heap.size 1 (some ⟨g5, 0, none⟩) (len0 + q) ((X ++ E).map (Value.int .u8))) := Lib.hid ((R5.out.below hb6).more hb6.size)
  clear hb6
  go_wp2_with (go_at_call 12; refine (eq_any (some ⟨g3, 0, none⟩) len0 _ X A1 len0 c1 X w6 (by have := reads_take R36.out (m := len0) (by omega); rwa [T3.out] at this) R16.out (by omega) (by omega)).mono ?_)
  rintro e w7 rfl hb7
  have B57 := Lib.hid (B56.out.trans (hb7.mono B56.out.size))
  have hR37 : Reads w7 w7.heap.size 1 (some ⟨g3, 0, none⟩) (len0 + 1 + q) ((X ++ 92 :: E).map (Value.int .u8)) := (R36.out.below hb7).more hb7.size
  have R57 : Hid (Reads w7 w7.heap.size 1 (some ⟨g5, 0, none⟩) (len0 + q) ((X ++ E).map (Value.int .u8))) := Lib.hid ((R56.out.below hb7).more hb7.size)
  have cL : w7.cell? ⟨g3, len0, none⟩ = some (.int .u8 92) := by
    obtain ⟨b, off, e, _, hc⟩ := reads_cell hR37 (by omega)
    injection e with e; injection e with e1 e2
    subst e1; subst e2
    have := hc len0 (by omega)
    rw [Nat.zero_add] at this
    rw [this, List.getD_eq_getElem?_getD, List.getElem?_append_right (by rw [HX.out]; omega), HX.out, Nat.sub_self]
    rfl
  have D3 : Hid ((X ++ 92 :: E).drop (len0 + 1) = E) := Lib.hid (by rw [← List.drop_drop, List.drop_left' HX.out]; rfl)
  have D5 : Hid ((X ++ E).drop len0 = E) := Lib.hid (List.drop_left' HX.out)
  have P3 : Hid (Reads w7.drew w7.drew.heap.size 1 (some ⟨g3, len0 + 1, none⟩) q (E.map (Value.int .u8))) := Lib.hid (by have := reads_drop hR37 (m := len0 + 1) (by omega); rw [D3.out, show len0 + 1 + q - (len0 + 1) = q by omega] at this; exact this.drew)
  have P5 : Hid (Reads w7.drew w7.drew.heap.size 1 (some ⟨g5, len0, none⟩) q (E.map (Value.int .u8))) := Lib.hid (by have := reads_drop R57.out (m := len0) (by omega); rw [D5.out, show len0 + q - len0 = q by omega] at this; exact this.drew)
  have k1 : len0 + 1 + q - (len0 + 1) = q := by omega
  have k2 : len0 + q - len0 = q := by omega
  have k3 : ¬ c3 = len0 + 1 := by omega
  have k4 : ¬ c5 = len0 := by omega
  have k5 : ((len0 : Int) + 1).toNat = len0 + 1 := by omega
  have hs3 : ∀ W : World, (Instr.slice 22 (.slice (some ⟨g3, 0, none⟩) (len0 + 1 + q) c3) (some (.int .i64 ((len0 : Int) + 1))) none none).run Tryf.prog W = .ok (.slice (some ⟨g3, len0 + 1, none⟩) q (c3 - (len0 + 1))) W := fun W => by have := cut_from g3 (len0 + 1 + q) c3 (len0 + 1) (by omega) (by omega) W ((len0 : Int) + 1) (by omega); rwa [k1] at this
  have hs5 : ∀ W : World, (Instr.slice 22 (.slice (some ⟨g5, 0, none⟩) (len0 + q) c5) (some (.int .i64 (len0 : Int))) none none).run Tryf.prog W = .ok (.slice (some ⟨g5, len0, none⟩) q (c5 - len0)) W := fun W => by have := cut_from g5 (len0 + q) c5 len0 (by omega) (by omega) W (len0 : Int) rfl; rwa [k2] at this
  have hwr : IntKind.i64.wrap ((len0 : Int) + 1) = (len0 : Int) + 1 := IntWalk.i64_in _ (by omega)
  have EQ : Hid (Calls Tryf.prog 12 #[.slice (some ⟨g3, len0 + 1, none⟩) q (c3 - (len0 + 1)), .slice (some ⟨g5, len0, none⟩) q (c5 - len0)] w7.drew fun e w' => e = .returned (.bool true) ∧ Below w7.drew.heap.size w7.drew w') := Lib.hid ((eq_any (some ⟨g3, len0 + 1, none⟩) q _ E (some ⟨g5, len0, none⟩) q _ E w7.drew P3.out P5.out (by omega) (by omega)).mono fun e w' ⟨h1, h2⟩ => ⟨by rw [h1]; simp, h2⟩)
  clear hb7 hR37 k1 k2 k3 k4 k5
  go_wp2
  go_region_with (go_at_call 12; refine EQ.out.mono ?_; rintro e w8 ⟨rfl, hb8⟩)
  go_wp2
  go_ret
  exact ⟨rfl, (B05.out.trans (B57.out.mono B05.out.size)).drew.trans (hb8.mono (Nat.le_trans B05.out.size B57.out.size))⟩

/-! ### THE ROW's STEP -/
set_option maxRecDepth 100000 in
theorem lifted (os : Os) (started : os.Started) (H : Type) (enc : TypeId × Value → H) :
    ReturnsInTold none {} Tryf.checked os 5 .any Input.okWide ((OpenSpec.ofChange Rows.fnPrintWithEscapeBackslashPrefixesPlainSpec).preRow enc Tryf.prog Tryf.f5 [] false []) (fun F => ((OpenSpec.ofChange Rows.fnPrintWithEscapeBackslashPrefixesPlainSpec).at F).post enc Tryf.prog Tryf.f5 false true false false) (aloneAtReturn Tryf.prog) nothingAlways := by
  refine returnsInTold_of_row (C := Tryf.checked) (s := (OpenSpec.ofChange Rows.fnPrintWithEscapeBackslashPrefixesPlainSpec)) (by kernel_rfl) own started (by kernel_rfl) Tryf.func5
    (OpenSpec.witness_stopped (enc := enc) (C := Tryf.checked) false ⟨#[], #[.slice none 0 0, .int .i32 0, .string ByteArray.empty, .bool false, .string ByteArray.empty, .bool false], []⟩ 8 (by kernel_rfl) (by kernel_rfl) (by kernel_rfl) (by kernel_rfl)) ?_
  intro F W base args ds gs before _ hF hval0 hW _ _ hsz _ _
  have hval : ∀ (j : Nat) t v, Tryf.f5.params[j]? = some t → args[j]? = some v → Value.okWide Tryf.prog W .any base t v := hval0
  have hW' := hW
  obtain ⟨p, q, hA0, hV, rfl, hfz, hnd⟩ := hW
  have hA : DataW.TrodAll enc Tryf.prog W 0 (fun _ => true) true Tryf.f5.params.toList args.toList ds p := hA0
  rw [Tryf.params5] at hA hval
  obtain ⟨v0, vs0, d0, ds0, p0, q0, hargs, rfl, rfl, h0, r0⟩ := trodAll_cons hA
  obtain ⟨v1, vs1, d1, ds1, p1, q1, rfl, rfl, rfl, h1, r1⟩ := trodAll_cons r0
  obtain ⟨v2, vs2, d2, ds2, p2, q2, rfl, rfl, rfl, h2, r2⟩ := trodAll_cons r1
  obtain ⟨v3, vs3, d3, ds3, p3, q3, rfl, rfl, rfl, h3, r3⟩ := trodAll_cons r2
  obtain ⟨v4, vs4, d4, ds4, p4, q4, rfl, rfl, rfl, h4, r4⟩ := trodAll_cons r3
  obtain ⟨v5, vs5, d5, ds5, p5, q5, rfl, rfl, rfl, h5, r5⟩ := trodAll_cons r4
  obtain ⟨rfl, rfl, rfl⟩ := trodAll_nil r5
  obtain rfl : args = #[v0, v1, v2, v3, v4, v5] := by cases args; simp_all
  obtain ⟨rfl, rfl⟩ := trodVars_none hV
  have k0 := h0
  have lt0 : ∀ x ∈ p0, x.block < W.heap.size := by obtain ⟨m, hm⟩ := k0; exact DataW.trod_lt m _ _ _ hm
  have k1 := h1
  have lt1 : ∀ x ∈ p1, x.block < W.heap.size := by obtain ⟨m, hm⟩ := k1; exact DataW.trod_lt m _ _ _ hm
  have k2 := h2
  have lt2 : ∀ x ∈ p2, x.block < W.heap.size := by obtain ⟨m, hm⟩ := k2; exact DataW.trod_lt m _ _ _ hm
  have k3 := h3
  have lt3 : ∀ x ∈ p3, x.block < W.heap.size := by obtain ⟨m, hm⟩ := k3; exact DataW.trod_lt m _ _ _ hm
  have k4 := h4
  have lt4 : ∀ x ∈ p4, x.block < W.heap.size := by obtain ⟨m, hm⟩ := k4; exact DataW.trod_lt m _ _ _ hm
  have k5 := h5
  have lt5 : ∀ x ∈ p5, x.block < W.heap.size := by obtain ⟨m, hm⟩ := k5; exact DataW.trod_lt m _ _ _ hm
  obtain ⟨a0, len0, cap0, rfl⟩ := okWide_slice Tryf.underlying22 (hval 0 22 v0 rfl rfl)
  obtain ⟨z0, w0⟩ : ∃ zs, IsRow .u8 W a0 len0 cap0 zs := by
    obtain ⟨fuel, hf⟩ := h0
    rcases open_ints Tryf.underlying22 Tryf.underlying5 (by kernel_rfl) hf with ⟨hcs, _⟩ | ⟨x, l, c, zs, hcs, _, hl, hm, hz, _, hcell, hwz⟩
    · simp [Value.cells] at hcs
      obtain ⟨rfl, rfl, rfl⟩ := hcs
      exact ⟨[], .inl ⟨rfl, rfl, rfl, rfl⟩⟩
    · simp [Value.cells] at hcs
      obtain ⟨rfl, rfl, rfl⟩ := hcs
      exact ⟨zs, .inr ⟨_, rfl, hl, hm, by simpa using hz, hcell, hwz⟩⟩
  obtain ⟨a1, rfl, rfl, rfl, w1⟩ := open_int Tryf.underlying21 (hval 1 21 v1 rfl rfl) h1
  obtain ⟨a2, rfl, rfl, rfl, w2⟩ := open_string Tryf.underlying9 (hval 2 9 v2 rfl rfl) h2
  obtain ⟨a3, rfl, rfl, rfl⟩ := open_bool Tryf.underlying4 (hval 3 4 v3 rfl rfl) h3
  obtain ⟨a4, rfl, rfl, rfl, w4⟩ := open_string Tryf.underlying9 (hval 4 9 v4 rfl rfl) h4
  obtain ⟨a5, rfl, rfl, rfl⟩ := open_bool Tryf.underlying4 (hval 5 4 v5 rfl rfl) h5
  clear hA0 hval0
  refine (walk a0 len0 cap0 z0 a1 a2 a3 a4 a5 W w0 w1 w2 w4 ).mono fun e W' ⟨he, bel⟩ => ?_
  subst he
  exact ⟨_, rfl, _, _, _, [], _, [], hW', trodAll_mk1 (shut_bool Tryf.underlying4 _), (trodAll_cons_mk (Below.trod laidOut (by kernel_rfl) (of_decide_eq_true (by kernel_rfl)) k0 bel lt0) (trodAll_cons_mk (Below.trod laidOut (by kernel_rfl) (of_decide_eq_true (by kernel_rfl)) k1 bel lt1) (trodAll_cons_mk (Below.trod laidOut (by kernel_rfl) (of_decide_eq_true (by kernel_rfl)) k2 bel lt2) (trodAll_cons_mk (Below.trod laidOut (by kernel_rfl) (of_decide_eq_true (by kernel_rfl)) k3 bel lt3) (trodAll_cons_mk (Below.trod laidOut (by kernel_rfl) (of_decide_eq_true (by kernel_rfl)) k4 bel lt4) (trodAll_cons_mk (Below.trod laidOut (by kernel_rfl) (of_decide_eq_true (by kernel_rfl)) k5 bel lt5) trodAll_mk0)))))), rfl, bel.frame _, fun h => by cases h⟩

theorem stopsAre : Tryf.pinned.checked.prog.stops = ["fmt.Sprintf"] := by kernel_rfl
theorem stopKnobs : Tryf.pinned.checked.prog.stopKnobs = [] := by kernel_rfl
theorem quiet (os : Os) : Stop.quiet Tryf.pinned.checked.prog os := by
  intro k hk
  rw [stopKnobs] at hk
  cases hk

theorem proved : Rows.FnPrintWithEscapeBackslashPrefixesPlainToldSaid :=
  Claim7.holds_of_told_any 5 Tryf.f5 "fmt.Sprintf" [] [] _ _ _ (by kernel_rfl) rfl rfl rfl laidOut (by kernel_rfl) rfl ⟨rfl, rfl, rfl, rfl, rfl, rfl, rfl⟩ rfl rfl (by kernel_rfl) (by kernel_rfl) Tryf.func5 (by kernel_rfl)
    (of_decide_eq_true (by kernel_rfl)) (of_decide_eq_true (by kernel_rfl)) stopsAre.symm rfl stopKnobs.symm (by kernel_rfl)
    (by kernel_rfl) (by kernel_rfl) (by kernel_rfl) (by kernel_rfl) (by kernel_rfl) (by kernel_rfl) (by kernel_rfl) (by kernel_rfl) (by kernel_rfl) rfl (by kernel_rfl) rfl rfl
    rfl rfl
    rfl (by kernel_rfl) (by kernel_rfl) (by kernel_rfl) (by decide) (by kernel_rfl)
    (OpenClaim.moreEntering_of (by kernel_rfl) (by kernel_rfl) (by kernel_rfl) (by kernel_rfl) (by kernel_rfl) (by kernel_rfl) (by kernel_rfl) (by kernel_rfl) (by kernel_rfl) (by kernel_rfl))
    ⟨_, WideRow.started_initial, quiet _⟩
    (fun os started _ H enc _ => lifted os started H enc)
#print axioms proved
end Go.Proofs.YthpbnnlmmljcoaaFmt.fnPrintWithEscapeBackslashPrefixesPlain