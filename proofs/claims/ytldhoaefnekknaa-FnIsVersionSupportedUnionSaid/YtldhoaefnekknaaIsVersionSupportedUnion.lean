/-
  PROVED: the ranges of a followed by those of b support a version exactly when a supports it or b supports it.
-/
import Derived.Test.YtldhoaefnekknaaRows
import Derived.WalkKit
import Derived.ProofKit
import Derived.Outline
import Derived.LoopTactic
import Derived.WalkSpells
import Derived.Deep.Light
import Derived.Test.YtldhoaefnekknaaCli
import Derived.Test.YtldhoaefnekknaaRngW
import Derived.Test.YtldhoaefnekknaaSup
import Derived.OpenShut
import Derived.ShutString
import Derived.ChangeOld
import Derived.Below
import Derived.Carry
namespace Go.Proofs.Ytldhoaefnekknaa.fnIsVersionSupportedUnion
open Go.ChangeShapes Go.WideShapes Go.ChangeAt Go.RowKit
open Go.ChangeMaps (open_string shut_string)
set_option linter.unusedVariables false
set_option linter.unusedSimpArgs false

theorem own : ownKnob Try.prog.godebug = none := by kernel_rfl
theorem laidOut : laidOutB Try.pinned.checked.prog = true := by kernel_rfl

/-- What the walk is told of a slice of integers that came in. -/
def IsRow (k : IntKind) (w : World) (a : Option Addr) (len cap : Nat) (zs : List Int) : Prop :=
  (a = none ∧ len = 0 ∧ cap = 0 ∧ zs = []) ∨
  ∃ x, a = some x ∧ len ≤ cap ∧ cap ≤ maxLen ∧ zs.length = cap ∧ (∀ i, i < zs.length → w.cell? (x.add i) = some (.int k (zs.getD i 0))) ∧ ∀ n ∈ zs, (Lit.int k n).wf = true
theorem isrow_reads {k : IntKind} {w : World} {a : Option Addr} {len cap : Nat} {zs : List Int} (h : IsRow k w a len cap zs) : Reads w w.heap.size 1 a len ((zs.take len).map (Value.int k)) ∧ (a = none → len = 0) ∧ len ≤ maxLen := by
  rcases h with ⟨rfl, rfl, rfl, rfl⟩ | ⟨x, rfl, hl, hm, hz, hc, _⟩
  · exact ⟨Reads.none_, fun _ => rfl, by unfold maxLen; omega⟩
  · refine ⟨⟨by simp; omega, fun hn => ⟨x, rfl, ?_, fun j u hu => ?_⟩⟩, (fun h => by cases h), by omega⟩
    · have := hc 0 (by omega)
      exact World.block_lt_of_cell? w x (by simpa [Addr.add] using this)
    · have hj : j < len := by
        have := (List.getElem?_eq_some_iff.1 hu).1
        simp at this; omega
      rw [hc j (by omega)]
      rw [List.getElem?_map, List.getElem?_take_of_lt hj, List.getElem?_eq_getElem (by omega)] at hu
      rw [List.getD_eq_getElem?_getD, List.getElem?_eq_getElem (by omega)]
      exact hu



def AnyBool (w : World) (e : Ending) (w' : World) : Prop := ∃ b, e = .returned (.bool b) ∧ w = w'
set_option maxRecDepth 100000 in
theorem zb (A : Option Addr) (n c : Nat) (B : Option Addr) (m d : Nat) (C : Option Addr) (k f : Nat) (s : ByteArray) (w : World) (hn : n ≤ maxLen) (hm : m ≤ maxLen) (hk : k ≤ maxLen) (hs : s.size ≤ maxLen) :
    Calls Try.prog 5 #[.slice A n c, .slice B m d, .slice C k f, .string s] w (AnyBool w) := by
  unfold maxLen at hn hm hk hs
  go_enter Try.func5, Try.ntmps5
  go_wp2
  all_goals
    go_ret
    exact ⟨_, rfl, rfl⟩
set_option maxRecDepth 100000 in
theorem noR (w : World) : Calls Try.prog 8 #[] w fun e w' => e = .returned (.slice none 0 0) ∧ w = w' := by
  go_enter Try.func8, Try.ntmps8
  go_wp2
  go_ret
  exact ⟨rfl, rfl⟩
def CloneI (w : World) (n : Nat) (xs : List Value) (e : Ending) (w' : World) : Prop :=
  ∃ A c, e = .returned (.slice A n c) ∧ Reads w' w'.heap.size 1 A n xs ∧ Below w.heap.size w w'
theorem cloneIR (A : Option Addr) (n cap : Nat) (zs : List Int) (w : World) (hr : Reads w w.heap.size 1 A n (zs.map (Value.int .i64))) (hA : A = none → n = 0) (hn : n ≤ 16777216) :
    Calls Try.prog 7 #[.slice A n cap] w (CloneI w n (zs.map (Value.int .i64))) := by
  refine (cloneI A n cap zs w hr hn).mono ?_
  rintro e w' (⟨hn0, rfl, rfl⟩ | ⟨g, _, rfl, hge, hbk, hb⟩)
  · obtain rfl := hA hn0
    exact ⟨none, 0, rfl, by have := hr.1; obtain rfl : zs = [] := List.eq_nil_of_length_eq_zero (by simpa using this); exact Reads.none_, Below.refl _ _⟩
  · refine ⟨_, _, rfl, ⟨hr.1, fun hn => ⟨_, rfl, hbk.lt, fun j u hu => ?_⟩⟩, hb⟩
    have := hbk.cell j
    rw [List.getElem?_toArray, hu] at this
    rw [← this]
    unfold Addr.add
    split
    · rename_i h0; subst h0; rfl
    · show World.cell? _ ⟨g, 0 + j, none⟩ = _
      rw [Nat.zero_add]
theorem take_step {Z : List Rng} {k : Nat} {r : Rng} (h : Z[k]? = some r) : Z.take (k + 1) = Z.take k ++ [r] := by
  rw [List.take_add_one, h]; rfl
def All4 (w : World) (V2 V1 V3 : Option Addr) (L2 L1 L3 : List Rng) (A : Option Addr) (n : Nat) (xs : List Value) (g : Nat) (cs : Array Value) : Prop :=
  Reads w w.heap.size 6 V2 L2.length (row6 L2) ∧ Reads w w.heap.size 6 V1 L1.length (row6 L1) ∧ Reads w w.heap.size 6 V3 L3.length (row6 L3) ∧ Reads w w.heap.size 1 A n xs ∧ Blk w g 34 cs
theorem All4.below {w w' : World} {V2 V1 V3 : Option Addr} {L2 L1 L3 : List Rng} {A : Option Addr} {n : Nat} {xs : List Value} {g : Nat} {cs : Array Value} (h : All4 w V2 V1 V3 L2 L1 L3 A n xs g cs) (hb : Below w.heap.size w w') : All4 w' V2 V1 V3 L2 L1 L3 A n xs g cs :=
  ⟨(h.1.below hb).more hb.size, (h.2.1.below hb).more hb.size, (h.2.2.1.below hb).more hb.size, (h.2.2.2.1.below hb).more hb.size, h.2.2.2.2.below hb h.2.2.2.2.lt⟩
/-! ### STEP 1: THE WALK -/
set_option maxHeartbeats 4000000 in
set_option maxRecDepth 100000 in
theorem walk (a0 : Option Addr) (len0 cap0 : Nat) (z0 : List Rng) (a1 : Option Addr) (len1 cap1 : Nat) (z1 : List Rng) (a2 : Option Addr) (len2 cap2 : Nat) (z2 : List Int) (a3 : ByteArray) (w : World) (w0 : IsRngs w a0 len0 z0) (w1 : IsRngs w a1 len1 z1) (w2 : IsRow .i64 w a2 len2 cap2 z2) (w3 : a3.size ≤ maxLen)  :
    Calls Try.prog 3 #[.slice a0 len0 cap0, .slice a1 len1 cap1, .slice a2 len2 cap2, .string a3] w fun e w' => e = .returned (.bool true) ∧ Below w.heap.size w w' := by
  obtain ⟨hr0, hA0, hl0, hz0, ho0⟩ := w0
  obtain ⟨hr1, hA1, hl1, hz1, ho1⟩ := w1
  obtain ⟨hr2, hA2, hl2⟩ := isrow_reads w2
  obtain ⟨zs, hzs⟩ : ∃ zs, zs = z2.take len2 := ⟨_, rfl⟩
  rw [← hzs] at hr2
  clear w2 hzs
  have HR0 := Lib.hid hr0; have HR1 := Lib.hid hr1; have HR2 := Lib.hid hr2
  have HA0 := Lib.hid hA0; have HA1 := Lib.hid hA1; have HA2 := Lib.hid hA2
  have HZ0 := Lib.hid hz0; have HZ1 := Lib.hid hz1; have HO0 := Lib.hid ho0; have HO1 := Lib.hid ho1
  have HL0 := Lib.hid hl0; have HL1 := Lib.hid hl1; have HL2 := Lib.hid hl2; have HL3 := Lib.hid w3
  clear hr0 hr1 hr2 hA0 hA1 hA2 hz0 hz1 ho0 ho1
  unfold maxLen at hl0 hl1 hl2 w3
  go_enter Try.func3, Try.ntmps3
  go_wp2_with (go_at_call 5; refine (zb a0 len0 cap0 a1 len1 cap1 a2 len2 cap2 a3 _ HL0.out HL1.out HL2.out HL3.out).mono ?_)
  rintro e wz ⟨bz, rfl, rfl⟩
  cases bz
  · go_wp2
    go_ret
    exact ⟨rfl, Below.refl _ _⟩
  by_cases hbad : 16384 < len0 ∨ 16384 < len1 ∨ 32768 < len2 ∨ 524288 < a3.size
  · have HBAD := Lib.hid hbad
    clear hbad
    go_wp2
    all_goals first | (go_ret; exact ⟨rfl, Below.refl _ _⟩) | (exfalso; have hq := HBAD.out; go_light; omega)
  have hn0 : len0 ≤ 16384 := by omega
  have hn1 : len1 ≤ 16384 := by omega
  have hn2 : len2 ≤ 32768 := by omega
  have hn3 : a3.size ≤ 524288 := by omega
  clear hbad hl0 hl1 hl2 w3
  go_wp2_with (go_at_call 6; refine (cloneR a0 len0 cap0 z0 w HR0.out HA0.out (by omega)).mono ?_)
  rintro e wa ⟨A1, c1, rfl, hR, hB⟩
  have RA := Lib.hid hR; have BA := Lib.hid hB
  clear hR hB
  go_wp2_with (go_at_call 6; refine (cloneR a1 len1 cap1 z1 wa ((HR1.out.below BA.out).more BA.out.size) HA1.out (by omega)).mono ?_)
  rintro e wb ⟨A2, c2, rfl, hR, hB⟩
  have RA2 := Lib.hid ((RA.out.below hB).more hB.size); have RB := Lib.hid hR; have BB := Lib.hid (BA.out.trans (hB.mono BA.out.size))
  clear hR hB
  go_wp2_with (go_at_call 7; refine (cloneIR a2 len2 cap2 zs wb ((HR2.out.below BB.out).more BB.out.size) HA2.out (by omega)).mono ?_)
  rintro e wB ⟨A3, c3, rfl, hR, hB⟩
  have RA3 := Lib.hid ((RA2.out.below hB).more hB.size); have RB3 := Lib.hid ((RB.out.below hB).more hB.size); have RC := Lib.hid hR; have BC := Lib.hid (BB.out.trans (hB.mono BB.out.size))
  clear hR hB RA BA RA2 RB BB HR0 HR1 HR2
  obtain ⟨B, hBB⟩ : ∃ B, B = wB.heap.size := ⟨_, rfl⟩
  rw [← hBB] at RA3 RB3 RC
  go_wp2_with (go_at_call 8; refine (noR _).mono ?_)
  rintro e wz ⟨rfl, rfl⟩
  go_wp2_with (go_at_call 8; refine (noR _).mono ?_)
  rintro e wz ⟨rfl, rfl⟩
  go_wp2
  go_loopw [9, 10, 11] (fun v1 v2 t wr => ∃ k : Nat, t = .int .i64 k ∧ k ≤ len0 ∧ Own3 wr B v1 (z0.take k) v2 (z0.take k) (.slice none 0 0) [] ∧ Below B wB wr) (fun _ _ t _ => len0 - (intOf t).toNat)
  case atStart => exact ⟨0, rfl, by omega, Own3.nil _ _, Below.refl _ _⟩
  case round =>
    obtain ⟨k, rfl, hk, hown, hb⟩ := hrel
    have hsz : B ≤ wr.heap.size := by rw [hBB]; exact hb.size
    have HOW := Lib.hid hown; have HBW := Lib.hid hb
    clear hown hb
    by_cases hlt : k < len0
    · obtain ⟨b, off, rfl, hbk, hx⟩ := reads6 (RA3.out.below HBW.out) (by omega)
      obtain ⟨r, hr⟩ : ∃ r, z0[k]? = some r := ⟨_, List.getElem?_eq_getElem (by have := HZ0.out; omega)⟩
      obtain ⟨q0, q1, q2, q3, q4, q5⟩ := hx k r hr
      have HTS := Lib.hid (take_step hr)
      clear hx hr
      have hW : ∀ W : World, W = wr.alloc (.cells (cells6 r).toArray 31) → Own3 W B u9 (z0.take k) u10 (z0.take k) (.slice none 0 0) [] ∧ Below B wB W ∧ Blk W wr.heap.size 31 (cells6 r).toArray ∧ B ≤ W.heap.size := fun W hW => by
        subst hW
        exact ⟨HOW.out.only (only_alloc (World.grownBy.refl _ _) _), HBW.out.alloc hsz _, Blk.new _ _ _, by simp; omega⟩
      have HW := Lib.hid hW
      clear hW
      go_wp2_with (go_at_call 9; refine (appR B u9 (z0.take k) r _ (HW.out _ rfl).1.o1 (by simp; omega) (HW.out _ rfl).2.2.2).mono ?_)
      rintro e w1 ⟨v1', rfl, ho, hg, hv⟩
      obtain ⟨hW1, hW2, hW3, hW4⟩ := HW.out _ rfl
      have hB1 : B ≤ w1.heap.size := Nat.le_trans hW4 hg.size
      have OW := Lib.hid (hW1.step ho hg hv)
      have BW := Lib.hid (hW1.below hg hW2 hW4)
      have hK := hW1.blk hg hW3 (by decide)
      have d0 : w1.cell? ⟨wr.heap.size, 0, none⟩ = some (.int .u16 r.a) := hK.cell 0
      have d1 : w1.cell? ⟨wr.heap.size, 1, none⟩ = some (.int .u8 r.b) := hK.cell 1
      have d2 : w1.cell? ⟨wr.heap.size, 2, none⟩ = some (.int .u8 r.c) := hK.cell 2
      have d3 : w1.cell? ⟨wr.heap.size, 3, none⟩ = some (.int .u16 r.d) := hK.cell 3
      have d4 : w1.cell? ⟨wr.heap.size, 4, none⟩ = some (.int .u8 r.e) := hK.cell 4
      have d5 : w1.cell? ⟨wr.heap.size, 5, none⟩ = some (.int .u8 r.f) := hK.cell 5
      clear hW1 hW2 hW3 hW4 ho hg hv hK q0 q1 q2 q3 q4 q5 HW
      go_wp2_with (go_at_call 9; refine (appR B u10 (z0.take k) r _ OW.out.o2 (by simp; have := HZ0.out; omega) hB1).mono ?_)
      rintro e w2 ⟨v2', rfl, ho, hg, hv⟩
      have OW2 := Lib.hid (OW.out.rot.step ho hg hv).rot.rot
      have BW2 := Lib.hid (OW.out.rot.below hg BW.out hB1)
      clear ho hg hv
      go_wp2
      go_roundw
      case rel => exact ⟨k + 1, by go_num, by omega, by rw [HTS.out]; exact OW2.out, BW2.out⟩
      case measure => simp [intOf]; omega
    · obtain rfl : k = len0 := by omega
      have HO2 : Hid (Own3 wr B (.slice none 0 0) [] u9 z0 u10 (z0 ++ [])) := Lib.hid (by
        have h := HOW.out.rot.rot
        rw [List.take_of_length_le (by rw [HZ0.out]; exact Nat.le_refl _)] at h
        rw [List.append_nil]; exact h)
      have HB2 := Lib.hid HBW.out
      clear HOW HBW hlt
      go_wp2_with (go_at_call 8; refine (noR _).mono ?_)
      rintro e wz ⟨rfl, rfl⟩
      go_wp2
      go_loopw [10, 13, 14] (fun v2 v3 t wr => ∃ k : Nat, t = .int .i64 k ∧ k ≤ len1 ∧ Own3 wr B v3 (z1.take k) u9 z0 v2 (z0 ++ z1.take k) ∧ Below B wB wr) (fun _ _ t _ => len1 - (intOf t).toNat)
      case atStart => exact ⟨0, rfl, by omega, HO2.out, HB2.out⟩
      case round =>
        clear HO2 HB2
        obtain ⟨k, rfl, hk, hown, hb⟩ := hrel
        have hsz : B ≤ wr.heap.size := by rw [hBB]; exact hb.size
        have HOW := Lib.hid hown; have HBW := Lib.hid hb
        clear hown hb
        by_cases hlt : k < len1
        · obtain ⟨b, off, rfl, hbk, hx⟩ := reads6 (RB3.out.below HBW.out) (by omega)
          obtain ⟨r, hr⟩ : ∃ r, z1[k]? = some r := ⟨_, List.getElem?_eq_getElem (by have := HZ1.out; omega)⟩
          obtain ⟨q0, q1, q2, q3, q4, q5⟩ := hx k r hr
          have HTS := Lib.hid (take_step hr)
          clear hx hr
          have hW : ∀ W : World, W = wr.alloc (.cells (cells6 r).toArray 31) → Own3 W B u13 (z1.take k) u9 z0 u10 (z0 ++ z1.take k) ∧ Below B wB W ∧ Blk W wr.heap.size 31 (cells6 r).toArray ∧ B ≤ W.heap.size := fun W hW => by
            subst hW
            exact ⟨HOW.out.only (only_alloc (World.grownBy.refl _ _) _), HBW.out.alloc hsz _, Blk.new _ _ _, by simp; omega⟩
          have HW := Lib.hid hW
          clear hW
          go_wp2_with (go_at_call 9; refine (appR B u13 (z1.take k) r _ (HW.out _ rfl).1.o1 (by simp; omega) (HW.out _ rfl).2.2.2).mono ?_)
          rintro e w1 ⟨v1', rfl, ho, hg, hv⟩
          obtain ⟨hW1, hW2, hW3, hW4⟩ := HW.out _ rfl
          have hB1 : B ≤ w1.heap.size := Nat.le_trans hW4 hg.size
          have OW := Lib.hid (hW1.step ho hg hv)
          have BW := Lib.hid (hW1.below hg hW2 hW4)
          have hK := hW1.blk hg hW3 (by decide)
          have d0 : w1.cell? ⟨wr.heap.size, 0, none⟩ = some (.int .u16 r.a) := hK.cell 0
          have d1 : w1.cell? ⟨wr.heap.size, 1, none⟩ = some (.int .u8 r.b) := hK.cell 1
          have d2 : w1.cell? ⟨wr.heap.size, 2, none⟩ = some (.int .u8 r.c) := hK.cell 2
          have d3 : w1.cell? ⟨wr.heap.size, 3, none⟩ = some (.int .u16 r.d) := hK.cell 3
          have d4 : w1.cell? ⟨wr.heap.size, 4, none⟩ = some (.int .u8 r.e) := hK.cell 4
          have d5 : w1.cell? ⟨wr.heap.size, 5, none⟩ = some (.int .u8 r.f) := hK.cell 5
          clear hW1 hW2 hW3 hW4 ho hg hv hK q0 q1 q2 q3 q4 q5 HW
          go_wp2_with (go_at_call 9; refine (appR B u10 (z0 ++ z1.take k) r _ OW.out.o3 (by simp; have := HZ0.out; omega) hB1).mono ?_)
          rintro e w2 ⟨v2', rfl, ho, hg, hv⟩
          have OW2 := Lib.hid (OW.out.rot.rot.step ho hg hv).rot
          have BW2 := Lib.hid (OW.out.rot.rot.below hg BW.out hB1)
          clear ho hg hv
          go_wp2
          go_roundw
          case rel => exact ⟨k + 1, by go_num, by omega, by rw [HTS.out]; rw [← List.append_assoc]; exact OW2.out, BW2.out⟩
          case measure => simp [intOf]; omega
        · obtain rfl : k = len1 := by omega
          have h3 := HOW.out
          rw [List.take_of_length_le (by rw [HZ1.out]; exact Nat.le_refl _)] at h3
          obtain ⟨zz, hzz⟩ : ∃ zz, zz = z0 ++ z1 := ⟨_, rfl⟩
          rw [← hzz] at h3
          obtain ⟨V3, C3, rfl, g3⟩ := own_slice h3.o1
          obtain ⟨V1, C1, rfl, g1⟩ := own_slice h3.o2
          obtain ⟨V2, C2, rfl, g2⟩ := own_slice h3.o3
          have HN2 := Lib.hid (show zz.length ≤ 16777216 by rw [hzz, List.length_append, HZ0.out, HZ1.out]; omega)
          have HN0 := Lib.hid (show z0.length ≤ 16777216 by rw [HZ0.out]; omega)
          have HN1 := Lib.hid (show z1.length ≤ 16777216 by rw [HZ1.out]; omega)
          obtain ⟨g0, hg0⟩ : ∃ g0, g0 = wr.heap.size := ⟨_, rfl⟩
          have HAL : ∀ W : World, W = wr.alloc (.cells #[.slice A3 len2 c3, .string a3] 34) → All4 W V2 V1 V3 zz z0 z1 A3 len2 (zs.map (Value.int .i64)) g0 #[.slice A3 len2 c3, .string a3] ∧ Below B wB W := fun W hW => by
            subst hW
            refine ⟨⟨(g2.alloc (Nat.le_refl _) _).more (by simp), (g1.alloc (Nat.le_refl _) _).more (by simp), (g3.alloc (Nat.le_refl _) _).more (by simp), ((RC.out.below HBW.out).alloc hsz _).more (by simp; omega), by rw [hg0]; exact Blk.new _ _ _⟩, HBW.out.alloc hsz _⟩
          have HA := Lib.hid HAL
          clear HAL h3 g1 g2 g3 HOW
          have OKA : ∀ r ∈ zz, r.ok := fun r hr => (List.mem_append.1 (hzz ▸ hr)).elim (HO0.out r) (HO1.out r)
          have OK0 := HO0.out; have OK1 := HO1.out
          have HOA := Lib.hid OKA
          clear OKA OK0 OK1
          obtain ⟨x, hx⟩ : ∃ x, z0.any (holds1 zs a3.size) = x := ⟨_, rfl⟩
          obtain ⟨y, hy⟩ : ∃ y, z1.any (holds1 zs a3.size) = y := ⟨_, rfl⟩
          have HX := Lib.hid hx; have HY := Lib.hid hy
          have HXY := Lib.hid (show zz.any (holds1 zs a3.size) = (x || y) by rw [hzz, List.any_append, hx, hy])
          clear hx hy hzz
          have BCW := Lib.hid (BC.out.trans (HBW.out.mono (by rw [hBB]; exact BC.out.size)))
          go_wp2_with (go_at_call 10; refine (supW V2 _ C2 zz A3 len2 c3 zs a3 _ (HA.out _ rfl).1.1 HOA.out (HA.out _ rfl).1.2.2.2.1 HN2.out (by omega) (x || y) HXY.out).mono ?_)
          rintro e w1 ⟨rfl, hb⟩
          have A1' := (HA.out _ rfl).1.below hb
          have BW1 := Lib.hid ((HA.out _ rfl).2.trans (hb.mono (by simp; omega)))
          have d0 : w1.cell? ⟨g0, 0, none⟩ = some (.slice A3 len2 c3) := A1'.2.2.2.2.cell 0
          have d1 : w1.cell? ⟨g0, 1, none⟩ = some (.string a3) := A1'.2.2.2.2.cell 1
          rw [hg0] at d0 d1
          have AL1 := Lib.hid A1'
          clear A1' hb
          go_wp2_with (go_at_call 10; refine (supW V1 _ C1 z0 A3 len2 c3 zs a3 _ AL1.out.2.1 HO0.out AL1.out.2.2.2.1 HN0.out (by omega) x HX.out).mono ?_)
          rintro e w2 ⟨rfl, hb⟩
          have A1' := AL1.out.below hb
          have BW2 := Lib.hid (BW1.out.trans (hb.mono (by have := BW1.out.size; omega)))
          have d0 : w2.cell? ⟨g0, 0, none⟩ = some (.slice A3 len2 c3) := A1'.2.2.2.2.cell 0
          have d1 : w2.cell? ⟨g0, 1, none⟩ = some (.string a3) := A1'.2.2.2.2.cell 1
          rw [hg0] at d0 d1
          have AL2 := Lib.hid A1'
          clear A1' hb
          go_wp2_with (go_at_call 10; refine (supW V3 _ C3 z1 A3 len2 c3 zs a3 _ AL2.out.2.2.1 HO1.out AL2.out.2.2.2.1 HN1.out (by omega) y HY.out).mono ?_)
          rintro e w3 ⟨rfl, hb⟩
          have BW3 := Lib.hid (BC.out.trans ((BW2.out.trans (hb.mono (by have := BW2.out.size; omega))).mono (by rw [hBB]; exact BC.out.size)))
          clear hb
          cases x <;> cases y
          all_goals
            go_wp2
            go_ret
            exact ⟨rfl, BW3.out⟩

/-! ### THE ROW's STEP -/
set_option maxRecDepth 100000 in
theorem lifted (os : Os) (started : os.Started) (H : Type) (enc : TypeId × Value → H) :
    ReturnsInHanded {} Try.checked os 3 .any (Rows.fnIsVersionSupportedUnionSpec.pre6 enc Try.prog Try.f3 Rows.fnIsVersionSupportedUnionRow.domain false) (Rows.fnIsVersionSupportedUnionSpec.post enc Try.prog Try.f3 false true false false) := by
  refine returnsInHanded_of_change (C := Try.checked) own started (by kernel_rfl) Try.func3
    (ChangeSpec.witness6 (enc := enc) (C := Try.checked) false ⟨#[], #[.slice none 0 0, .slice none 0 0, .slice none 0 0, .string ByteArray.empty], []⟩ 8 (by kernel_rfl) (by kernel_rfl) (by kernel_rfl) (by kernel_rfl)) ?_
  intro W base args ds gs before hval0 hW hcnd _
  have hval : ∀ (j : Nat) t v, Try.f3.params[j]? = some t → args[j]? = some v → Value.okWide Try.prog W .any base t v := hval0
  have hW' := hW
  obtain ⟨p, q, hA0, hV, rfl, hfz, hnd⟩ := hW
  have hA : DataW.TrodAll enc Try.prog W 0 (fun _ => true) true Try.f3.params.toList args.toList ds p := hA0
  rw [Try.params3] at hA hval
  obtain ⟨v0, vs0, d0, ds0, p0, q0, hargs, rfl, rfl, h0, r0⟩ := trodAll_cons hA
  obtain ⟨v1, vs1, d1, ds1, p1, q1, rfl, rfl, rfl, h1, r1⟩ := trodAll_cons r0
  obtain ⟨v2, vs2, d2, ds2, p2, q2, rfl, rfl, rfl, h2, r2⟩ := trodAll_cons r1
  obtain ⟨v3, vs3, d3, ds3, p3, q3, rfl, rfl, rfl, h3, r3⟩ := trodAll_cons r2
  obtain ⟨rfl, rfl, rfl⟩ := trodAll_nil r3
  obtain rfl : args = #[v0, v1, v2, v3] := by cases args; simp_all
  obtain ⟨rfl, rfl⟩ := trodVars_none hV
  have k0 := h0
  have lt0 : ∀ x ∈ p0, x.block < W.heap.size := by obtain ⟨m, hm⟩ := k0; exact DataW.trod_lt m _ _ _ hm
  have k1 := h1
  have lt1 : ∀ x ∈ p1, x.block < W.heap.size := by obtain ⟨m, hm⟩ := k1; exact DataW.trod_lt m _ _ _ hm
  have k2 := h2
  have lt2 : ∀ x ∈ p2, x.block < W.heap.size := by obtain ⟨m, hm⟩ := k2; exact DataW.trod_lt m _ _ _ hm
  have k3 := h3
  have lt3 : ∀ x ∈ p3, x.block < W.heap.size := by obtain ⟨m, hm⟩ := k3; exact DataW.trod_lt m _ _ _ hm
  obtain ⟨a0, len0, cap0, rfl⟩ := okWide_slice Try.underlying22 (hval 0 22 v0 rfl rfl)
  obtain ⟨z0, w0⟩ : ∃ zs, IsRngs W a0 len0 zs := by
    obtain ⟨fuel, hf⟩ := h0
    exact open_rngs Try.underlying22 Try.underlying31 (by kernel_rfl) (by kernel_rfl) Try.underlying29 Try.underlying5 Try.underlying5 Try.underlying29 Try.underlying5 Try.underlying5 hf
  obtain ⟨a1, len1, cap1, rfl⟩ := okWide_slice Try.underlying22 (hval 1 22 v1 rfl rfl)
  obtain ⟨z1, w1⟩ : ∃ zs, IsRngs W a1 len1 zs := by
    obtain ⟨fuel, hf⟩ := h1
    exact open_rngs Try.underlying22 Try.underlying31 (by kernel_rfl) (by kernel_rfl) Try.underlying29 Try.underlying5 Try.underlying5 Try.underlying29 Try.underlying5 Try.underlying5 hf
  obtain ⟨a2, len2, cap2, rfl⟩ := okWide_slice Try.underlying23 (hval 2 23 v2 rfl rfl)
  obtain ⟨z2, w2⟩ : ∃ zs, IsRow .i64 W a2 len2 cap2 zs := by
    obtain ⟨fuel, hf⟩ := h2
    rcases open_ints Try.underlying23 Try.underlying3 (by kernel_rfl) hf with ⟨hcs, _⟩ | ⟨x, l, c, zs, hcs, _, hl, hm, hz, _, hcell, hwz⟩
    · simp [Value.cells] at hcs
      obtain ⟨rfl, rfl, rfl⟩ := hcs
      exact ⟨[], .inl ⟨rfl, rfl, rfl, rfl⟩⟩
    · simp [Value.cells] at hcs
      obtain ⟨rfl, rfl, rfl⟩ := hcs
      exact ⟨zs, .inr ⟨_, rfl, hl, hm, by simpa using hz, hcell, hwz⟩⟩
  obtain ⟨a3, rfl, rfl, rfl, w3⟩ := open_string Try.underlying9 (hval 3 9 v3 rfl rfl) h3
  clear hA0 hval0
  refine (walk a0 len0 cap0 z0 a1 len1 cap1 z1 a2 len2 cap2 z2 a3 W w0 w1 w2 w3 ).mono fun e W' ⟨he, bel⟩ => ?_
  subst he
  exact ⟨_, rfl, _, _, _, [], _, [], hW', trodAll_mk1 (shut_bool Try.underlying4 _), (trodAll_cons_mk (Below.trod laidOut (by kernel_rfl) (of_decide_eq_true (by kernel_rfl)) k0 bel lt0) (trodAll_cons_mk (Below.trod laidOut (by kernel_rfl) (of_decide_eq_true (by kernel_rfl)) k1 bel lt1) (trodAll_cons_mk (Below.trod laidOut (by kernel_rfl) (of_decide_eq_true (by kernel_rfl)) k2 bel lt2) (trodAll_cons_mk (Below.trod laidOut (by kernel_rfl) (of_decide_eq_true (by kernel_rfl)) k3 bel lt3) trodAll_mk0)))), rfl, bel.frame _, fun h => by cases h⟩

theorem over : Rows.fnIsVersionSupportedUnionRow.holds Try.pinned (OpenSpec.ofChange Rows.fnIsVersionSupportedUnionSpec) :=
  OpenClaim.holds_of_wide 3 Try.f3 rfl rfl rfl rfl rfl rfl rfl ⟨rfl, rfl, rfl, rfl, rfl⟩ rfl rfl rfl rfl rfl (by kernel_rfl) Try.func3 (by kernel_rfl)
    (of_decide_eq_true (by kernel_rfl)) (by unfold Func.isWrapper; first | (rw [if_pos (by decide +kernel)]; kernel_rfl) | (rw [if_neg (by decide +kernel)]; exact ⟨rfl, rfl⟩))
    (fun os started H enc _ => lifted os started H enc)

theorem proved : Rows.FnIsVersionSupportedUnionSaid := over
#print axioms proved
end Go.Proofs.Ytldhoaefnekknaa.fnIsVersionSupportedUnion