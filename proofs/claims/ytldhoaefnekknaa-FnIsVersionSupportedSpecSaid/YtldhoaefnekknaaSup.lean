/- The walk of isVersionSupported: some range holds the version. -/
import Derived.Test.YtldhoaefnekknaaRows
import Derived.Test.YtldhoaefnekknaaWords
import Derived.Test.YtldhoaefnekknaaRng
import Derived.Test.YtldhoaefnekknaaCmpV
import Derived.WalkKit
import Derived.WalkSpells
import Derived.LoopTactic
import Derived.Outline
import Derived.Deep.Light
namespace Go.Proofs.Ytldhoaefnekknaa
open Go.RowKit
set_option linter.unusedVariables false
set_option linter.unusedSimpArgs false

/-- The sign of a bound against a version. -/
def cv (M m p : Int) (zs : List Int) (k : Nat) : Int := cmp3 (wrap64 (M - zs.getD 0 0)) (wrap64 (m - zs.getD 1 0)) (wrap64 (p - zs.getD 2 0)) k
def openEnd (r : Rng) : Bool := (r.d == 0) && ((r.e == 0) && (r.f == 0))
def holds1 (zs : List Int) (k : Nat) (r : Rng) : Bool := decide (cv r.a r.b r.c zs k ≤ 0) && (openEnd r || decide (0 < cv r.d r.e r.f zs k))
def CmpPost (c : Int) (w : World) (e : Ending) (w' : World) : Prop := e = .returned (.int .i64 c) ∧ w.grownBy w' none
theorem cmpP (M m p : Int) (h : (0 ≤ M ∧ M ≤ 65535) ∧ (0 ≤ m ∧ m ≤ 255) ∧ (0 ≤ p ∧ p ≤ 255)) (A : Option Addr) (n cap : Nat) (zs : List Int) (pre : ByteArray) (w : World)
    (hr : Reads w w.heap.size 1 A n (zs.map (Value.int .i64))) (hn : n ≤ 16777216) (c : Int) (hc : cv M m p zs pre.size = c) :
    Calls Try.prog 14 #[.agg #[.int .u16 M, .int .u8 m, .int .u8 p], .agg #[.slice A n cap, .string pre]] w (CmpPost c w) := by
  subst hc
  exact (cmp_any M m p h.1.1 h.1.2 h.2.1.1 h.2.1.2 h.2.2.1 h.2.2.2 A n cap zs pre w hr hn).mono fun e w' h => h
def SupPost (b : Bool) (w : World) (e : Ending) (w' : World) : Prop := e = .returned (.bool b) ∧ Below w.heap.size w w'
theorem below_none {B : Nat} {a w w' : World} (h : Below B a w) (hg : w.grownBy w' none) (hB : B ≤ w.heap.size) : Below B a w' := h.grown hg hB (fun k hk => by cases hk)
theorem any_step {Z : List Rng} {k : Nat} {r : Rng} {p : Rng → Bool} (hr : Z[k]? = some r) (h : ∀ i r, i < k → Z[i]? = some r → p r = false) (hp : p r = false) : ∀ i r, i < k + 1 → Z[i]? = some r → p r = false := by
  intro i r' hi hr'
  by_cases e : i = k
  · subst e
    rw [hr] at hr'
    obtain rfl := Option.some.inj hr'
    exact hp
  · exact h i r' (by omega) hr'
theorem any_none {Z : List Rng} {p : Rng → Bool} (h : ∀ i r, i < Z.length → Z[i]? = some r → p r = false) : Z.any p = false := by
  rw [List.any_eq_false]
  intro r hr
  obtain ⟨i, hi, rfl⟩ := List.getElem_of_mem hr
  rw [h i _ hi (List.getElem?_eq_getElem hi)]
  simp
theorem any_hit {Z : List Rng} {p : Rng → Bool} {k : Nat} {r : Rng} (hr : Z[k]? = some r) (hp : p r = true) : Z.any p = true := by
  rw [List.any_eq_true]
  exact ⟨r, List.mem_of_getElem? hr, hp⟩
set_option maxHeartbeats 2000000 in
set_option maxRecDepth 100000 in
theorem supp (A : Option Addr) (n cap : Nat) (Z : List Rng) (ZA : Option Addr) (zn zcap : Nat) (zs : List Int) (pre : ByteArray) (w : World)
    (hr : Reads w w.heap.size 6 A n (row6 Z)) (hok : ∀ r ∈ Z, r.ok) (hz : Reads w w.heap.size 1 ZA zn (zs.map (Value.int .i64))) (hn : n ≤ 16777216) (hzn : zn ≤ 16777216) :
    Calls Try.prog 13 #[.slice A n cap, .agg #[.slice ZA zn zcap, .string pre]] w (SupPost (Z.any (holds1 zs pre.size)) w) := by
  have hlen : Z.length = n := by have := hr.1; rw [row6_len] at this; omega
  have HR := Lib.hid hr; have HLEN := Lib.hid hlen; have HOK := Lib.hid hok; have HZ := Lib.hid hz
  have HZN := Lib.hid hzn
  clear hr hlen hok hz hzn
  obtain ⟨w0, hw0⟩ : ∃ w0, w0 = w.alloc (.cells #[.slice ZA zn zcap, .string pre] 34) := ⟨_, rfl⟩
  have hb0 : Below w.heap.size w w0 := by rw [hw0]; exact (Below.refl _ _).alloc (Nat.le_refl _) _
  have hs0 : w0.heap.size = w.heap.size + 1 := by rw [hw0]; simp
  have hk0 : Blk w0 w.heap.size 34 #[.slice ZA zn zcap, .string pre] := by rw [hw0]; exact Blk.new _ _ _
  have HB0 := Lib.hid hb0; have HK0 := Lib.hid hk0
  clear hb0 hk0
  go_enter Try.func13, Try.ntmps13
  go_wp2
  rw [← hw0]
  clear hw0
  go_loopw [9] (fun t wr => ∃ k : Nat, t = .int .i64 k ∧ k ≤ n ∧ (∀ i r, i < k → Z[i]? = some r → holds1 zs pre.size r = false) ∧ Below w0.heap.size w0 wr) (fun t _ => n - (intOf t).toNat)
  case atStart => exact ⟨0, rfl, by omega, fun i r hi => by omega, Below.refl _ _⟩
  case round =>
    obtain ⟨k, rfl, hk, hno, hb⟩ := hrel
    have HNO := Lib.hid hno
    have hsz := hb.size
    have hs1 : w.heap.size < wr.heap.size := by omega
    have HBW := Lib.hid (HB0.out.trans (hb.mono (by omega)))
    have HK := Lib.hid (HK0.out.below hb (by omega))
    have HB := Lib.hid hb
    clear hno hb
    by_cases hlt : k < n
    · obtain ⟨b, off, rfl, hbk, hx⟩ := reads6 (HR.out.below HBW.out) (by omega)
      obtain ⟨r, hr⟩ : ∃ r, Z[k]? = some r := ⟨_, List.getElem?_eq_getElem (by have := HLEN.out; omega)⟩
      have hro := HOK.out r (List.mem_of_getElem? hr)
      obtain ⟨q0, q1, q2, q3, q4, q5⟩ := hx k r hr
      have HRK := Lib.hid hr
      have b0 : wr.cell? ⟨w.heap.size, 0, none⟩ = some (.slice ZA zn zcap) := by rw [HK.out.cell]; rfl
      have b1 : wr.cell? ⟨w.heap.size, 1, none⟩ = some (.string pre) := by rw [HK.out.cell]; rfl
      have HRO := Lib.hid hro
      clear hx hr hro
      obtain ⟨c1, hc1⟩ : ∃ c1, cv r.a r.b r.c zs pre.size = c1 := ⟨_, rfl⟩
      obtain ⟨c2, hc2⟩ : ∃ c2, cv r.d r.e r.f zs pre.size = c2 := ⟨_, rfl⟩
      have HC1 := Lib.hid hc1; have HC2 := Lib.hid hc2
      clear hc1 hc2
      have hW : ∀ W : World, W = wr.alloc (.cells (cells6 r).toArray 41) → Reads W W.heap.size 1 ZA zn (zs.map (Value.int .i64)) ∧ Below w0.heap.size w0 W ∧ Blk W wr.heap.size 41 (cells6 r).toArray ∧ Blk W w.heap.size 34 #[.slice ZA zn zcap, .string pre] ∧ W.heap.size = wr.heap.size + 1 := fun W hW => by
        subst hW
        exact ⟨((HZ.out.below HBW.out).alloc (by omega) _).more (by simp; omega), HB.out.alloc hsz _, Blk.new _ _ _, HK.out.alloc _, by simp⟩
      have HW := Lib.hid hW
      clear hW
      go_wp2_with (go_at_call 14; refine (cmpP r.a r.b r.c ⟨HRO.out.1, HRO.out.2.1, HRO.out.2.2.1⟩ ZA zn zcap zs pre _ (HW.out _ rfl).1 HZN.out c1 HC1.out).mono ?_)
      rintro e w1 ⟨rfl, hg⟩
      obtain ⟨hW1, hW2, hW3, hW4, hW5⟩ := HW.out _ rfl
      have hg1 := hg.size
      rw [hW5] at hg1
      have V1 := Lib.hid (hW1.keep (w' := w1) fun p hp => World.cell?_of_block (hg.block p.block hp (by simp)))
      have V2 := Lib.hid (below_none hW2 hg (by omega))
      have hV3 := hW3.grown hg (by simp)
      have hV4 := hW4.grown hg (by simp)
      have d3 : w1.cell? ⟨wr.heap.size, 3, none⟩ = some (.int .u16 r.d) := hV3.cell 3
      have d4 : w1.cell? ⟨wr.heap.size, 4, none⟩ = some (.int .u8 r.e) := hV3.cell 4
      have d5 : w1.cell? ⟨wr.heap.size, 5, none⟩ = some (.int .u8 r.f) := hV3.cell 5
      have f0 : w1.cell? ⟨w.heap.size, 0, none⟩ = some (.slice ZA zn zcap) := hV4.cell 0
      have f1 : w1.cell? ⟨w.heap.size, 1, none⟩ = some (.string pre) := hV4.cell 1
      have VS := Lib.hid (show Reads w1 w1.heap.size 1 ZA zn (zs.map (Value.int .i64)) from V1.out.more (by rw [hW5]; omega))
      clear hg hW1 hW2 hW3 hW4 hW5 hV3 hV4
      by_cases hle : c1 ≤ 0
      case neg =>
        have HN := Lib.hid (show holds1 zs pre.size r = false by unfold holds1; rw [HC1.out]; simp [hle])
        go_wp2
        go_roundw
        case rel => exact ⟨k + 1, by go_num, by omega, any_step HRK.out HNO.out HN.out, V2.out⟩
        case measure => simp [intOf]; omega
      by_cases hop : openEnd r = true
      · have HT := Lib.hid (show Z.any (holds1 zs pre.size) = true from any_hit HRK.out (by unfold holds1; rw [HC1.out, hop]; simp [hle]))
        unfold openEnd at hop
        simp only [Bool.and_eq_true] at hop
        obtain ⟨t1, t2, t3⟩ := hop
        go_wp2
        go_ret
        exact ⟨ret_bool HT.out.symm, HB0.out.trans (V2.out.mono (by omega))⟩
      · have hop' : openEnd r = false := by simpa using hop
        have HOP := Lib.hid hop'
        clear hop
        unfold openEnd at hop'
        by_cases h2 : 0 < c2
        · have HT := Lib.hid (show Z.any (holds1 zs pre.size) = true from any_hit HRK.out (by unfold holds1; rw [HC1.out, HC2.out]; simp [hle, h2]))
          cases t1 : (r.d == 0) <;> cases t2 : (r.e == 0) <;> cases t3 : (r.f == 0) <;> rw [t1, t2, t3] at hop' <;> first | (exfalso; revert hop'; decide) | skip
          all_goals
            clear hop'
            go_wp2_with (go_at_call 14; refine (cmpP r.d r.e r.f HRO.out.2.2.2 ZA zn zcap zs pre _ VS.out HZN.out c2 HC2.out).mono ?_)
            rintro e w2 ⟨rfl, hg⟩
            have V3 := Lib.hid (below_none V2.out hg (by omega))
            clear hg
            go_wp2
            go_ret
            exact ⟨ret_bool HT.out.symm, HB0.out.trans (V3.out.mono (by omega))⟩
        · have HN := Lib.hid (show holds1 zs pre.size r = false by unfold holds1; rw [HC1.out, HC2.out, HOP.out]; simp [h2])
          cases t1 : (r.d == 0) <;> cases t2 : (r.e == 0) <;> cases t3 : (r.f == 0) <;> rw [t1, t2, t3] at hop' <;> first | (exfalso; revert hop'; decide) | skip
          all_goals
            clear hop'
            go_wp2_with (go_at_call 14; refine (cmpP r.d r.e r.f HRO.out.2.2.2 ZA zn zcap zs pre _ VS.out HZN.out c2 HC2.out).mono ?_)
            rintro e w2 ⟨rfl, hg⟩
            have V3 := Lib.hid (below_none V2.out hg (by omega))
            clear hg
            go_wp2
            go_roundw
            case rel => exact ⟨k + 1, by go_num, by omega, any_step HRK.out HNO.out HN.out, V3.out⟩
            case measure => simp [intOf]; omega
    · obtain rfl : k = n := by omega
      have HF := Lib.hid (show Z.any (holds1 zs pre.size) = false from any_none (by rw [HLEN.out]; exact HNO.out))
      go_wp2
      go_ret
      exact ⟨ret_bool HF.out.symm, HBW.out⟩
set_option maxHeartbeats 1000000 in
set_option maxRecDepth 100000 in
theorem supW (A : Option Addr) (n cap : Nat) (Z : List Rng) (ZA : Option Addr) (zn zcap : Nat) (zs : List Int) (pre : ByteArray) (w : World)
    (hr : Reads w w.heap.size 6 A n (row6 Z)) (hok : ∀ r ∈ Z, r.ok) (hz : Reads w w.heap.size 1 ZA zn (zs.map (Value.int .i64))) (hn : n ≤ 16777216) (hzn : zn ≤ 16777216) (b : Bool) (hb : Z.any (holds1 zs pre.size) = b) :
    Calls Try.prog 10 #[.slice A n cap, .agg #[.slice ZA zn zcap, .string pre]] w (SupPost b w) := by
  subst hb
  have HR := Lib.hid ((hr.alloc (Nat.le_refl _) (.cells #[.slice ZA zn zcap, .string pre] 34)).more (B' := (w.alloc (.cells #[.slice ZA zn zcap, .string pre] 34)).heap.size) (by simp))
  have HZ := Lib.hid ((hz.alloc (Nat.le_refl _) (.cells #[.slice ZA zn zcap, .string pre] 34)).more (B' := (w.alloc (.cells #[.slice ZA zn zcap, .string pre] 34)).heap.size) (by simp))
  have HOK := Lib.hid hok
  clear hr hz hok
  go_enter Try.func10, Try.ntmps10
  go_wp2_with (go_at_call 13; refine (supp A n cap Z ZA zn zcap zs pre _ HR.out HOK.out HZ.out hn hzn).mono ?_)
  rintro e w1 ⟨rfl, hb⟩
  have HB := Lib.hid (((Below.refl w.heap.size w).alloc (Nat.le_refl _) _).trans (hb.mono (by simp)))
  clear hb
  go_wp2
  go_ret
  exact ⟨rfl, HB.out⟩
end Go.Proofs.Ytldhoaefnekknaa
