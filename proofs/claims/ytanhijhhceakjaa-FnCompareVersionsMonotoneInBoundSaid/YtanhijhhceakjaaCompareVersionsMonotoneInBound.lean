/-
  PROVED: for all table versions, every slice of parts and every pre-release text the law FnCompareVersionsMonotoneInBound returns true and changes no argument. Conditions: none.
-/
import Derived.Test.YtanhijhhceakjaaRows
import Derived.WalkKit
import Derived.ProofKit
import Derived.Maps.AppendAt
import Derived.Deep.Light
import Derived.LoopTactic
import Derived.Test.YtanhijhhceakjaaClone
import Derived.Test.YtanhijhhceakjaaCmpV
import Derived.Outline
import Derived.OpenShut
import Derived.ShutString
import Derived.ChangeOld
import Derived.Below
namespace Go.Proofs.Ytanhijhhceakjaa.fnCompareVersionsMonotoneInBound
open Go.ChangeShapes Go.WideShapes Go.ChangeAt Go.RowKit
open Go.ChangeMaps (open_string shut_string)
set_option linter.unusedVariables false

theorem own : ownKnob Try.prog.godebug = none := by kernel_rfl
theorem laidOut : laidOutB Try.prog = true := by kernel_rfl

/-- WHAT THE WALK IS TOLD OF A SLICE OF INTEGERS THAT CAME IN: it is nil; or it leads to a row of 'cap' cells, the numbers 'zs' (the first 'len' are its elements, the rest its spare room), each fitting its kind. -/
def IsRow (k : IntKind) (w : World) (a : Option Addr) (len cap : Nat) (zs : List Int) : Prop :=
  (a = none ∧ len = 0 ∧ cap = 0 ∧ zs = []) ∨
  ∃ x, a = some x ∧ len ≤ cap ∧ cap ≤ maxLen ∧ zs.length = cap ∧ (∀ i, i < zs.length → w.cell? (x.add i) = some (.int k (zs.getD i 0))) ∧ ∀ n ∈ zs, (Lit.int k n).wf = true

def inB (x : Int) : Bool := decide (-4611686018427387903 ≤ x ∧ x ≤ 4611686018427387903)
theorem inB_t (x : Int) : inB x = true ↔ -4611686018427387903 ≤ x ∧ x ≤ 4611686018427387903 := by unfold inB; simp
def pok (zs : List Int) : Bool := inB (zs.getD 0 0) && inB (zs.getD 1 0) && inB (zs.getD 2 0)
theorem pok_all (zs : List Int) (h : ∀ i, i < 3 → inB (zs.getD i 0) = true) : pok zs = true := by
  unfold pok; rw [h 0 (by omega), h 1 (by omega), h 2 (by omega)]; rfl
theorem pok_not (zs : List Int) (i : Nat) (hi : i < 3) (h : inB (zs.getD i 0) = false) : pok zs = false := by
  unfold pok
  match i, hi with
  | 0, _ => rw [h]; rfl
  | 1, _ => rw [h]; simp
  | 2, _ => rw [h]; simp
set_option maxHeartbeats 1000000 in
set_option maxRecDepth 100000 in
theorem parts_any (A : Option Addr) (n cap : Nat) (zs : List Int) (w : World) (hr : Reads w w.heap.size 1 A n (zs.map (Value.int .i64))) (hn : n ≤ 16777216) :
    Calls Try.prog 10 #[.slice A n cap, .int .i64 3] w fun e w' => e = .returned (.bool (pok zs)) ∧ w = w' := by
  have hlen : zs.length = n := by have := hr.1; simpa using this
  have HLEN := Lib.hid hlen
  have HR := Lib.hid hr
  clear hlen hr
  go_enter Try.func10, Try.ntmps10
  go_wp2
  go_loop [6] (fun i => ∃ k : Nat, i = .int .i64 k ∧ k ≤ n ∧ k ≤ 3 ∧ ∀ j, j < k → inB (zs.getD j 0) = true) (fun i => n - (intOf i).toNat)
  case atStart => exact ⟨0, rfl, by omega, by omega, fun j hj => by omega⟩
  case round =>
    obtain ⟨k, rfl, hk, hk3, hall⟩ := hrel
    have HALL := Lib.hid hall
    clear hall
    by_cases hlt : k < n
    · by_cases h3 : k < 3
      · obtain ⟨b, off, rfl, hb, hc⟩ := reads_cell HR.out (by omega)
        have hck := hc k hlt
        generalize hx : zs.getD k 0 = x at hck
        have HX := Lib.hid hx
        clear hc hx
        by_cases hin : -4611686018427387903 ≤ x ∧ x ≤ 4611686018427387903
        · have d1 : decide (4611686018427387903 < x) = false := by simp; omega
          have d2 : decide (x < -4611686018427387903) = false := by simp; omega
          have q1 : ¬ 4611686018427387903 < x := by omega
          have q2 : ¬ x < -4611686018427387903 := by omega
          have HIN := Lib.hid hin
          clear hin
          go_wp2
          go_round
          case rel =>
            refine ⟨k + 1, by go_num, by omega, by omega, fun j hj => ?_⟩
            by_cases e : j = k
            · rw [e, HX.out, inB_t]; exact HIN.out
            · exact HALL.out j (by omega)
          case measure => simp [intOf]; omega
        · have HF := Lib.hid (pok_not zs k h3 (by rw [HX.out]; unfold inB; simpa using hin))
          by_cases q1 : 4611686018427387903 < x
          · have d1 : decide (4611686018427387903 < x) = true := by simpa using q1
            clear hin
            go_wp2
            go_ret
            exact ⟨ret_bool HF.out.symm, rfl⟩
          · have d1 : decide (4611686018427387903 < x) = false := by simpa using q1
            have q2 : x < -4611686018427387903 := by omega
            have d2 : decide (x < -4611686018427387903) = true := by simpa using q2
            clear hin
            go_wp2
            go_ret
            exact ⟨ret_bool HF.out.symm, rfl⟩
      · obtain rfl : k = 3 := by omega
        have HF := Lib.hid (pok_all zs HALL.out)
        have d1 : decide ((3 : Int) < n) = true := by simp; omega
        go_wp2
        go_ret
        exact ⟨ret_bool HF.out.symm, rfl⟩
    · have HF := Lib.hid (pok_all zs (fun i hi => by
        by_cases h : i < k
        · exact HALL.out i h
        · rw [getD_past zs i (by have := HLEN.out; omega)]; rfl))
      have d1 : decide ((k : Int) < n) = false := by simp; omega
      go_wp2
      go_ret
      exact ⟨ret_bool HF.out.symm, rfl⟩
def tl (m1 n1 p1 m2 n2 p2 : Int) : Bool := decide (m1 < m2 ∨ m1 = m2 ∧ (n1 < n2 ∨ n1 = n2 ∧ p1 < p2))
set_option maxRecDepth 100000 in
theorem tl_any (m1 n1 p1 m2 n2 p2 : Int) (w : World) : Calls Try.prog 12 #[.int .u16 m1, .int .u8 n1, .int .u8 p1, .int .u16 m2, .int .u8 n2, .int .u8 p2] w fun e w' => e = .returned (.bool (tl m1 n1 p1 m2 n2 p2)) ∧ w = w' := by
  go_enter Try.func12, Try.ntmps12
  go_wp2
  all_goals
    go_ret
    refine ⟨ret_bool ?_, rfl⟩
    go_light
    simp only [bne_iff_ne, bne_eq_false_iff_eq, ne_eq] at *
    unfold tl
    rw [decide_eq_decide]
    omega
def sgn (x : Int) : Int := if x < 0 then -1 else if 0 < x then 1 else 0
set_option maxRecDepth 100000 in
theorem sgn_any (x : Int) (w : World) : Calls Try.prog 14 #[.int .i64 x] w fun e w' => e = .returned (.int .i64 (sgn x)) ∧ w = w' := by
  go_enter Try.func14, Try.ntmps14
  go_wp2
  all_goals
    go_ret
    refine ⟨ret_int ?_, rfl⟩
    go_light
    symm
    unfold sgn
    repeat' split
    all_goals first | rfl | omega
set_option maxHeartbeats 1000000 in
set_option maxRecDepth 100000 in
theorem zz_any (M m p : Int) (hM : 0 ≤ M) (hM' : M ≤ 65535) (hm : 0 ≤ m) (hm' : m ≤ 255) (hp : 0 ≤ p) (hp' : p ≤ 255) (A : Option Addr) (n cap : Nat) (zs : List Int) (pre : ByteArray) (w : World)
    (hr : Reads w w.heap.size 1 A n (zs.map (Value.int .i64))) (hn : n ≤ 16777216) :
    Calls Try.prog 13 #[.int .u16 M, .int .u8 m, .int .u8 p, .agg #[.slice A n cap, .string pre]] w fun e w' =>
      e = .returned (.int .i64 (cmp3 (wrap64 (M - zs.getD 0 0)) (wrap64 (m - zs.getD 1 0)) (wrap64 (p - zs.getD 2 0)) pre.size)) ∧ w.grownBy w' none := by
  have HR := Lib.hid ((hr.alloc (Nat.le_refl _) (.cells #[.slice A n cap, .string pre] 32)).more (B' := w.heap.size + 1) (by omega))
  clear hr
  go_enter Try.func13, Try.ntmps13
  go_wp2_with (go_at_call 25; refine (cmp_any M m p hM hM' hm hm' hp hp' A n cap zs pre _ (by simpa using HR.out) hn).mono ?_)
  rintro e w1 ⟨rfl, hg⟩
  go_wp2
  go_ret
  exact ⟨rfl, (World.grownBy_alloc w _ none).trans hg⟩
theorem isrow_reads {k : IntKind} {w : World} {a : Option Addr} {len cap : Nat} {zs : List Int} (h : IsRow k w a len cap zs) : Reads w w.heap.size 1 a len ((zs.take len).map (Value.int k)) ∧ (a = none → len = 0) := by
  rcases h with ⟨rfl, rfl, rfl, rfl⟩ | ⟨x, rfl, hl, hm, hz, hc, _⟩
  · exact ⟨Reads.none_, fun _ => rfl⟩
  · refine ⟨⟨by simp; omega, fun hn => ⟨x, rfl, ?_, fun j u hu => ?_⟩⟩, fun h => by cases h⟩
    · have := hc 0 (by omega)
      exact World.block_lt_of_cell? w x (by simpa [Addr.add] using this)
    · have hj : j < len := by
        have := (List.getElem?_eq_some_iff.1 hu).1
        simp at this; omega
      rw [hc j (by omega)]
      rw [List.getElem?_map, List.getElem?_take_of_lt hj, List.getElem?_eq_getElem (by omega)] at hu
      rw [List.getD_eq_getElem?_getD, List.getElem?_eq_getElem (by omega)]
      exact hu
theorem clone_reads {w wc : World} {A : Option Addr} {n : Nat} {zs : List Int} {e : Ending} (h : cloneIntsPost w A n (zs.map (Value.int .i64)) e wc) (hr : Reads w w.heap.size 1 A n (zs.map (Value.int .i64))) (hA : A = none → n = 0) :
    ∃ A' c', e = .returned (.slice A' n c') ∧ Reads wc wc.heap.size 1 A' n (zs.map (Value.int .i64)) ∧ Below w.heap.size w wc := by
  rcases h with ⟨h1, rfl, rfl⟩ | ⟨g, h1, rfl, hg, hb, hbel⟩
  · obtain rfl := hA h1
    refine ⟨none, 0, rfl, ⟨hr.1, fun h => by omega⟩, Below.refl _ _⟩
  · refine ⟨some ⟨g, 0, none⟩, n, rfl, ⟨hr.1, fun h => ⟨_, rfl, hb.lt, fun j u hu => ?_⟩⟩, hbel⟩
    have : (⟨g, 0, none⟩ : Addr).add j = ⟨g, j, none⟩ := by unfold Addr.add; split <;> simp_all
    rw [this, hb.cell j]
    simpa using hu
theorem wrap_id (x : Int) (h : -9223372036854775808 ≤ x) (h' : x ≤ 9223372036854775807) : wrap64 x = x := by unfold wrap64; omega
/-- The plain law: a greater table version does not compare lower. -/
theorem mono (M1 m1 p1 M2 m2 p2 x y z : Int) (k : Nat) (h1 : 0 ≤ M1 ∧ M1 ≤ 65535) (h2 : 0 ≤ m1 ∧ m1 ≤ 255) (h3 : 0 ≤ p1 ∧ p1 ≤ 255) (h4 : 0 ≤ M2 ∧ M2 ≤ 65535) (h5 : 0 ≤ m2 ∧ m2 ≤ 255) (h6 : 0 ≤ p2 ∧ p2 ≤ 255)
    (hx : inB x = true) (hy : inB y = true) (hz : inB z = true) (h : tl M2 m2 p2 M1 m1 p1 = false) :
    sgn (cmp3 (wrap64 (M1 - x)) (wrap64 (m1 - y)) (wrap64 (p1 - z)) k) ≤ sgn (cmp3 (wrap64 (M2 - x)) (wrap64 (m2 - y)) (wrap64 (p2 - z)) k) := by
  rw [inB_t] at hx hy hz
  rw [wrap_id (M1 - x) (by omega) (by omega), wrap_id (m1 - y) (by omega) (by omega), wrap_id (p1 - z) (by omega) (by omega), wrap_id (M2 - x) (by omega) (by omega), wrap_id (m2 - y) (by omega) (by omega), wrap_id (p2 - z) (by omega) (by omega)]
  unfold tl at h
  simp only [decide_eq_false_iff_not] at h
  have s : ∀ d0 d1 d2 : Int, cmp3 d0 d1 d2 k < 0 ↔ d0 < 0 ∨ d0 = 0 ∧ (d1 < 0 ∨ d1 = 0 ∧ d2 < 0) := fun d0 d1 d2 => by
    unfold cmp3; repeat' split
    all_goals omega
  have t : ∀ d0 d1 d2 : Int, 0 < cmp3 d0 d1 d2 k ↔ 0 < d0 ∨ d0 = 0 ∧ (0 < d1 ∨ d1 = 0 ∧ (0 < d2 ∨ d2 = 0 ∧ k ≠ 0)) := fun d0 d1 d2 => by
    unfold cmp3; repeat' split
    all_goals omega
  have s1 := s (M1 - x) (m1 - y) (p1 - z)
  have t1 := t (M1 - x) (m1 - y) (p1 - z)
  have s2 := s (M2 - x) (m2 - y) (p2 - z)
  have t2 := t (M2 - x) (m2 - y) (p2 - z)
  generalize cmp3 (M1 - x) (m1 - y) (p1 - z) k = a at s1 t1 ⊢
  generalize cmp3 (M2 - x) (m2 - y) (p2 - z) k = b at s2 t2 ⊢
  unfold sgn
  repeat' split
  all_goals omega

/-! ### STEP 1: THE WALK: the Go text returns true, AND WRITES NOTHING THAT WAS THERE: 'Below w.heap.size w w'' (Derived/Below.lean: '.refl', '.alloc', '.drew', '.setCell' at a new block, '.trans'). Open each 'IsRow' by 'rcases' AHEAD of 'go_enter'; part every test ahead of the walk. -/
set_option maxHeartbeats 2000000 in
theorem walk (a0 : Int) (a1 : Int) (a2 : Int) (a3 : Int) (a4 : Int) (a5 : Int) (a6 : Option Addr) (len6 cap6 : Nat) (z6 : List Int) (a7 : ByteArray) (w : World) (w0 : (Lit.int .u16 a0).wf = true) (w1 : (Lit.int .u8 a1).wf = true) (w2 : (Lit.int .u8 a2).wf = true) (w3 : (Lit.int .u16 a3).wf = true) (w4 : (Lit.int .u8 a4).wf = true) (w5 : (Lit.int .u8 a5).wf = true) (w6 : IsRow .i64 w a6 len6 cap6 z6) (w7 : a7.size ≤ maxLen) :
    Calls Try.prog 4 #[.int .u16 a0, .int .u8 a1, .int .u8 a2, .int .u16 a3, .int .u8 a4, .int .u8 a5, .slice a6 len6 cap6, .string a7] w fun e w' => e = .returned (.bool true) ∧ Below w.heap.size w w' := by
  obtain ⟨hr, hl6⟩ := isrow_reads w6
  simp [Lit.wf, IntKind.min, IntKind.max, IntKind.signed, IntKind.bits] at w0 w1 w2 w3 w4 w5
  unfold maxLen at w7
  clear w6
  generalize z6.take len6 = zs at hr
  by_cases hsz : len6 ≤ 131072 ∧ len6 * 8 + a7.size ≤ 1048576
  · obtain ⟨s1, s2⟩ := hsz
    have HR := Lib.hid hr
    clear hr
    cases hpk : pok zs with
    | false =>
      have HPK := Lib.hid hpk
      clear hpk
      go_enter Try.func4, Try.ntmps4
      go_wp2_with (first | (go_at_call 9; go_in) | (go_at_call 10; refine (parts_any a6 len6 cap6 zs _ HR.out (by omega)).mono ?_; rintro e w' ⟨rfl, rfl⟩; rw [HPK.out]))
      go_ret
      exact ⟨rfl, Below.refl _ _⟩
    | true =>
      have HPK := Lib.hid hpk
      clear hpk
      have hxyz : inB (zs.getD 0 0) = true ∧ inB (zs.getD 1 0) = true ∧ inB (zs.getD 2 0) = true := by
        have := HPK.out
        unfold pok at this
        simp only [Bool.and_eq_true] at this
        exact ⟨this.1.1, this.1.2, this.2⟩
      have HXYZ := Lib.hid hxyz
      clear hxyz
      go_enter Try.func4, Try.ntmps4
      go_wp2_with (first | (go_at_call 9; go_in) | (go_at_call 10; refine (parts_any a6 len6 cap6 zs _ HR.out (by omega)).mono ?_; rintro e w' ⟨rfl, rfl⟩; rw [HPK.out]) | (go_at_call 11; refine (cloneInts a6 len6 cap6 zs _ HR.out (by omega)).mono ?_))
      intro e wc hpost
      obtain ⟨A', c', rfl, hrc, hbc⟩ : ∃ A' c', e = .returned (.slice A' len6 c') ∧ Reads wc wc.heap.size 1 A' len6 (zs.map (Value.int .i64)) ∧ Below w.heap.size w wc := clone_reads hpost HR.out hl6
      have HRC := Lib.hid hrc; have HBC := Lib.hid hbc
      have hzc := hbc.size
      clear hrc hbc hpost
      cases htl : tl a3 a4 a5 a0 a1 a2 with
      | false =>
        have HTL := Lib.hid htl
        clear htl
        go_wp2_with (go_at_call 12; refine (tl_any a3 a4 a5 a0 a1 a2 _).mono ?_; rintro e w' ⟨rfl, rfl⟩; rw [HTL.out])
        have hbx : Blk (wc.alloc (.cells #[.slice A' len6 c', .string a7] 32)) wc.heap.size 32 #[.slice A' len6 c', .string a7] := Blk.new _ _ _
        have HBX := Lib.hid hbx
        have HR1 := Lib.hid ((HRC.out.alloc (Nat.le_refl _) (.cells #[.slice A' len6 c', .string a7] 32)).more (B' := (wc.alloc (.cells #[.slice A' len6 c', .string a7] 32)).heap.size) (by simp))
        have HMO := Lib.hid (mono a0 a1 a2 a3 a4 a5 (zs.getD 0 0) (zs.getD 1 0) (zs.getD 2 0) a7.size (by omega) (by omega) (by omega) (by omega) (by omega) (by omega) HXYZ.out.1 HXYZ.out.2.1 HXYZ.out.2.2 HTL.out)
        clear hbx
        refine (zz_any a0 a1 a2 (by omega) (by omega) (by omega) (by omega) (by omega) (by omega) A' len6 c' zs a7 _ HR1.out (by omega)).mono ?_
        rintro e w1 ⟨rfl, hg1⟩
        have hb1 := HBX.out.grown hg1 (by simp)
        have hz1 := hg1.size
        have HR2 := Lib.hid ((HR1.out.grown hg1 (Nat.le_refl _) (by simp)).more (B' := w1.heap.size) hz1)
        have HG1 := Lib.hid hg1
        have c0 : w1.cell? ⟨wc.heap.size, 0, none⟩ = some (.slice A' len6 c') := hb1.cell 0
        have c1 : w1.cell? ⟨wc.heap.size, 1, none⟩ = some (.string a7) := hb1.cell 1
        clear hb1 hg1
        go_wp2_with fail
        refine (zz_any a3 a4 a5 (by omega) (by omega) (by omega) (by omega) (by omega) (by omega) A' len6 c' zs a7 _ HR2.out (by omega)).mono ?_
        rintro e w2 ⟨rfl, hg2⟩
        have HG2 := Lib.hid hg2
        clear hg2
        go_wp2_with fail
        refine (sgn_any _ _).mono ?_
        rintro e w3 ⟨rfl, rfl⟩
        go_wp2_with fail
        refine (sgn_any _ _).mono ?_
        rintro e w3 ⟨rfl, rfl⟩
        go_wp2_with fail
        go_ret
        simp at hz1
        refine ⟨ret_bool (by simpa using HMO.out), ?_⟩
        exact ((HBC.out.alloc hzc _).grown HG1.out (by simp; omega) (by simp)).grown HG2.out (by omega) (by simp)
      | true =>
        have HTL := Lib.hid htl
        clear htl
        go_wp2_with (go_at_call 12; refine (tl_any a3 a4 a5 a0 a1 a2 _).mono ?_; rintro e w' ⟨rfl, rfl⟩; rw [HTL.out])
        have hbx : Blk (wc.alloc (.cells #[.slice A' len6 c', .string a7] 32)) wc.heap.size 32 #[.slice A' len6 c', .string a7] := Blk.new _ _ _
        have HBX := Lib.hid hbx
        have HR1 := Lib.hid ((HRC.out.alloc (Nat.le_refl _) (.cells #[.slice A' len6 c', .string a7] 32)).more (B' := (wc.alloc (.cells #[.slice A' len6 c', .string a7] 32)).heap.size) (by simp))
        have HMO := Lib.hid (mono a3 a4 a5 a0 a1 a2 (zs.getD 0 0) (zs.getD 1 0) (zs.getD 2 0) a7.size (by omega) (by omega) (by omega) (by omega) (by omega) (by omega) HXYZ.out.1 HXYZ.out.2.1 HXYZ.out.2.2 (by have := HTL.out; unfold tl at this ⊢; simp at this ⊢; omega))
        clear hbx
        refine (zz_any a3 a4 a5 (by omega) (by omega) (by omega) (by omega) (by omega) (by omega) A' len6 c' zs a7 _ HR1.out (by omega)).mono ?_
        rintro e w1 ⟨rfl, hg1⟩
        have hb1 := HBX.out.grown hg1 (by simp)
        have hz1 := hg1.size
        have HR2 := Lib.hid ((HR1.out.grown hg1 (Nat.le_refl _) (by simp)).more (B' := w1.heap.size) hz1)
        have HG1 := Lib.hid hg1
        have c0 : w1.cell? ⟨wc.heap.size, 0, none⟩ = some (.slice A' len6 c') := hb1.cell 0
        have c1 : w1.cell? ⟨wc.heap.size, 1, none⟩ = some (.string a7) := hb1.cell 1
        clear hb1 hg1
        go_wp2_with fail
        refine (zz_any a0 a1 a2 (by omega) (by omega) (by omega) (by omega) (by omega) (by omega) A' len6 c' zs a7 _ HR2.out (by omega)).mono ?_
        rintro e w2 ⟨rfl, hg2⟩
        have HG2 := Lib.hid hg2
        clear hg2
        go_wp2_with fail
        refine (sgn_any _ _).mono ?_
        rintro e w3 ⟨rfl, rfl⟩
        go_wp2_with fail
        refine (sgn_any _ _).mono ?_
        rintro e w3 ⟨rfl, rfl⟩
        go_wp2_with fail
        go_ret
        simp at hz1
        refine ⟨ret_bool (by simpa using HMO.out), ?_⟩
        exact ((HBC.out.alloc hzc _).grown HG1.out (by simp; omega) (by simp)).grown HG2.out (by omega) (by simp)
  · go_enter Try.func4, Try.ntmps4
    go_wp2_with (go_at_call 9; go_in)
    all_goals (go_ret; exact ⟨rfl, Below.refl _ _⟩)

/-! ### THE ROW's STEP: WRITTEN OUT: LEAVE IT -/
set_option maxRecDepth 100000 in
theorem lifted (os : Os) (started : os.Started) (H : Type) (enc : TypeId × Value → H) :
    ReturnsInHanded {} Try.checked os 4 .any (Rows.fnCompareVersionsMonotoneInBoundSpec.pre6 enc Try.prog Try.f4 Rows.fnCompareVersionsMonotoneInBoundRow.domain false) (Rows.fnCompareVersionsMonotoneInBoundSpec.post enc Try.prog Try.f4 false true false false) := by
  refine returnsInHanded_of_change (C := Try.checked) own started (by kernel_rfl) Try.func4
    (ChangeSpec.witness6 (enc := enc) (C := Try.checked) false ⟨#[], #[.int .u16 0, .int .u8 0, .int .u8 0, .int .u16 0, .int .u8 0, .int .u8 0, .slice none 0 0, .string ByteArray.empty], []⟩ 8 (by kernel_rfl) (by kernel_rfl) (by kernel_rfl) (by kernel_rfl)) ?_
  intro W base args ds gs before hval0 hW hcnd _
  have hval : ∀ (j : Nat) t v, Try.f4.params[j]? = some t → args[j]? = some v → Value.okWide Try.prog W .any base t v := hval0
  have hW' := hW
  obtain ⟨p, q, hA0, hV, rfl, hfz, hnd⟩ := hW
  have hA : DataW.TrodAll enc Try.prog W 0 (fun _ => true) true Try.f4.params.toList args.toList ds p := hA0
  rw [Try.params4] at hA hval
  obtain ⟨v0, vs0, d0, ds0, p0, q0, hargs, rfl, rfl, h0, r0⟩ := trodAll_cons hA
  obtain ⟨v1, vs1, d1, ds1, p1, q1, rfl, rfl, rfl, h1, r1⟩ := trodAll_cons r0
  obtain ⟨v2, vs2, d2, ds2, p2, q2, rfl, rfl, rfl, h2, r2⟩ := trodAll_cons r1
  obtain ⟨v3, vs3, d3, ds3, p3, q3, rfl, rfl, rfl, h3, r3⟩ := trodAll_cons r2
  obtain ⟨v4, vs4, d4, ds4, p4, q4, rfl, rfl, rfl, h4, r4⟩ := trodAll_cons r3
  obtain ⟨v5, vs5, d5, ds5, p5, q5, rfl, rfl, rfl, h5, r5⟩ := trodAll_cons r4
  obtain ⟨v6, vs6, d6, ds6, p6, q6, rfl, rfl, rfl, h6, r6⟩ := trodAll_cons r5
  obtain ⟨v7, vs7, d7, ds7, p7, q7, rfl, rfl, rfl, h7, r7⟩ := trodAll_cons r6
  obtain ⟨rfl, rfl, rfl⟩ := trodAll_nil r7
  obtain rfl : args = #[v0, v1, v2, v3, v4, v5, v6, v7] := by cases args; simp_all
  obtain ⟨rfl, rfl⟩ := trodVars_none hV
  obtain ⟨a0, rfl, rfl, rfl, w0⟩ := open_int Try.underlying25 (hval 0 25 v0 rfl rfl) h0
  obtain ⟨a1, rfl, rfl, rfl, w1⟩ := open_int Try.underlying5 (hval 1 5 v1 rfl rfl) h1
  obtain ⟨a2, rfl, rfl, rfl, w2⟩ := open_int Try.underlying5 (hval 2 5 v2 rfl rfl) h2
  obtain ⟨a3, rfl, rfl, rfl, w3⟩ := open_int Try.underlying25 (hval 3 25 v3 rfl rfl) h3
  obtain ⟨a4, rfl, rfl, rfl, w4⟩ := open_int Try.underlying5 (hval 4 5 v4 rfl rfl) h4
  obtain ⟨a5, rfl, rfl, rfl, w5⟩ := open_int Try.underlying5 (hval 5 5 v5 rfl rfl) h5
  obtain ⟨a6, len6, cap6, rfl⟩ := okWide_slice Try.underlying26 (hval 6 26 v6 rfl rfl)
  have k6 := h6
  have lt6 : ∀ x ∈ p6, x.block < W.heap.size := by obtain ⟨m, hm⟩ := k6; exact DataW.trod_lt m _ _ _ hm
  obtain ⟨z6, w6⟩ : ∃ zs, IsRow .i64 W a6 len6 cap6 zs := by
    obtain ⟨fuel, hf⟩ := h6
    rcases open_ints Try.underlying26 Try.underlying3 (by kernel_rfl) hf with ⟨hcs, _⟩ | ⟨x, l, c, zs, hcs, _, hl, hm, hz, _, hcell, hwz⟩
    · simp [Value.cells] at hcs
      obtain ⟨rfl, rfl, rfl⟩ := hcs
      exact ⟨[], .inl ⟨rfl, rfl, rfl, rfl⟩⟩
    · simp [Value.cells] at hcs
      obtain ⟨rfl, rfl, rfl⟩ := hcs
      exact ⟨zs, .inr ⟨_, rfl, hl, hm, by simpa using hz, hcell, hwz⟩⟩
  obtain ⟨a7, rfl, rfl, rfl, w7⟩ := open_string Try.underlying9 (hval 7 9 v7 rfl rfl) h7
  clear hA0 hval0
  refine (walk a0 a1 a2 a3 a4 a5 a6 len6 cap6 z6 a7 W w0 w1 w2 w3 w4 w5 w6 w7).mono fun e W' ⟨he, bel⟩ => ?_
  subst he
  exact ⟨_, rfl, _, _, _, [], _, [], hW', trodAll_mk1 (shut_bool Try.underlying4 _), (trodAll_cons_mk (shut_int Try.underlying25 w0) (trodAll_cons_mk (shut_int Try.underlying5 w1) (trodAll_cons_mk (shut_int Try.underlying5 w2) (trodAll_cons_mk (shut_int Try.underlying25 w3) (trodAll_cons_mk (shut_int Try.underlying5 w4) (trodAll_cons_mk (shut_int Try.underlying5 w5) (trodAll_cons_mk (Below.trod laidOut (by kernel_rfl) (of_decide_eq_true (by kernel_rfl)) k6 bel lt6) (trodAll_cons_mk (shut_string Try.underlying9 w7) trodAll_mk0)))))))), rfl, bel.frame _, fun h => by cases h⟩

theorem over : Rows.fnCompareVersionsMonotoneInBoundRow.holds Try.pinned (OpenSpec.ofChange Rows.fnCompareVersionsMonotoneInBoundSpec) :=
  OpenClaim.holds_of_wide 4 Try.f4 rfl rfl rfl rfl rfl rfl rfl ⟨rfl, rfl, rfl, rfl, rfl⟩ rfl rfl rfl rfl rfl (by kernel_rfl) Try.func4 (by kernel_rfl)
    (of_decide_eq_true (by kernel_rfl)) (by unfold Func.isWrapper; first | (rw [if_pos (by decide +kernel)]; kernel_rfl) | (rw [if_neg (by decide +kernel)]; exact ⟨rfl, rfl⟩))
    (fun os started H enc _ => lifted os started H enc)

/-- ████ THE STATEMENT ████ -/
theorem proved : Rows.FnCompareVersionsMonotoneInBoundSaid := over
#print axioms proved
end Go.Proofs.Ytanhijhhceakjaa.fnCompareVersionsMonotoneInBound
