/-
  PROVED: for all strings a, e and b and either flag the law FnBestQuoteIgnoresNeutralInsertions returns true and changes no argument. Conditions: none.
-/
import Derived.Test.YtgnmadbenemndaaRows
import Derived.WalkKit
import Derived.ProofKit
import Derived.Laws.IdiomStrings
import Derived.Deep.Light
import Derived.LoopTactic
import Derived.Test.YtgnmadbenemndaaCnt
import Derived.Outline
import Derived.OpenShut
import Derived.ShutString
import Derived.Below
namespace Go.Proofs.Ytgnmadbenemndaa.fnBestQuoteIgnoresNeutralInsertions
open Go.ChangeShapes Go.WideShapes Go.ChangeAt Go.RowKit
open Go.ChangeMaps (open_string shut_string)
set_option linter.unusedVariables false      -- a walk need not use every 'w<i>' (that an integer argument fits its kind)

theorem own : ownKnob Try.prog.godebug = none := by kernel_rfl

def pq (x : Nat) : Bool := x == 39
def pd (x : Nat) : Bool := x == 34
def pu (x : Nat) : Bool := x == 40 || x == 41 || x == 32 || x == 9
def pe (x : Nat) : Bool := x == 92 || x == 10 || x == 13 || x == 12
theorem pq_hi (x : Nat) (h : 128 ≤ x) : pq x = false := by unfold pq; simp; omega
theorem pd_hi (x : Nat) (h : 128 ≤ x) : pd x = false := by unfold pd; simp; omega
theorem pu_hi (x : Nat) (h : 128 ≤ x) : pu x = false := by unfold pu; simp; omega
theorem pe_hi (x : Nat) (h : 128 ≤ x) : pe x = false := by unfold pe; simp; omega
theorem pq_t (x : Nat) : pq x = true ↔ x = 39 := by unfold pq; simp
theorem pd_t (x : Nat) : pd x = true ↔ x = 34 := by unfold pd; simp
theorem pu_t (x : Nat) : pu x = true ↔ x = 40 ∨ x = 41 ∨ x = 32 ∨ x = 9 := by unfold pu; simp [or_assoc]
theorem pe_t (x : Nat) : pe x = true ↔ x = 92 ∨ x = 10 ∨ x = 13 ∨ x = 12 := by unfold pe; simp [or_assoc]
/-- The quote chosen, out of the counts. -/
def bq (q d u : Nat) (forURL : Bool) : Int := if forURL = true ∧ q + d + u < 2 + q ∧ q + d + u < 2 + d then 0 else if q < d then 39 else 34

set_option maxHeartbeats 4000000 in
set_option maxRecDepth 100000 in
theorem bq_any (s : ByteArray) (u : Bool) (w : World) (hs : s.size ≤ 1048576) :
    Calls Try.prog 7 #[.string s, .bool u] w fun e w' => e = .returned (.int .u8 (bq (cntTo pq s s.size) (cntTo pd s s.size) (cntTo pu s s.size) u)) ∧ Below w.heap.size w w' := by
  go_enter Try.func7, Try.ntmps7
  go_wp2
  go_loopw [5, 6, 7] (fun f a b w' => ∃ pos F S D : Nat, w' = w.iter s pos ∧ pos ≤ s.size ∧ f = .int .i64 F ∧ a = .int .i64 S ∧ b = .int .i64 D ∧ F = cntTo pq s pos + cntTo pd s pos + cntTo pu s pos + cntTo pe s pos ∧ S = 2 + cntTo pq s pos + cntTo pe s pos ∧ D = 2 + cntTo pd s pos + cntTo pe s pos) (fun _ _ _ w' => s.size - w'.iterPos w.heap.size)
  case atStart => exact ⟨0, 0, 2, 2, rfl, by omega, rfl, rfl, rfl, by simp [cntTo], by simp [cntTo], by simp [cntTo]⟩
  case round =>
    obtain ⟨pos, F, S, D, rfl, hle, rfl, rfl, rfl, hF, hS, hD⟩ := hrel
    have l1 := cntTo_le pq s pos
    have l2 := cntTo_le pd s pos
    have l3 := cntTo_le pu s pos
    have l4 := cntTo_le pe s pos
    have bF : F ≤ 4194304 := by omega
    have bS : S ≤ 4194304 := by omega
    have bD : D ≤ 4194304 := by omega
    have HF := Lib.hid hF; have HS := Lib.hid hS; have HD := Lib.hid hD
    clear hF hS hD l1 l2 l3 l4
    by_cases hp : pos < s.size
    · obtain ⟨c, wd, hd⟩ : ∃ c wd, Utf8.decode s pos = (c, wd) := ⟨_, _, rfl⟩
      obtain ⟨r1, r2, r3, _⟩ := rune_tail s pos c wd hp hd
      have hcm : c ≤ 2147483647 := by have := decode_le s pos; rw [hd] at this; exact this
      have hnx : ∀ ty, (Instr.next (.pointer (some ⟨w.heap.size, 0, none⟩)) true ty).run Try.prog (w.iter s pos) = .ok (.tuple #[.bool true, .int .i64 pos, .int .i32 c]) (w.iter s (pos + wd)) := fun ty => by
        rw [run_next_any w s pos ty hp, hd]
      have K1 := Lib.hid (cnt_rune pq pq_hi s pos c wd hp hd)
      have K2 := Lib.hid (cnt_rune pd pd_hi s pos c wd hp hd)
      have K3 := Lib.hid (cnt_rune pu pu_hi s pos c wd hp hd)
      have K4 := Lib.hid (cnt_rune pe pe_hi s pos c wd hp hd)
      clear hd
      go_wp2
      all_goals
        go_roundw
        case rel =>
          go_light
          have k1 := K1.out; have k2 := K2.out; have k3 := K3.out; have k4 := K4.out
          have f1 := HF.out; have f2 := HS.out; have f3 := HD.out
          simp only [pq_t, pd_t, pu_t, pe_t] at k1 k2 k3 k4
          simp only [beq_iff_eq, beq_eq_false_iff_ne, ne_eq] at *
          first
            | refine ⟨pos + wd, F, S, D, rfl, r1, rfl, rfl, rfl, ?_, ?_, ?_⟩
            | refine ⟨pos + wd, F + 1, S + 1, D, rfl, r1, rfl, rfl, rfl, ?_, ?_, ?_⟩
            | refine ⟨pos + wd, F + 1, S, D + 1, rfl, r1, rfl, rfl, rfl, ?_, ?_, ?_⟩
            | refine ⟨pos + wd, F + 1, S, D, rfl, r1, rfl, rfl, rfl, ?_, ?_, ?_⟩
            | refine ⟨pos + wd, F + 1, S + 1, D + 1, rfl, r1, rfl, rfl, rfl, ?_, ?_, ?_⟩
          all_goals (split at k1 <;> split at k2 <;> split at k3 <;> split at k4 <;> omega)
        case measure => simp; omega
    · have hnx : ∀ ty, (Instr.next (.pointer (some ⟨w.heap.size, 0, none⟩)) true ty).run Try.prog (w.iter s pos) = .ok (.tuple #[.bool false]) (w.iter s pos) := fun ty => run_next_end w s pos ty hp
      obtain rfl : pos = s.size := by omega
      go_wp2
      all_goals
        go_ret
        refine ⟨ret_int ?_, (Below.refl _ _).alloc (Nat.le_refl _) _⟩
        go_light
        have f1 := HF.out; have f2 := HS.out; have f3 := HD.out
        symm
        unfold bq
        first
          | (rw [if_pos ⟨by assumption, by omega, by omega⟩]; done)
          | (rw [if_neg (fun hh => absurd hh.1 (by assumption)), if_pos (by omega)]; done)
          | (rw [if_neg (fun hh => absurd hh.1 (by assumption)), if_neg (by omega)]; done)
          | (rw [if_neg (fun hh => by omega), if_pos (by omega)]; done)
          | (rw [if_neg (fun hh => by omega), if_neg (by omega)]; done)

def neut (b : Nat) : Nat := if b % 6 = 0 then 92 else if b % 6 = 1 then 10 else if b % 6 = 2 then 13 else if b % 6 = 3 then 12 else if b % 6 = 4 then 97 else 128
theorem neut_lt (b : Nat) : neut b < 256 ∧ pq (neut b) = false ∧ pd (neut b) = false ∧ pu (neut b) = false := by
  unfold neut
  repeat' split
  all_goals exact ⟨by omega, by decide, by decide, by decide⟩
set_option maxRecDepth 100000 in
theorem neut_any (b : Nat) (hb : b < 256) (w : World) : Calls Try.prog 5 #[.int .u8 b] w fun e w' => e = .returned (.int .u8 (neut b)) ∧ w = w' := by
  go_enter Try.func5, Try.ntmps5
  go_wp2
  all_goals
    go_ret
    refine ⟨ret_int ?_, rfl⟩
    go_light
    simp only [beq_iff_eq, beq_eq_false_iff_ne, ne_eq] at *
    symm
    unfold neut
    repeat' split
    all_goals first | rfl | (exfalso; omega)
set_option maxRecDepth 100000 in
theorem zb_true (a e b : ByteArray) (u : Bool) (w : World) (h : a.size + e.size + b.size ≤ 1048576) : Calls Try.prog 4 #[.string a, .string e, .string b, .bool u] w fun x w' => x = .returned (.bool true) ∧ w = w' := by
  go_enter Try.func4, Try.ntmps4
  go_wp2
  go_ret
  exact ⟨rfl, rfl⟩
theorem made_size (n : Nat) : (madeCells #[Value.int .u8 0] n).size = n := by simp [madeCells]
theorem byteInfo : (Try.prog.info? 5).map (fun i => (i.zero, i.size, i.bytes)) = some (some (.int .u8 0), 1, 1) := by kernel_rfl
/-! ### STEP 1: THE WALK: the Go text returns true. 'Grown w w'': the world has at most new blocks (Derived/RowKit3.lean). Part the cases AHEAD of 'go_enter' where a test parts the walk; take each callee by a contract of your own. -/
theorem walk (a0 : ByteArray) (a1 : ByteArray) (a2 : ByteArray) (a3 : Bool) (w0 : a0.size ≤ maxLen) (w1 : a1.size ≤ maxLen) (w2 : a2.size ≤ maxLen) (w : World) :
    Calls Try.prog 3 #[.string a0, .string a1, .string a2, .bool a3] w fun e w' => e = .returned (.bool true) ∧ Below w.heap.size w w' := by
  unfold maxLen at w0 w1 w2
  obtain ⟨i0, hi, hz0, hz1, hz2⟩ := info_parts byteInfo
  by_cases hsz : a0.size + a1.size + a2.size ≤ 1048576
  · have hmk : ∀ W : World, (Instr.makeSlice 23 (.int .i64 (a1.size : Int)) (.int .i64 (a1.size : Int))).run Try.prog W = .ok (.slice (some ⟨W.heap.size, 0, none⟩) a1.size a1.size) (W.alloc (.cells (madeCells (Value.cells (.int .u8 0)) a1.size) 5)) := fun W => by
      have := run_make (P := Try.prog) W 23 5 i0 (.int .u8 0) Try.underlying23 hi hz0 .i64 .i64 a1.size a1.size (by omega) (by omega) (by rw [hz2]; omega) (by omega)
      simpa [hz1] using this
    have hm0 : Blk (w.alloc (.cells (madeCells #[.int .u8 0] a1.size) 5)) w.heap.size 5 (madeCells #[.int .u8 0] a1.size) := Blk.new _ _ _
    have HM0 := Lib.hid hm0
    have HMS := Lib.hid (show (madeCells #[Value.int .u8 0] a1.size).size = a1.size from made_size _)
    have t1 : decide (1048576 < (a0.size : Int)) = false := by simp; omega
    have t2 : decide (1048576 < (a1.size : Int)) = false := by simp; omega
    have t3 : decide (1048576 < (a2.size : Int)) = false := by simp; omega
    have t4 : decide (1048576 < (a0.size : Int) + a1.size + a2.size) = false := by simp; omega
    clear hm0
    go_enter Try.func3, Try.ntmps3
    go_wp2_with (go_at_call 4; refine (zb_true a0 a1 a2 a3 _ hsz).mono ?_; rintro e w' ⟨rfl, rfl⟩)
    clear hmk
    go_loopw [10] (fun i wr => ∃ (k : Nat) (cs : Array Value), i = .int .i64 k ∧ k ≤ a1.size ∧ Blk wr w.heap.size 5 cs ∧ cs.size = a1.size ∧ (∀ j, j < k → cs[j]? = some (.int .u8 (neut (byteAt a1 j)))) ∧ Below w.heap.size w wr) (fun i _ => a1.size - (intOf i).toNat)
    case atStart => exact ⟨0, _, rfl, by omega, HM0.out, HMS.out, fun j hj => by omega, (Below.refl _ _).alloc (Nat.le_refl _) _⟩
    case round =>
      obtain ⟨k, cs, rfl, hk, hb, hcs, hj, hbw⟩ := hrel
      have HB := Lib.hid hb; have HCS := Lib.hid hcs; have HJ := Lib.hid hj
      have hlt0 := hb.lt
      clear hb hcs hj
      by_cases hlt : k < a1.size
      · have c0 : wr.cell? ⟨w.heap.size, k, none⟩ = some (cs[k]'(by have := HCS.out; omega)) := by
          rw [HB.out.cell k, Array.getElem?_eq_getElem]
        have z0 : wr.frozen? ⟨w.heap.size, k, none⟩ = false := HB.out.frozen k
        generalize (cs[k]'(by have := HCS.out; omega)) = v at c0
        go_wp2_with (go_at_call 5; refine (neut_any _ (by have := (a1[k]).toNat_lt; omega) _).mono ?_; rintro e w' ⟨rfl, rfl⟩)
        go_roundw
        case rel =>
          refine ⟨k + 1, cs.setIfInBounds k (.int .u8 (neut (a1[k]).toNat)), by go_num, by omega, HB.out.set_ k _, by rw [Array.size_setIfInBounds]; exact HCS.out, fun j hj => ?_, hbw.setCell (p := ⟨w.heap.size, k, none⟩) (Nat.le_refl _) _⟩
          rw [Array.getElem?_setIfInBounds]
          by_cases e : k = j
          · subst e
            rw [if_pos rfl, if_pos (by have := HCS.out; omega), byteAt_eq a1 k hlt]
          · rw [if_neg e]; exact HJ.out j (by omega)
        case measure => simp [intOf]; omega
      · obtain rfl : k = a1.size := by omega
        obtain ⟨l, hl⟩ : ∃ l : List UInt8, l = (List.range a1.size).map fun j => UInt8.ofNat (neut (byteAt a1 j)) := ⟨_, rfl⟩
        have hll : l.length = a1.size := by rw [hl]; simp
        have hlj : ∀ j (h : j < l.length), (l[j]'h).toNat = neut (byteAt a1 j) := fun j h => by
          subst hl
          have := (neut_lt (byteAt a1 j)).1
          simp; omega
        have hcv : (convert 23 9 (.slice (some ⟨w.heap.size, 0, none⟩) a1.size a1.size)).run Try.prog wr = .ok (.string ⟨l.toArray⟩) wr := by
          rw [← hll]
          refine run_convert_bytes_back wr 23 9 5 ⟨w.heap.size, 0, none⟩ l.length l Try.underlying23 Try.underlying5 Try.underlying9 (fun j h => ?_)
          rw [hlj j h, show (⟨w.heap.size, 0, none⟩ : Addr).add j = ⟨w.heap.size, j, none⟩ by simp [Addr.add]; omega, HB.out.cell j]
          exact HJ.out j (by omega)
        obtain ⟨m, hm⟩ : ∃ m : ByteArray, m = ⟨l.toArray⟩ := ⟨_, rfl⟩
        rw [← hm] at hcv
        have hms : m.size = a1.size := by rw [hm]; show l.toArray.size = _; rw [List.size_toArray]; exact hll
        have hmj : ∀ j, j < m.size → byteAt m j = neut (byteAt a1 j) := fun j h => by
          rw [byteAt_eq m j h, ← hlj j (by omega)]
          subst hm
          rfl
        have hcnt : ∀ p : Nat → Bool, (∀ x, p (neut x) = false) → cntTo p ((a0 ++ m) ++ a2) ((a0 ++ m) ++ a2).size = cntTo p (a0 ++ a2) (a0 ++ a2).size := fun p hp => by
          rw [cnt_app, cnt_app, cnt_app, cnt_none p m m.size (fun i hi => by rw [hmj i hi]; exact hp _)]
          omega
        have hq := hcnt pq (fun x => (neut_lt x).2.1)
        have hd := hcnt pd (fun x => (neut_lt x).2.2.1)
        have hu := hcnt pu (fun x => (neut_lt x).2.2.2)
        have hs1 : ((a0 ++ m) ++ a2).size ≤ 1048576 := by rw [size_app, size_app]; omega
        have hs2 : (a0 ++ a2).size ≤ 1048576 := by rw [size_app]; omega
        have HEQ := Lib.hid (show bq (cntTo pq ((a0 ++ m) ++ a2) ((a0 ++ m) ++ a2).size) (cntTo pd ((a0 ++ m) ++ a2) ((a0 ++ m) ++ a2).size) (cntTo pu ((a0 ++ m) ++ a2) ((a0 ++ m) ++ a2).size) a3 = bq (cntTo pq (a0 ++ a2) (a0 ++ a2).size) (cntTo pd (a0 ++ a2) (a0 ++ a2).size) (cntTo pu (a0 ++ a2) (a0 ++ a2).size) a3 by rw [hq, hd, hu])
        have hb1 : a0.size + m.size ≤ 1048576 := by omega
        have hb2 : (a0 ++ m).size + a2.size ≤ 1048576 := by rw [size_app]; omega
        have HS1 := Lib.hid hs1; have HS2 := Lib.hid hs2; have HBW := Lib.hid hbw
        have hwz := hbw.size
        clear hq hd hu hs1 hs2 hcnt hmj hms hm hlj hll hl hbw
        go_wp2_with (first
          | (go_at_call 6; go_in)
          | (go_at_call 7; refine (bq_any _ _ _ HS1.out).mono ?_))
        rintro e w1 ⟨rfl, hbb1⟩
        rw [HEQ.out]
        go_wp2_with (first
          | (go_at_call 6; go_in)
          | (go_at_call 7; refine (bq_any _ _ _ HS2.out).mono ?_))
        rintro e w2 ⟨rfl, hbb2⟩
        go_wp2
        go_ret
        have z1 := hbb1.size
        exact ⟨ret_bool (by simp), (HBW.out.trans (hbb1.mono hwz)).trans (hbb2.mono (by omega))⟩
  · go_enter Try.func3, Try.ntmps3
    go_wp2_with (go_at_call 4; go_in)
    all_goals (go_ret; exact ⟨rfl, Below.refl _ _⟩)

/-! ### THE ROW's STEP: WRITTEN OUT: LEAVE IT -/
set_option maxRecDepth 100000 in
theorem lifted (os : Os) (started : os.Started) (H : Type) (enc : TypeId × Value → H) :
    ReturnsInHanded {} Try.checked os 3 .any (Rows.fnBestQuoteIgnoresNeutralInsertionsSpec.pre6 enc Try.prog Try.f3 Rows.fnBestQuoteIgnoresNeutralInsertionsRow.domain false) (Rows.fnBestQuoteIgnoresNeutralInsertionsSpec.post enc Try.prog Try.f3 false true false false) := by
  refine returnsInHanded_of_change (C := Try.checked) own started (by kernel_rfl) Try.func3
    (ChangeSpec.witness6 (enc := enc) (C := Try.checked) false ⟨#[], #[.string ByteArray.empty, .string ByteArray.empty, .string ByteArray.empty, .bool false], []⟩ 8 (by kernel_rfl) (by kernel_rfl) (by kernel_rfl) (by kernel_rfl)) ?_
  intro W base args ds gs before hval0 hW hcnd _
  have hval : ∀ (j : Nat) t v, Try.f3.params[j]? = some t → args[j]? = some v → Value.okWide Try.prog W .any base t v := hval0
  have hW' := hW
  obtain ⟨p, q, hA0, hV, rfl, hfz, hnd⟩ := hW
  have hA : DataW.TrodAll enc Try.prog W 0 (fun _ => true) true Try.f3.params.toList args.toList ds p := hA0
  rw [Try.params3] at hA hval
  obtain ⟨v0, vs0, d0, ds0, p0, q0, hargs, rfl, rfl, h0, r0⟩ := trodAll_cons hA
  obtain ⟨v1, vs1, d1, ds1, p1, q1, rfl, rfl, rfl, h1, r1⟩ := trodAll_cons r0
  obtain ⟨v2, vs2, d2, ds2, p2, q2, rfl, rfl, rfl, h2, r2⟩ := trodAll_cons r1
  obtain ⟨v3, vs3, d3, ds3, p3, q3, rfl, rfl, rfl, h3, r3⟩ := trodAll_cons r2
  obtain ⟨rfl, rfl, rfl⟩ := trodAll_nil r3
  obtain rfl : args = #[v0, v1, v2, v3] := by cases args; simp_all
  obtain ⟨rfl, rfl⟩ := trodVars_none hV
  obtain ⟨a0, rfl, rfl, rfl, w0⟩ := open_string Try.underlying9 (hval 0 9 v0 rfl rfl) h0
  obtain ⟨a1, rfl, rfl, rfl, w1⟩ := open_string Try.underlying9 (hval 1 9 v1 rfl rfl) h1
  obtain ⟨a2, rfl, rfl, rfl, w2⟩ := open_string Try.underlying9 (hval 2 9 v2 rfl rfl) h2
  obtain ⟨a3, rfl, rfl, rfl⟩ := open_bool Try.underlying4 (hval 3 4 v3 rfl rfl) h3
  clear hA0 hval0
  simp only [List.append_nil] at hW'
  refine (walk a0 a1 a2 a3 w0 w1 w2 W).mono fun e W' ⟨he, hg⟩ => ?_
  subst he
  exact ⟨_, rfl, _, _, _, [], [], [], hW', (trodAll_cons_mk (shut_bool Try.underlying4 _) trodAll_mk0), (trodAll_cons_mk (shut_string Try.underlying9 w0) (trodAll_cons_mk (shut_string Try.underlying9 w1) (trodAll_cons_mk (shut_string Try.underlying9 w2) (trodAll_cons_mk (shut_bool Try.underlying4 _) trodAll_mk0)))), rfl, hg.frame _, fun h => by cases h⟩

theorem over : Rows.fnBestQuoteIgnoresNeutralInsertionsRow.holds Try.pinned (OpenSpec.ofChange Rows.fnBestQuoteIgnoresNeutralInsertionsSpec) :=
  OpenClaim.holds_of_wide 3 Try.f3 rfl rfl rfl rfl rfl rfl rfl ⟨rfl, rfl, rfl, rfl, rfl⟩ rfl rfl rfl rfl rfl (by kernel_rfl) Try.func3 (by kernel_rfl)
    (of_decide_eq_true (by kernel_rfl)) (by unfold Func.isWrapper; first | (rw [if_pos (by decide +kernel)]; kernel_rfl) | (rw [if_neg (by decide +kernel)]; exact ⟨rfl, rfl⟩))
    (fun os started H enc _ => lifted os started H enc)

/-- ████ THE STATEMENT ████ -/
theorem proved : Rows.FnBestQuoteIgnoresNeutralInsertionsSaid :=
  over
#print axioms proved
end Go.Proofs.Ytgnmadbenemndaa.fnBestQuoteIgnoresNeutralInsertions
