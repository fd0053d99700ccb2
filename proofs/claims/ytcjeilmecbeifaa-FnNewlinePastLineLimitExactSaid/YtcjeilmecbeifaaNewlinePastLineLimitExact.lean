/-
  PROVED: nothing is written while the last line is shorter than the limit; else one line break and, unless minifying, the indent's blanks.
-/
import Derived.Test.YtcjeilmecbeifaaRows
import Derived.WalkKit
import Derived.ProofKit
import Derived.LoopTactic
import Derived.WalkSpells
import Derived.Deep.Light
import Derived.Test.YtcjeilmecbeifaaPrN
import Derived.OpenShut
import Derived.ShutString
import Derived.ChangeOld
import Derived.Below
namespace Go.Proofs.Ytcjeilmecbeifaa.fnNewlinePastLineLimitExact
open Go.ChangeShapes Go.WideShapes Go.ChangeAt Go.RowKit
open Go.ChangeMaps (open_string shut_string)
set_option linter.unusedVariables false

theorem own : ownKnob Try.prog.godebug = none := by kernel_rfl
theorem laidOut : laidOutB Try.prog = true := by kernel_rfl

/-- WHAT THE WALK IS TOLD OF A SLICE OF INTEGERS THAT CAME IN: it is nil; or it leads to a row of 'cap' cells, the numbers 'zs' (the first 'len' are its elements, the rest its spare room), each fitting its kind. -/
def IsRow (k : IntKind) (w : World) (a : Option Addr) (len cap : Nat) (zs : List Int) : Prop :=
  (a = none ∧ len = 0 ∧ cap = 0 ∧ zs = []) ∨
  ∃ x, a = some x ∧ len ≤ cap ∧ cap ≤ maxLen ∧ zs.length = cap ∧ (∀ i, i < zs.length → w.cell? (x.add i) = some (.int k (zs.getD i 0))) ∧ ∀ n ∈ zs, (Lit.int k n).wf = true

theorem isrow_reads {k : IntKind} {w : World} {a : Option Addr} {len cap : Nat} {zs : List Int} (h : IsRow k w a len cap zs) : Reads w w.heap.size 1 a len ((zs.take len).map (Value.int k)) ∧ (a = none → len = 0) := by
  rcases h with ⟨rfl, rfl, rfl, rfl⟩ | ⟨x, rfl, hl, hm, hz, hc, _⟩
  · exact ⟨Reads.none_, fun _ => rfl⟩
  · refine ⟨⟨by simp; omega, fun hn => ⟨x, rfl, ?_, fun j u hu => ?_⟩⟩, fun h => by cases h⟩
    · have := hc 0 (by omega)
      exact World.block_lt_of_cell? w x (by simpa [Addr.add] using this)
    · have hj : j < len := by
        have := (List.getElem?_eq_some_iff.1 hu).1
        simp at this; omega
      rw [hc j (by omega)]
      rw [List.getElem?_map, List.getElem?_take_of_lt hj, List.getElem?_eq_getElem (by omega)] at hu
      rw [List.getD_eq_getElem?_getD, List.getElem?_eq_getElem (by omega)]
      exact hu
set_option maxRecDepth 100000 in
theorem zb_t (A : Option Addr) (n c : Nat) (l : Int) (mn : Bool) (k2 : Int) (w : World) (h : n ≤ 1048576) : Calls Try.prog 5 #[.slice A n c, .int .i64 l, .bool mn, .int .i32 k2] w fun e w' => e = .returned (.bool true) ∧ w = w' := by
  have d1 : decide (1048576 < (n : Int)) = false := by simp; omega
  go_enter Try.func5, Try.ntmps5
  go_wp2
  all_goals first | omega | (go_ret; exact ⟨rfl, rfl⟩)
set_option maxRecDepth 100000 in
theorem zb_f (A : Option Addr) (n c : Nat) (l : Int) (mn : Bool) (k2 : Int) (w : World) (hn : n ≤ maxLen) (h : ¬ n ≤ 1048576) : Calls Try.prog 5 #[.slice A n c, .int .i64 l, .bool mn, .int .i32 k2] w fun e w' => e = .returned (.bool false) ∧ w = w' := by
  unfold maxLen at hn
  have d1 : decide (1048576 < (n : Int)) = true := by simp; omega
  go_enter Try.func5, Try.ntmps5
  go_wp2
  all_goals first | omega | (go_ret; exact ⟨rfl, rfl⟩)
theorem own_form {w : World} {B : Nat} {e : TypeId} {A : Option Addr} {n c m : Nat} {xs : List Value} (h : w.ownsRow B e 1 (.slice A n c) m xs) : (A = none → n = 0 ∧ c = 0) ∧ n ≤ c ∧ c ≤ maxLen := by
  rcases h.2 with ⟨hv, h0⟩ | ⟨g, cap, cur, hv, _, _, h1, h2, _⟩
  · injection hv with a b c'
    subst a; subst b; subst c'
    exact ⟨fun _ => ⟨rfl, rfl⟩, by omega, by unfold maxLen; omega⟩
  · injection hv with a b c'
    subst a; subst b; subst c'
    exact ⟨fun h => (by cases h), h1, h2⟩

theorem pre1 (X Y : List Int) (n : Nat) (h : X.length = n) : decide ((X ++ Y).take n = X) = true := by
  rw [decide_eq_true_iff]; exact List.take_left' h
theorem spd (X : List Int) (n k : Nat) (h : X.length = n) : sp ((X ++ 10 :: List.replicate (2 * k) 32).drop (n + 1)) = true := by
  rw [← List.drop_drop, List.drop_left' h]; simp [sp]
/-! ### STEP 1: THE WALK: the Go text returns true, AND WRITES NOTHING THAT WAS THERE: 'Below w.heap.size w w'' (Derived/Below.lean: '.refl', '.alloc', '.drew', '.setCell' at a new block, '.trans'). Open each 'IsRow' by 'rcases' AHEAD of 'go_enter'; part every test ahead of the walk. -/
set_option maxHeartbeats 1000000 in
set_option maxRecDepth 100000 in
theorem walk (a0 : Option Addr) (len0 cap0 : Nat) (z0 : List Int) (a1 : Int) (a2 : Bool) (a3 : Int) (w : World) (w0 : IsRow .u8 w a0 len0 cap0 z0) (w1 : (Lit.int .i64 a1).wf = true) (w3 : (Lit.int .i32 a3).wf = true) :
    Calls Try.prog 3 #[.slice a0 len0 cap0, .int .i64 a1, .bool a2, .int .i32 a3] w fun e w' => e = .returned (.bool true) ∧ Below w.heap.size w w' := by
  simp [Lit.wf, IntKind.min, IntKind.max, IntKind.signed, IntKind.bits] at w1 w3
  obtain ⟨hr, hA⟩ := isrow_reads w0
  have hln : len0 ≤ maxLen := by
    rcases w0 with ⟨_, rfl, _⟩ | ⟨_, _, h1, h2, _⟩
    · unfold maxLen; omega
    · omega
  obtain ⟨X, hX⟩ : ∃ X, X = z0.take len0 := ⟨_, rfl⟩
  rw [← hX] at hr
  have hXl : X.length = len0 := by have := hr.1; simpa using this
  have HR := Lib.hid hr; have HXL := Lib.hid hXl; have HA := Lib.hid hA
  clear hr hX w0 hA hXl
  by_cases hbig : len0 ≤ 1048576
  case neg =>
    go_enter Try.func3, Try.ntmps3
    go_wp2_with (go_at_call 5; refine (zb_f a0 len0 cap0 a1 a2 a3 _ hln hbig).mono ?_; rintro e wz ⟨rfl, rfl⟩)
    go_ret
    exact ⟨rfl, Below.refl _ _⟩
  unfold maxLen at hln
  have e1 : decide (1048576 < (len0 : Int)) = false := by simp; omega
  by_cases h3 : 65536 < a3
  · have e3 : decide (65536 < a3) = true := by simpa using h3
    go_enter Try.func3, Try.ntmps3
    go_wp2_with (go_at_call 5; refine (zb_t a0 len0 cap0 a1 a2 a3 _ hbig).mono ?_; rintro e wz ⟨rfl, rfl⟩)
    all_goals first | omega | (go_ret; exact ⟨rfl, Below.refl _ _⟩)
  have e3 : decide (65536 < a3) = false := by simpa using h3
  by_cases hlt : (lst X : Int) < a1
  · have d1 : decide ((lst X : Int) < a1) = true := by simpa using hlt
    go_enter Try.func3, Try.ntmps3
    go_wp2_with (go_at_call 5; refine (zb_t a0 len0 cap0 a1 a2 a3 _ hbig).mono ?_; rintro e wz ⟨rfl, rfl⟩)
    all_goals try (exfalso; omega)
    go_wp2_with (go_at_call 6; refine (copy_any a0 len0 cap0 X w HR.out (by omega) HA.out).mono ?_)
    rintro e w1 ⟨A1, c1, rfl, hown1, hb1⟩
    have f1 := own_form hown1
    have O1 := Lib.hid hown1; have B1 := Lib.hid hb1; have F1 := Lib.hid f1
    clear hown1 hb1 f1 HR HA
    go_wp2_with (go_at_call 6; refine (copy_any A1 len0 c1 X w1 (Reads.of_own O1.out) (by omega) (fun h => (F1.out.1 h).1)).mono ?_)
    rintro e w2 ⟨A2, c2, rfl, hown2, hb2⟩
    have O2 := Lib.hid hown2; have B2 := Lib.hid hb2
    clear hown2 hb2
    go_wp2_with (go_at_call 7; refine (new_any w1.heap.size A2 len0 c2 (X.map (Value.int .u8)) a1 a2 false w2 (by simpa using HXL.out) O2.out B2.out.size).mono ?_)
    rintro e w3 ⟨rfl, ⟨cs3, hp3⟩, hb3⟩
    have P3 := Lib.hid hp3; have B3 := Lib.hid hb3
    clear hp3 hb3
    go_wp2_with (go_at_call 8; refine (zznewline_no a3 w3 P3.out len0 HXL.out (by omega) hlt).mono ?_)
    rintro e w4 ⟨rfl, ⟨os4, oe4, cs4, hp4⟩, hb4⟩
    have hB4 : Below w1.heap.size w1 w4 := (B2.out.trans (B3.out.mono B2.out.size)).trans hb4
    have P4 := Lib.hid hp4; have B4 := Lib.hid hB4
    clear hp4 hb4 hB4
    go_wp2_with (go_at_call 9; refine (css_any w4 P4.out len0 (by rw [List.length_map]; exact HXL.out)).mono ?_)
    rintro e w4' ⟨rfl, rfl⟩
    have HR4 : Hid (Reads w4 w4.heap.size 1 A1 len0 (X.map (Value.int .u8))) := Lib.hid (((Reads.of_own O1.out).below B4.out).more B4.out.size)
    have HO4 : Hid (Reads w4 w4.heap.size 1 A2 len0 (X.map (Value.int .u8))) := Lib.hid (by have := P4.out.own; rw [List.length_map, HXL.out] at this; exact Reads.of_own this)
    go_wp2_with (go_at_call 10; refine (last_any A1 len0 c1 X _ w4 HR4.out (by omega)).mono ?_)
    rintro e w4' ⟨rfl, rfl⟩
    have HEQ := Lib.hid (show decide (X = X) = true by simp)
    go_wp2_with (go_at_call 11; refine (eq_any A2 len0 c2 X A1 len0 c1 X w4 HO4.out HR4.out (by omega) (by omega)).mono ?_)
    all_goals
      rintro e w5 rfl hb5
      have B5 := Lib.hid hb5
      clear hb5
      go_wp2
      go_ret
      exact ⟨rfl, (B1.out.trans (B4.out.mono B1.out.size)).trans (B5.out.mono (Nat.le_trans B1.out.size B4.out.size))⟩
  · have d1 : decide ((lst X : Int) < a1) = false := by simpa using hlt
    obtain ⟨m, hm⟩ : ∃ m, m = if a2 then 0 else (cnt a1 a3).toNat := ⟨_, rfl⟩
    obtain ⟨Y, hY⟩ : ∃ Y, Y = X ++ 10 :: List.replicate (2 * m) 32 := ⟨_, rfl⟩
    obtain ⟨L, hL⟩ : ∃ L, L = len0 + 1 + 2 * m := ⟨_, rfl⟩
    have hYl : Y.length = L := by rw [hY, List.length_append, List.length_cons, List.length_replicate, HXL.out]; omega
    have hm9 : m ≤ 65536 := by
      rw [hm]; split
      · omega
      · unfold cnt; split <;> omega
    have kL : L ≤ 2000000 := by omega
    have kL1 : len0 + 1 ≤ L := by omega
    have HY' : Hid (Y = X ++ 10 :: List.replicate (2 * (if a2 then 0 else (cnt a1 a3).toNat)) 32) := Lib.hid (by rw [← hm]; exact hY)
    have HPR := Lib.hid (show decide (Y.take len0 = X) = true by rw [hY]; exact pre1 X _ len0 HXL.out)
    have HSP := Lib.hid (show sp (Y.drop (len0 + 1)) = true by rw [hY]; exact spd X len0 m HXL.out)
    have H10 := Lib.hid (show Y.getD len0 0 = 10 by rw [hY, List.getD_eq_getElem?_getD, List.getElem?_append_right (by rw [HXL.out]; omega), HXL.out, Nat.sub_self]; rfl)
    have HM := Lib.hid hm; have HYL := Lib.hid hYl; have HLL := Lib.hid hL
    clear hm hY hL hYl
    cases a2 with
    | true =>
      have QM := Lib.hid (show m = 0 by have := HM.out; simpa using this)
      go_enter Try.func3, Try.ntmps3
      go_wp2_with (go_at_call 5; refine (zb_t a0 len0 cap0 a1 true a3 _ hbig).mono ?_; rintro e wz ⟨rfl, rfl⟩)
      all_goals try (exfalso; omega)
      go_wp2_with (go_at_call 6; refine (copy_any a0 len0 cap0 X w HR.out (by omega) HA.out).mono ?_)
      rintro e w1 ⟨A1, c1, rfl, hown1, hb1⟩
      have f1 := own_form hown1
      have O1 := Lib.hid hown1; have B1 := Lib.hid hb1; have F1 := Lib.hid f1
      clear hown1 hb1 f1 HR HA
      go_wp2_with (go_at_call 6; refine (copy_any A1 len0 c1 X w1 (Reads.of_own O1.out) (by omega) (fun h => (F1.out.1 h).1)).mono ?_)
      rintro e w2 ⟨A2, c2, rfl, hown2, hb2⟩
      have O2 := Lib.hid hown2; have B2 := Lib.hid hb2
      clear hown2 hb2
      go_wp2_with (go_at_call 7; refine (new_any w1.heap.size A2 len0 c2 (X.map (Value.int .u8)) a1 true false w2 (by simpa using HXL.out) O2.out B2.out.size).mono ?_)
      rintro e w3 ⟨rfl, ⟨cs3, hp3⟩, hb3⟩
      have P3 := Lib.hid hp3; have B3 := Lib.hid hb3
      clear hp3 hb3
      go_wp2_with (go_at_call 8; refine (zznewline_yes a3 w3 P3.out (Nat.le_trans B2.out.size B3.out.size) len0 HXL.out (by omega) (by omega) (by omega) (by omega) (by omega) (by omega) Y HY'.out).mono ?_)
      rintro e w4 ⟨rfl, ⟨os4, oe4, A4, c4, cs4, hp4⟩, hb4⟩
      have hB4 : Below w1.heap.size w1 w4 := (B2.out.trans (B3.out.mono B2.out.size)).trans hb4
      have hown4 := hp4.own
      rw [List.length_map, HYL.out] at hown4
      have f4 := own_form hown4
      have P4 := Lib.hid hp4; have B4 := Lib.hid hB4; have O4 := Lib.hid hown4; have F4 := Lib.hid f4
      clear hp4 hb4 hB4 hown4 f4
      obtain ⟨g, hA4⟩ : ∃ g, A4 = some ⟨g, 0, none⟩ := by
        rcases O4.out.2 with ⟨hv, h0⟩ | ⟨g, cap, cur, hv, _⟩
        · omega
        · injection hv with a; exact ⟨g, a⟩
      subst hA4
      go_wp2_with (go_at_call 9; refine (css_any w4 P4.out L (by rw [List.length_map]; exact HYL.out)).mono ?_)
      rintro e w4' ⟨rfl, rfl⟩
      have HR4 : Hid (Reads w4 w4.heap.size 1 A1 len0 (X.map (Value.int .u8))) := Lib.hid (((Reads.of_own O1.out).below B4.out).more B4.out.size)
      have HO4 : Hid (Reads w4 w4.heap.size 1 (some ⟨g, 0, none⟩) L (Y.map (Value.int .u8))) := Lib.hid (Reads.of_own O4.out)
      go_wp2_with (go_at_call 10; refine (last_any A1 len0 c1 X _ w4 HR4.out (by omega)).mono ?_)
      rintro e w4' ⟨rfl, rfl⟩
      go_wp2_with (go_at_call 13; refine (prefix_any (some ⟨g, 0, none⟩) L c4 Y A1 len0 c1 X w4 HO4.out HR4.out (by omega) (by omega) F4.out.2.1 F4.out.1 F4.out.2.2).mono ?_)
      all_goals try (exfalso; have q1 := HLL.out; have q2 := QM.out; (try simp only [bne_iff_ne, ne_eq] at *); (try unfold wrap64 at *); omega)
      rintro e w5 ⟨rfl, hb5⟩
      rw [HPR.out]
      have hO5 : Reads w5 w5.heap.size 1 (some ⟨g, 0, none⟩) L (Y.map (Value.int .u8)) := (HO4.out.below hb5).more hb5.size
      have cL : w5.cell? ⟨g, len0, none⟩ = some (.int .u8 10) := by
        obtain ⟨b, off, e, _, hc⟩ := reads_cell hO5 (by omega)
        injection e with e; injection e with e1 e2
        subst e1; subst e2
        have := hc len0 (by omega)
        rw [H10.out, Nat.zero_add] at this
        exact this
      have HO5 := Lib.hid hO5; have B5 := Lib.hid hb5
      clear hb5 hO5
      have hfc := F4.out.2.1
      have RS : Hid (∀ A', L = len0 + 1 ∨ A' = some ⟨g, len0 + 1, none⟩ → Reads w5 w5.heap.size 1 A' (L - (len0 + 1)) ((Y.drop (len0 + 1)).map (Value.int .u8))) := Lib.hid (by
        intro A' h
        have hl := HYL.out
        refine ⟨by rw [List.length_map, List.length_drop, hl]; omega, fun hn => ?_⟩
        rcases h with h | rfl
        · omega
        · obtain ⟨ad, e, hb, hc⟩ := HO5.out.2 (by omega)
          injection e with e
          subst e
          refine ⟨⟨g, len0 + 1, none⟩, rfl, hb, fun j u hu => ?_⟩
          have := hc (len0 + 1 + j) u (by rw [← hu, List.map_drop, List.getElem?_drop])
          rw [← this, ← add_of_add]
          congr 1
          simp [Addr.add])
      go_wp2_with (go_at_call 14; refine (spaces_any _ (L - (len0 + 1)) _ (Y.drop (len0 + 1)) w5.heap.size w5 (RS.out _ (by first | exact .inr rfl | exact .inl (by omega))) (by omega)).mono ?_)
      all_goals
        rintro e w6 ⟨rfl, rfl⟩
        rw [HSP.out]
        go_wp2
        go_ret
        exact ⟨rfl, (B1.out.trans (B4.out.mono B1.out.size)).trans (B5.out.mono (Nat.le_trans B1.out.size B4.out.size))⟩
    | false =>
      have QM := Lib.hid (show m = (cnt a1 a3).toNat by have := HM.out; simpa using this)
      go_enter Try.func3, Try.ntmps3
      go_wp2_with (go_at_call 5; refine (zb_t a0 len0 cap0 a1 false a3 _ hbig).mono ?_; rintro e wz ⟨rfl, rfl⟩)
      all_goals try (exfalso; omega)
      go_wp2_with (go_at_call 6; refine (copy_any a0 len0 cap0 X w HR.out (by omega) HA.out).mono ?_)
      rintro e w1 ⟨A1, c1, rfl, hown1, hb1⟩
      have f1 := own_form hown1
      have O1 := Lib.hid hown1; have B1 := Lib.hid hb1; have F1 := Lib.hid f1
      clear hown1 hb1 f1 HR HA
      go_wp2_with (go_at_call 6; refine (copy_any A1 len0 c1 X w1 (Reads.of_own O1.out) (by omega) (fun h => (F1.out.1 h).1)).mono ?_)
      rintro e w2 ⟨A2, c2, rfl, hown2, hb2⟩
      have O2 := Lib.hid hown2; have B2 := Lib.hid hb2
      clear hown2 hb2
      go_wp2_with (go_at_call 7; refine (new_any w1.heap.size A2 len0 c2 (X.map (Value.int .u8)) a1 false false w2 (by simpa using HXL.out) O2.out B2.out.size).mono ?_)
      rintro e w3 ⟨rfl, ⟨cs3, hp3⟩, hb3⟩
      have P3 := Lib.hid hp3; have B3 := Lib.hid hb3
      clear hp3 hb3
      go_wp2_with (go_at_call 8; refine (zznewline_yes a3 w3 P3.out (Nat.le_trans B2.out.size B3.out.size) len0 HXL.out (by omega) (by omega) (by omega) (by omega) (by omega) (by omega) Y HY'.out).mono ?_)
      rintro e w4 ⟨rfl, ⟨os4, oe4, A4, c4, cs4, hp4⟩, hb4⟩
      have hB4 : Below w1.heap.size w1 w4 := (B2.out.trans (B3.out.mono B2.out.size)).trans hb4
      have hown4 := hp4.own
      rw [List.length_map, HYL.out] at hown4
      have f4 := own_form hown4
      have P4 := Lib.hid hp4; have B4 := Lib.hid hB4; have O4 := Lib.hid hown4; have F4 := Lib.hid f4
      clear hp4 hb4 hB4 hown4 f4
      obtain ⟨g, hA4⟩ : ∃ g, A4 = some ⟨g, 0, none⟩ := by
        rcases O4.out.2 with ⟨hv, h0⟩ | ⟨g, cap, cur, hv, _⟩
        · omega
        · injection hv with a; exact ⟨g, a⟩
      subst hA4
      go_wp2_with (go_at_call 9; refine (css_any w4 P4.out L (by rw [List.length_map]; exact HYL.out)).mono ?_)
      rintro e w4' ⟨rfl, rfl⟩
      have HR4 : Hid (Reads w4 w4.heap.size 1 A1 len0 (X.map (Value.int .u8))) := Lib.hid (((Reads.of_own O1.out).below B4.out).more B4.out.size)
      have HO4 : Hid (Reads w4 w4.heap.size 1 (some ⟨g, 0, none⟩) L (Y.map (Value.int .u8))) := Lib.hid (Reads.of_own O4.out)
      go_wp2_with (go_at_call 10; refine (last_any A1 len0 c1 X _ w4 HR4.out (by omega)).mono ?_)
      rintro e w4' ⟨rfl, rfl⟩
      go_wp2_with (go_at_call 12; refine (width_any a1 a3 w4 (by omega) (by omega) (by omega) (by omega)).mono ?_)
      rintro e w4' ⟨rfl, rfl⟩
      go_wp2_with (go_at_call 13; refine (prefix_any (some ⟨g, 0, none⟩) L c4 Y A1 len0 c1 X w4 HO4.out HR4.out (by omega) (by omega) F4.out.2.1 F4.out.1 F4.out.2.2).mono ?_)
      all_goals try (exfalso; have q1 := HLL.out; have q2 := QM.out; (try simp only [bne_iff_ne, ne_eq] at *); (try unfold wrap64 at *); omega)
      rintro e w5 ⟨rfl, hb5⟩
      rw [HPR.out]
      have hO5 : Reads w5 w5.heap.size 1 (some ⟨g, 0, none⟩) L (Y.map (Value.int .u8)) := (HO4.out.below hb5).more hb5.size
      have cL : w5.cell? ⟨g, len0, none⟩ = some (.int .u8 10) := by
        obtain ⟨b, off, e, _, hc⟩ := reads_cell hO5 (by omega)
        injection e with e; injection e with e1 e2
        subst e1; subst e2
        have := hc len0 (by omega)
        rw [H10.out, Nat.zero_add] at this
        exact this
      have HO5 := Lib.hid hO5; have B5 := Lib.hid hb5
      clear hb5 hO5
      have hfc := F4.out.2.1
      have RS : Hid (∀ A', L = len0 + 1 ∨ A' = some ⟨g, len0 + 1, none⟩ → Reads w5 w5.heap.size 1 A' (L - (len0 + 1)) ((Y.drop (len0 + 1)).map (Value.int .u8))) := Lib.hid (by
        intro A' h
        have hl := HYL.out
        refine ⟨by rw [List.length_map, List.length_drop, hl]; omega, fun hn => ?_⟩
        rcases h with h | rfl
        · omega
        · obtain ⟨ad, e, hb, hc⟩ := HO5.out.2 (by omega)
          injection e with e
          subst e
          refine ⟨⟨g, len0 + 1, none⟩, rfl, hb, fun j u hu => ?_⟩
          have := hc (len0 + 1 + j) u (by rw [← hu, List.map_drop, List.getElem?_drop])
          rw [← this, ← add_of_add]
          congr 1
          simp [Addr.add])
      go_wp2_with (go_at_call 14; refine (spaces_any _ (L - (len0 + 1)) _ (Y.drop (len0 + 1)) w5.heap.size w5 (RS.out _ (by first | exact .inr rfl | exact .inl (by omega))) (by omega)).mono ?_)
      all_goals
        rintro e w6 ⟨rfl, rfl⟩
        rw [HSP.out]
        go_wp2
        go_ret
        exact ⟨rfl, (B1.out.trans (B4.out.mono B1.out.size)).trans (B5.out.mono (Nat.le_trans B1.out.size B4.out.size))⟩

/-! ### THE ROW's STEP: WRITTEN OUT: LEAVE IT -/
set_option maxRecDepth 100000 in
theorem lifted (os : Os) (started : os.Started) (H : Type) (enc : TypeId × Value → H) :
    ReturnsInHanded {} Try.checked os 3 .any (Rows.fnNewlinePastLineLimitExactSpec.pre6 enc Try.prog Try.f3 Rows.fnNewlinePastLineLimitExactRow.domain false) (Rows.fnNewlinePastLineLimitExactSpec.post enc Try.prog Try.f3 false true false false) := by
  refine returnsInHanded_of_change (C := Try.checked) own started (by kernel_rfl) Try.func3
    (ChangeSpec.witness6 (enc := enc) (C := Try.checked) false ⟨#[], #[.slice none 0 0, .int .i64 0, .bool false, .int .i32 0], []⟩ 8 (by kernel_rfl) (by kernel_rfl) (by kernel_rfl) (by kernel_rfl)) ?_
  intro W base args ds gs before hval0 hW hcnd _
  have hval : ∀ (j : Nat) t v, Try.f3.params[j]? = some t → args[j]? = some v → Value.okWide Try.prog W .any base t v := hval0
  have hW' := hW
  obtain ⟨p, q, hA0, hV, rfl, hfz, hnd⟩ := hW
  have hA : DataW.TrodAll enc Try.prog W 0 (fun _ => true) true Try.f3.params.toList args.toList ds p := hA0
  rw [Try.params3] at hA hval
  obtain ⟨v0, vs0, d0, ds0, p0, q0, hargs, rfl, rfl, h0, r0⟩ := trodAll_cons hA
  obtain ⟨v1, vs1, d1, ds1, p1, q1, rfl, rfl, rfl, h1, r1⟩ := trodAll_cons r0
  obtain ⟨v2, vs2, d2, ds2, p2, q2, rfl, rfl, rfl, h2, r2⟩ := trodAll_cons r1
  obtain ⟨v3, vs3, d3, ds3, p3, q3, rfl, rfl, rfl, h3, r3⟩ := trodAll_cons r2
  obtain ⟨rfl, rfl, rfl⟩ := trodAll_nil r3
  obtain rfl : args = #[v0, v1, v2, v3] := by cases args; simp_all
  obtain ⟨rfl, rfl⟩ := trodVars_none hV
  obtain ⟨a0, len0, cap0, rfl⟩ := okWide_slice Try.underlying22 (hval 0 22 v0 rfl rfl)
  have k0 := h0
  have lt0 : ∀ x ∈ p0, x.block < W.heap.size := by obtain ⟨m, hm⟩ := k0; exact DataW.trod_lt m _ _ _ hm
  obtain ⟨z0, w0⟩ : ∃ zs, IsRow .u8 W a0 len0 cap0 zs := by
    obtain ⟨fuel, hf⟩ := h0
    rcases open_ints Try.underlying22 Try.underlying5 (by kernel_rfl) hf with ⟨hcs, _⟩ | ⟨x, l, c, zs, hcs, _, hl, hm, hz, _, hcell, hwz⟩
    · simp [Value.cells] at hcs
      obtain ⟨rfl, rfl, rfl⟩ := hcs
      exact ⟨[], .inl ⟨rfl, rfl, rfl, rfl⟩⟩
    · simp [Value.cells] at hcs
      obtain ⟨rfl, rfl, rfl⟩ := hcs
      exact ⟨zs, .inr ⟨_, rfl, hl, hm, by simpa using hz, hcell, hwz⟩⟩
  obtain ⟨a1, rfl, rfl, rfl, w1⟩ := open_int Try.underlying3 (hval 1 3 v1 rfl rfl) h1
  obtain ⟨a2, rfl, rfl, rfl⟩ := open_bool Try.underlying4 (hval 2 4 v2 rfl rfl) h2
  obtain ⟨a3, rfl, rfl, rfl, w3⟩ := open_int Try.underlying21 (hval 3 21 v3 rfl rfl) h3
  clear hA0 hval0
  refine (walk a0 len0 cap0 z0 a1 a2 a3 W w0 w1 w3).mono fun e W' ⟨he, bel⟩ => ?_
  subst he
  exact ⟨_, rfl, _, _, _, [], _, [], hW', trodAll_mk1 (shut_bool Try.underlying4 _), (trodAll_cons_mk (Below.trod laidOut (by kernel_rfl) (of_decide_eq_true (by kernel_rfl)) k0 bel lt0) (trodAll_cons_mk (shut_int Try.underlying3 w1) (trodAll_cons_mk (shut_bool Try.underlying4 _) (trodAll_cons_mk (shut_int Try.underlying21 w3) trodAll_mk0)))), rfl, bel.frame _, fun h => by cases h⟩

theorem over : Rows.fnNewlinePastLineLimitExactRow.holds Try.pinned (OpenSpec.ofChange Rows.fnNewlinePastLineLimitExactSpec) :=
  OpenClaim.holds_of_wide 3 Try.f3 rfl rfl rfl rfl rfl rfl rfl ⟨rfl, rfl, rfl, rfl, rfl⟩ rfl rfl rfl rfl rfl (by kernel_rfl) Try.func3 (by kernel_rfl)
    (of_decide_eq_true (by kernel_rfl)) (by unfold Func.isWrapper; first | (rw [if_pos (by decide +kernel)]; kernel_rfl) | (rw [if_neg (by decide +kernel)]; exact ⟨rfl, rfl⟩))
    (fun os started H enc _ => lifted os started H enc)

/-- ████ THE STATEMENT ████ -/
theorem proved : Rows.FnNewlinePastLineLimitExactSaid := over
#print axioms proved
end Go.Proofs.Ytcjeilmecbeifaa.fnNewlinePastLineLimitExact
