/-
  PROVED: With prefix none, a plain identifier or an asterisk, and name a plain identifier, an asterisk or an ampersand, printNamespacedName appends exactly the prefix with its bar and the name; the law answers true at all inputs. Conditions: the told card's own (fmt's text told; the listed variables as the program's text lays them).
-/
import Derived.Test.YtemefojfnghhoaaFmtRows
import Derived.Test.YtemefojfnghhoaaFmtCards
import Derived.Test.YtemefojfnghhoaaFmtTie
import Derived.WalkKit
import Derived.ProofKit
import Derived.Deep.QuietTactic
import Derived.BigQuiet
import Derived.IntWalk
import Derived.Deep.RegionWith
import Derived.Outline
import Derived.LoopTactic
import Derived.WalkSpells
import Derived.Deep.Light
import Derived.Test.YtemefojfnghhoaaFmtPnn
import Derived.OpenShut
import Derived.ShutString
import Derived.ChangeOld
import Derived.Below
import Derived.Carry
import Derived.Stop.JoinedAt
import Derived.Stop.Texts
import Derived.Stop.JoinedTold
import Derived.SevenToldRow
import Derived.OpenVars
import Derived.Handy
import Derived.Lay
import Derived.SevenTiedAt
namespace Go.Proofs.YtemefojfnghhoaaFmt.fnNamespacedNameCaseTable
open Go.ChangeShapes Go.WideShapes Go.ChangeAt Go.RowKit
open Go.ChangeMaps (open_string shut_string)
open Go.Extern.Stop Go.Stop Go.Extern
set_option linter.unusedVariables false
set_option linter.unusedSimpArgs false

theorem own : ownKnob Tryf.prog.godebug = none := by kernel_rfl
theorem laidOut : laidOutB Tryf.pinned.checked.prog = true := by kernel_rfl

/-- What the walk is told of a slice of integers that came in. -/
def IsRow (k : IntKind) (w : World) (a : Option Addr) (len cap : Nat) (zs : List Int) : Prop :=
  (a = none ∧ len = 0 ∧ cap = 0 ∧ zs = []) ∨
  ∃ x, a = some x ∧ len ≤ cap ∧ cap ≤ maxLen ∧ zs.length = cap ∧ (∀ i, i < zs.length → w.cell? (x.add i) = some (.int k (zs.getD i 0))) ∧ ∀ n ∈ zs, (Lit.int k n).wf = true
theorem isrow_reads {k : IntKind} {w : World} {a : Option Addr} {len cap : Nat} {zs : List Int} (h : IsRow k w a len cap zs) : Reads w w.heap.size 1 a len ((zs.take len).map (Value.int k)) ∧ (a = none → len = 0) ∧ len ≤ maxLen := by
  rcases h with ⟨rfl, rfl, rfl, rfl⟩ | ⟨x, rfl, hl, hm, hz, hc, _⟩
  · exact ⟨Reads.none_, fun _ => rfl, by unfold maxLen; omega⟩
  · refine ⟨⟨by simp; omega, fun hn => ⟨x, rfl, ?_, fun j u hu => ?_⟩⟩, (fun h => by cases h), by omega⟩
    · have := hc 0 (by omega)
      exact World.block_lt_of_cell? w x (by simpa [Addr.add] using this)
    · have hj : j < len := by
        have := (List.getElem?_eq_some_iff.1 hu).1
        simp at this; omega
      rw [hc j (by omega)]
      rw [List.getElem?_map, List.getElem?_take_of_lt hj, List.getElem?_eq_getElem (by omega)] at hu
      rw [List.getD_eq_getElem?_getD, List.getElem?_eq_getElem (by omega)]
      exact hu



set_option maxHeartbeats 1000000 in
set_option maxRecDepth 100000 in
theorem zb (A : Option Addr) (n c : Nat) (s s' : ByteArray) (k k' : Int) (b b' b'' : Bool) (w : World) (hn : n ≤ maxLen) (hm : s.size ≤ maxLen) (hm' : s'.size ≤ maxLen) :
    Calls Tryf.prog 4 #[.slice A n c, .int .u8 k, .string s, .int .u8 k', .string s', .bool b, .bool b', .bool b''] w fun e w' => e = .returned (.bool (decide (n + s.size + s'.size ≤ 1048576))) ∧ w = w' := by
  unfold maxLen at hn hm hm'
  by_cases h1 : 1048576 < n
  · go_enter Tryf.func4, Tryf.ntmps4
    go_wp2
    go_ret
    exact ⟨ret_bool (by symm; simp; omega), rfl⟩
  by_cases h2 : 1048576 < s.size
  · go_enter Tryf.func4, Tryf.ntmps4
    go_wp2
    go_ret
    exact ⟨ret_bool (by symm; simp; omega), rfl⟩
  by_cases h3 : 1048576 < n + s.size
  · go_enter Tryf.func4, Tryf.ntmps4
    go_wp2
    go_ret
    exact ⟨ret_bool (by symm; simp; omega), rfl⟩
  by_cases h4 : 1048576 < s'.size
  · go_enter Tryf.func4, Tryf.ntmps4
    go_wp2
    go_ret
    exact ⟨ret_bool (by symm; simp; omega), rfl⟩
  by_cases h5 : 1048576 < n + s.size + s'.size
  · go_enter Tryf.func4, Tryf.ntmps4
    go_wp2
    go_ret
    exact ⟨ret_bool (by symm; simp; omega), rfl⟩
  · go_enter Tryf.func4, Tryf.ntmps4
    go_wp2
    go_ret
    exact ⟨ret_bool (by symm; simp; omega), rfl⟩
theorem own_some {w : World} {B n : Nat} {A : Option Addr} {c : Nat} {xs : List Value} (h : w.ownsRow B 5 1 (.slice A n c) n xs) : n ≤ c ∧ (A = none → n = 0) := by
  rcases h.2 with ⟨hv, h0⟩ | ⟨g, cap, cur, hv, _, _, h1, h2, _⟩
  · injection hv with a b c'
    subst a; subst b; subst c'
    exact ⟨by omega, fun _ => by omega⟩
  · injection hv with a b c'
    subst a; subst c'
    exact ⟨h1, fun h => by cases h⟩
theorem k_id (w : World) : Calls Tryf.prog 8 #[] w fun e w' => e = .returned (.int .i64 29) ∧ w = w' := by
  go_enter Tryf.func8, Tryf.ntmps8
  go_wp2
  go_ret
  exact ⟨rfl, rfl⟩
theorem k_st (w : World) : Calls Tryf.prog 9 #[] w fun e w' => e = .returned (.int .i64 13) ∧ w = w' := by
  go_enter Tryf.func9, Tryf.ntmps9
  go_wp2
  go_ret
  exact ⟨rfl, rfl⟩
theorem k_am (w : World) : Calls Tryf.prog 10 #[] w fun e w' => e = .returned (.int .i64 12) ∧ w = w' := by
  go_enter Tryf.func10, Tryf.ntmps10
  go_wp2
  go_ret
  exact ⟨rfl, rfl⟩
theorem k_w1 (w : World) : Calls Tryf.prog 18 #[] w fun e w' => e = .returned (.int .u8 0) ∧ w = w' := by
  go_enter Tryf.func18, Tryf.ntmps18
  go_wp2
  go_ret
  exact ⟨rfl, rfl⟩
theorem k_w2 (w : World) : Calls Tryf.prog 19 #[] w fun e w' => e = .returned (.int .u8 1) ∧ w = w' := by
  go_enter Tryf.func19, Tryf.ntmps19
  go_wp2
  go_ret
  exact ⟨rfl, rfl⟩
def WsPost (w : World) (e : Ending) (w' : World) : Prop := ∃ ws : Int, e = .returned (.int .u8 ws) ∧ (0 ≤ ws ∧ ws ≤ 1) ∧ w = w'
theorem ws_any (b : Bool) (w : World) : Calls Tryf.prog 7 #[.bool b] w (WsPost w) := by
  cases b
  · go_enter Tryf.func7, Tryf.ntmps7
    go_wp2_with (go_at_call 19; refine (k_w2 _).mono ?_; rintro e w' ⟨rfl, rfl⟩)
    go_ret
    exact ⟨1, rfl, by omega, rfl⟩
  · go_enter Tryf.func7, Tryf.ntmps7
    go_wp2_with (go_at_call 18; refine (k_w1 _).mono ?_; rintro e w' ⟨rfl, rfl⟩)
    go_ret
    exact ⟨0, rfl, by omega, rfl⟩
theorem bc_app (s t : ByteArray) : byteCells (s ++ t) = byteCells s ++ byteCells t := by unfold byteCells; rw [ByteArray.data_append, Array.toList_append, List.map_append]
theorem bc_sz (s t : ByteArray) : (s ++ t).size = s.size + t.size := ByteArray.size_append
theorem bc_42 : byteCells ⟨#[42, 124]⟩ = byteCells ⟨#[42]⟩ ++ byteCells ⟨#[124]⟩ := rfl
theorem sz_42 : (⟨#[42, 124]⟩ : ByteArray).size = 2 := rfl
/-! ### STEP 1: THE WALK -/
set_option maxHeartbeats 8000000 in
set_option maxRecDepth 100000 in
theorem walk (a0 : Option Addr) (len0 cap0 : Nat) (z0 : List Int) (a1 : Int) (a2 : ByteArray) (a3 : Int) (a4 : ByteArray) (a5 : Bool) (a6 : Bool) (a7 : Bool) (w : World) (w0 : IsRow .u8 w a0 len0 cap0 z0) (w1 : (Lit.int .u8 a1).wf = true) (w2 : a2.size ≤ maxLen) (w3 : (Lit.int .u8 a3).wf = true) (w4 : a4.size ≤ maxLen)  :
    Calls Tryf.prog 3 #[.slice a0 len0 cap0, .int .u8 a1, .string a2, .int .u8 a3, .string a4, .bool a5, .bool a6, .bool a7] w fun e w' => e = .returned (.bool true) ∧ Below w.heap.size w w' := by
  obtain ⟨hr, hA, hln⟩ := isrow_reads w0
  obtain ⟨X, hX⟩ : ∃ X, X = z0.take len0 := ⟨_, rfl⟩
  rw [← hX] at hr
  have HX := Lib.hid (show X.length = len0 by have := hr.1; simpa using this)
  have HR := Lib.hid hr; have HA := Lib.hid hA; have HLN := Lib.hid hln; have HW2 := Lib.hid w2; have HW4 := Lib.hid w4
  clear hr hX w0 hA
  unfold maxLen at hln w2 w4
  simp [Lit.wf, IntKind.min, IntKind.max, IntKind.signed, IntKind.bits] at w1 w3
  by_cases hbig : len0 + a2.size + a4.size ≤ 1048576
  case neg =>
    have HB := Lib.hid (show decide (len0 + a2.size + a4.size ≤ 1048576) = false by simpa using hbig)
    go_enter Tryf.func3, Tryf.ntmps3
    go_wp2_with (go_at_call 4; refine (zb a0 len0 cap0 a2 a4 _ _ a5 a6 a7 _ HLN.out HW2.out HW4.out).mono ?_; rw [HB.out]; rintro e wz ⟨rfl, rfl⟩)
    go_ret
    exact ⟨rfl, Below.refl _ _⟩
  have HB := Lib.hid (show decide (len0 + a2.size + a4.size ≤ 1048576) = true by simpa using hbig)
  by_cases hs1 : 2 < a1
  · go_enter Tryf.func3, Tryf.ntmps3
    go_wp2_with (go_at_call 4; refine (zb a0 len0 cap0 a2 a4 _ _ a5 a6 a7 _ HLN.out HW2.out HW4.out).mono ?_; rw [HB.out]; rintro e wz ⟨rfl, rfl⟩)
    go_ret
    exact ⟨rfl, Below.refl _ _⟩
  by_cases hs3 : 2 < a3
  · go_enter Tryf.func3, Tryf.ntmps3
    go_wp2_with (go_at_call 4; refine (zb a0 len0 cap0 a2 a4 _ _ a5 a6 a7 _ HLN.out HW2.out HW4.out).mono ?_; rw [HB.out]; rintro e wz ⟨rfl, rfl⟩)
    go_ret
    exact ⟨rfl, Below.refl _ _⟩
  have hA1 : a1 = 0 ∨ a1 = 1 ∨ a1 = 2 := by omega
  have hA3 : a3 = 0 ∨ a3 = 1 ∨ a3 = 2 := by omega
  clear hs1 hs3 w1 w3
  rcases hA1 with rfl | rfl | rfl
  · rcases hA3 with rfl | rfl | rfl
    · cases hp : plB a4
      · have HQ := Lib.hid hp
        clear hp
        go_enter Tryf.func3, Tryf.ntmps3
        go_wp2_with (first | (go_at_call 4; refine (zb a0 len0 cap0 a2 a4 _ _ a5 a6 a7 _ HLN.out HW2.out HW4.out).mono ?_; rw [HB.out]; rintro e wz ⟨rfl, rfl⟩) | (go_at_call 5; (with_reducible refine (plain_any a4 _ (by omega)).mono ?_); rw [HQ.out]; rintro e wz ⟨rfl, rfl⟩))
        go_ret
        exact ⟨rfl, Below.refl _ _⟩
      have HQ := Lib.hid hp
      have HQI := Lib.hid (plB_iff.1 hp)
      clear hp
      obtain ⟨out, hout⟩ : ∃ out, out = (a4 : ByteArray) := ⟨_, rfl⟩
      have HOC : Hid (([a4] : List ByteArray).flatMap byteCells = byteCells out) := Lib.hid (by rw [hout]; simp only [bc_app, bc_42, List.flatMap_cons, List.flatMap_nil, List.append_nil, List.append_assoc])
      have hos : out.size ≤ 1048579 := by
        rw [hout]
        (try simp only [bc_sz, sz_42])
        have := sz1 42; have := sz1 124; have := sz1 38
        omega
      have HO := Lib.hid hout
      clear hout
      go_enter Tryf.func3, Tryf.ntmps3
      go_wp2_with (first | (go_at_call 4; refine (zb a0 len0 cap0 a2 a4 _ _ a5 a6 a7 _ HLN.out HW2.out HW4.out).mono ?_; rw [HB.out]; rintro e wz ⟨rfl, rfl⟩) | (go_at_call 5; (with_reducible refine (plain_any a4 _ (by omega)).mono ?_); rw [HQ.out]; rintro e wz ⟨rfl, rfl⟩))
      go_wp2_with (go_at_call 6; refine (copy_any a0 len0 cap0 X w HR.out (by omega) HA.out).mono ?_)
      rintro e w1 ⟨A1, c1, rfl, ho1, hb1⟩
      have R1 : Hid (Reads w1 w1.heap.size 1 A1 len0 (X.map (Value.int .u8))) := Lib.hid (Reads.of_own ho1)
      have HA1 : Hid (A1 = none → len0 = 0) := Lib.hid (own_some ho1).2
      have B1 := Lib.hid hb1
      clear ho1 hb1
      go_wp2_with (go_at_call 7; refine (ws_any a5 _).mono ?_)
      rintro e wz ⟨ws, rfl, hws, rfl⟩
      go_wp2_with (first | (go_at_call 8; refine (k_id _).mono ?_; rintro e wz ⟨rfl, rfl⟩) | (go_at_call 9; refine (k_st _).mono ?_; rintro e wz ⟨rfl, rfl⟩) | (go_at_call 10; refine (k_am _).mono ?_; rintro e wz ⟨rfl, rfl⟩) | (go_at_call 6; refine (copy_any A1 len0 c1 X w1 R1.out (by omega) HA1.out).mono ?_))
      rintro e w2 ⟨A2, c2, rfl, ho2, hb2⟩
      have O2 := Lib.hid ho2; have B2 := Lib.hid hb2
      clear ho2 hb2
      go_wp2_with (go_at_call 11; refine (new_any w1.heap.size A2 len0 c2 (X.map (Value.int .u8)) a6 a7 w2 (by rw [List.length_map]; exact HX.out) O2.out B2.out.size).mono ?_)
      rintro e w3 ⟨rfl, hp3, hb3⟩
      have P3 := Lib.hid hp3; have B3 := Lib.hid (B2.out.trans (hb3.mono B2.out.size))
      clear hp3 hb3
      have hK : (freshM a6 a7 (.slice A2 (X.map (Value.int .u8)).length c2))[9]? = some (.bool false) := rfl
      have HZ := Lib.hid (zz_ni hK a4 (by omega) HQI.out ws hws w3 P3.out B3.out.size (by rw [List.length_map, HX.out]; omega))
      clear hK
      go_wp2_with (first | (go_at_call 8; refine (k_id _).mono ?_; rintro e wz ⟨rfl, rfl⟩) | (go_at_call 9; refine (k_st _).mono ?_; rintro e wz ⟨rfl, rfl⟩) | (go_at_call 10; refine (k_am _).mono ?_; rintro e wz ⟨rfl, rfl⟩) | (go_at_call 12; refine HZ.out.mono ?_))
      rintro e w4 ⟨rfl, ⟨A4, c4, hp4⟩, hb4⟩
      rw [HOC.out] at hp4
      have hl4 : (X.map (Value.int .u8) ++ byteCells out).length = len0 + out.size := by rw [List.length_append, byteCells_length, List.length_map, HX.out]
      have ho4 := hp4.ownL hl4
      have B4 := Lib.hid (B3.out.trans hb4)
      have R4 : Hid (Reads w4 w4.heap.size 1 A4 (len0 + out.size) ((X ++ sI out).map (Value.int .u8))) := Lib.hid (by have := Reads.of_own ho4; rwa [sI_cells, ← List.map_append] at this)
      have R14 : Hid (Reads w4 w4.heap.size 1 A1 len0 (X.map (Value.int .u8))) := Lib.hid ((R1.out.below B4.out).more B4.out.size)
      have hc4 := (own_some ho4).1
      have P4 := Lib.hid hp4; have HL4 := Lib.hid hl4
      clear hp4 hb4 hl4 ho4
      go_wp2_with (go_at_call 15; refine (css_any w4 P4.out (len0 + out.size) HL4.out).mono ?_; rintro e wz ⟨rfl, rfl⟩)
      go_wp2_with (go_at_call 14; refine (tail_any A4 (len0 + out.size) c4 X out A1 len0 c1 w4 R4.out R14.out hc4 (by omega)).mono ?_)
      rintro e w5 ⟨rfl, hb5⟩
      have B5 := Lib.hid (B1.out.trans ((B4.out.trans (hb5.mono B4.out.size)).mono B1.out.size))
      clear hb5
      go_wp2_with fail
      go_ret
      rw [HO.out]
      exact ⟨ret_bool (by simp), B5.out⟩
    · obtain ⟨out, hout⟩ : ∃ out, out = (⟨#[42]⟩ : ByteArray) := ⟨_, rfl⟩
      have HOC : Hid (([⟨#[42]⟩] : List ByteArray).flatMap byteCells = byteCells out) := Lib.hid (by rw [hout]; simp only [bc_app, bc_42, List.flatMap_cons, List.flatMap_nil, List.append_nil, List.append_assoc])
      have hos : out.size ≤ 1048579 := by
        rw [hout]
        (try simp only [bc_sz, sz_42])
        have := sz1 42; have := sz1 124; have := sz1 38
        omega
      have HO := Lib.hid hout
      clear hout
      go_enter Tryf.func3, Tryf.ntmps3
      go_wp2_with (first | (go_at_call 4; refine (zb a0 len0 cap0 a2 a4 _ _ a5 a6 a7 _ HLN.out HW2.out HW4.out).mono ?_; rw [HB.out]; rintro e wz ⟨rfl, rfl⟩))
      go_wp2_with (go_at_call 6; refine (copy_any a0 len0 cap0 X w HR.out (by omega) HA.out).mono ?_)
      rintro e w1 ⟨A1, c1, rfl, ho1, hb1⟩
      have R1 : Hid (Reads w1 w1.heap.size 1 A1 len0 (X.map (Value.int .u8))) := Lib.hid (Reads.of_own ho1)
      have HA1 : Hid (A1 = none → len0 = 0) := Lib.hid (own_some ho1).2
      have B1 := Lib.hid hb1
      clear ho1 hb1
      go_wp2_with (go_at_call 7; refine (ws_any a5 _).mono ?_)
      rintro e wz ⟨ws, rfl, hws, rfl⟩
      go_wp2_with (first | (go_at_call 8; refine (k_id _).mono ?_; rintro e wz ⟨rfl, rfl⟩) | (go_at_call 9; refine (k_st _).mono ?_; rintro e wz ⟨rfl, rfl⟩) | (go_at_call 10; refine (k_am _).mono ?_; rintro e wz ⟨rfl, rfl⟩) | (go_at_call 6; refine (copy_any A1 len0 c1 X w1 R1.out (by omega) HA1.out).mono ?_))
      rintro e w2 ⟨A2, c2, rfl, ho2, hb2⟩
      have O2 := Lib.hid ho2; have B2 := Lib.hid hb2
      clear ho2 hb2
      go_wp2_with (go_at_call 11; refine (new_any w1.heap.size A2 len0 c2 (X.map (Value.int .u8)) a6 a7 w2 (by rw [List.length_map]; exact HX.out) O2.out B2.out.size).mono ?_)
      rintro e w3 ⟨rfl, hp3, hb3⟩
      have P3 := Lib.hid hp3; have B3 := Lib.hid (B2.out.trans (hb3.mono B2.out.size))
      clear hp3 hb3
      have hK : (freshM a6 a7 (.slice A2 (X.map (Value.int .u8)).length c2))[9]? = some (.bool false) := rfl
      have HZ := Lib.hid (zz_ns hK a4 (by omega) ws hws w3 P3.out B3.out.size (by rw [List.length_map, HX.out]; omega))
      clear hK
      go_wp2_with (first | (go_at_call 8; refine (k_id _).mono ?_; rintro e wz ⟨rfl, rfl⟩) | (go_at_call 9; refine (k_st _).mono ?_; rintro e wz ⟨rfl, rfl⟩) | (go_at_call 10; refine (k_am _).mono ?_; rintro e wz ⟨rfl, rfl⟩) | (go_at_call 12; refine HZ.out.mono ?_))
      rintro e w4 ⟨rfl, ⟨A4, c4, hp4⟩, hb4⟩
      rw [HOC.out] at hp4
      have hl4 : (X.map (Value.int .u8) ++ byteCells out).length = len0 + out.size := by rw [List.length_append, byteCells_length, List.length_map, HX.out]
      have ho4 := hp4.ownL hl4
      have B4 := Lib.hid (B3.out.trans hb4)
      have R4 : Hid (Reads w4 w4.heap.size 1 A4 (len0 + out.size) ((X ++ sI out).map (Value.int .u8))) := Lib.hid (by have := Reads.of_own ho4; rwa [sI_cells, ← List.map_append] at this)
      have R14 : Hid (Reads w4 w4.heap.size 1 A1 len0 (X.map (Value.int .u8))) := Lib.hid ((R1.out.below B4.out).more B4.out.size)
      have hc4 := (own_some ho4).1
      have P4 := Lib.hid hp4; have HL4 := Lib.hid hl4
      clear hp4 hb4 hl4 ho4
      go_wp2_with (go_at_call 15; refine (css_any w4 P4.out (len0 + out.size) HL4.out).mono ?_; rintro e wz ⟨rfl, rfl⟩)
      go_wp2_with (go_at_call 14; refine (tail_any A4 (len0 + out.size) c4 X out A1 len0 c1 w4 R4.out R14.out hc4 (by omega)).mono ?_)
      rintro e w5 ⟨rfl, hb5⟩
      have B5 := Lib.hid (B1.out.trans ((B4.out.trans (hb5.mono B4.out.size)).mono B1.out.size))
      clear hb5
      go_wp2_with fail
      go_ret
      rw [HO.out]
      exact ⟨ret_bool (by simp), B5.out⟩
    · obtain ⟨out, hout⟩ : ∃ out, out = (⟨#[38]⟩ : ByteArray) := ⟨_, rfl⟩
      have HOC : Hid (([⟨#[38]⟩] : List ByteArray).flatMap byteCells = byteCells out) := Lib.hid (by rw [hout]; simp only [bc_app, bc_42, List.flatMap_cons, List.flatMap_nil, List.append_nil, List.append_assoc])
      have hos : out.size ≤ 1048579 := by
        rw [hout]
        (try simp only [bc_sz, sz_42])
        have := sz1 42; have := sz1 124; have := sz1 38
        omega
      have HO := Lib.hid hout
      clear hout
      go_enter Tryf.func3, Tryf.ntmps3
      go_wp2_with (first | (go_at_call 4; refine (zb a0 len0 cap0 a2 a4 _ _ a5 a6 a7 _ HLN.out HW2.out HW4.out).mono ?_; rw [HB.out]; rintro e wz ⟨rfl, rfl⟩))
      go_wp2_with (go_at_call 6; refine (copy_any a0 len0 cap0 X w HR.out (by omega) HA.out).mono ?_)
      rintro e w1 ⟨A1, c1, rfl, ho1, hb1⟩
      have R1 : Hid (Reads w1 w1.heap.size 1 A1 len0 (X.map (Value.int .u8))) := Lib.hid (Reads.of_own ho1)
      have HA1 : Hid (A1 = none → len0 = 0) := Lib.hid (own_some ho1).2
      have B1 := Lib.hid hb1
      clear ho1 hb1
      go_wp2_with (go_at_call 7; refine (ws_any a5 _).mono ?_)
      rintro e wz ⟨ws, rfl, hws, rfl⟩
      go_wp2_with (first | (go_at_call 8; refine (k_id _).mono ?_; rintro e wz ⟨rfl, rfl⟩) | (go_at_call 9; refine (k_st _).mono ?_; rintro e wz ⟨rfl, rfl⟩) | (go_at_call 10; refine (k_am _).mono ?_; rintro e wz ⟨rfl, rfl⟩) | (go_at_call 6; refine (copy_any A1 len0 c1 X w1 R1.out (by omega) HA1.out).mono ?_))
      rintro e w2 ⟨A2, c2, rfl, ho2, hb2⟩
      have O2 := Lib.hid ho2; have B2 := Lib.hid hb2
      clear ho2 hb2
      go_wp2_with (go_at_call 11; refine (new_any w1.heap.size A2 len0 c2 (X.map (Value.int .u8)) a6 a7 w2 (by rw [List.length_map]; exact HX.out) O2.out B2.out.size).mono ?_)
      rintro e w3 ⟨rfl, hp3, hb3⟩
      have P3 := Lib.hid hp3; have B3 := Lib.hid (B2.out.trans (hb3.mono B2.out.size))
      clear hp3 hb3
      have hK : (freshM a6 a7 (.slice A2 (X.map (Value.int .u8)).length c2))[9]? = some (.bool false) := rfl
      have HZ := Lib.hid (zz_na hK a4 (by omega) ws hws w3 P3.out B3.out.size (by rw [List.length_map, HX.out]; omega))
      clear hK
      go_wp2_with (first | (go_at_call 8; refine (k_id _).mono ?_; rintro e wz ⟨rfl, rfl⟩) | (go_at_call 9; refine (k_st _).mono ?_; rintro e wz ⟨rfl, rfl⟩) | (go_at_call 10; refine (k_am _).mono ?_; rintro e wz ⟨rfl, rfl⟩) | (go_at_call 12; refine HZ.out.mono ?_))
      rintro e w4 ⟨rfl, ⟨A4, c4, hp4⟩, hb4⟩
      rw [HOC.out] at hp4
      have hl4 : (X.map (Value.int .u8) ++ byteCells out).length = len0 + out.size := by rw [List.length_append, byteCells_length, List.length_map, HX.out]
      have ho4 := hp4.ownL hl4
      have B4 := Lib.hid (B3.out.trans hb4)
      have R4 : Hid (Reads w4 w4.heap.size 1 A4 (len0 + out.size) ((X ++ sI out).map (Value.int .u8))) := Lib.hid (by have := Reads.of_own ho4; rwa [sI_cells, ← List.map_append] at this)
      have R14 : Hid (Reads w4 w4.heap.size 1 A1 len0 (X.map (Value.int .u8))) := Lib.hid ((R1.out.below B4.out).more B4.out.size)
      have hc4 := (own_some ho4).1
      have P4 := Lib.hid hp4; have HL4 := Lib.hid hl4
      clear hp4 hb4 hl4 ho4
      go_wp2_with (go_at_call 15; refine (css_any w4 P4.out (len0 + out.size) HL4.out).mono ?_; rintro e wz ⟨rfl, rfl⟩)
      go_wp2_with (go_at_call 14; refine (tail_any A4 (len0 + out.size) c4 X out A1 len0 c1 w4 R4.out R14.out hc4 (by omega)).mono ?_)
      rintro e w5 ⟨rfl, hb5⟩
      have B5 := Lib.hid (B1.out.trans ((B4.out.trans (hb5.mono B4.out.size)).mono B1.out.size))
      clear hb5
      go_wp2_with fail
      go_ret
      rw [HO.out]
      exact ⟨ret_bool (by simp), B5.out⟩
  · rcases hA3 with rfl | rfl | rfl
    · cases hp : plB a2
      · have HP := Lib.hid hp
        clear hp
        go_enter Tryf.func3, Tryf.ntmps3
        go_wp2_with (first | (go_at_call 4; refine (zb a0 len0 cap0 a2 a4 _ _ a5 a6 a7 _ HLN.out HW2.out HW4.out).mono ?_; rw [HB.out]; rintro e wz ⟨rfl, rfl⟩) | (go_at_call 5; (with_reducible refine (plain_any a2 _ (by omega)).mono ?_); rw [HP.out]; rintro e wz ⟨rfl, rfl⟩))
        go_ret
        exact ⟨rfl, Below.refl _ _⟩
      have HP := Lib.hid hp
      have HPI := Lib.hid (plB_iff.1 hp)
      clear hp
      cases hp : plB a4
      · have HQ := Lib.hid hp
        clear hp
        go_enter Tryf.func3, Tryf.ntmps3
        go_wp2_with (first | (go_at_call 4; refine (zb a0 len0 cap0 a2 a4 _ _ a5 a6 a7 _ HLN.out HW2.out HW4.out).mono ?_; rw [HB.out]; rintro e wz ⟨rfl, rfl⟩) | (go_at_call 5; (with_reducible refine (plain_any a2 _ (by omega)).mono ?_); rw [HP.out]; rintro e wz ⟨rfl, rfl⟩) | (go_at_call 5; (with_reducible refine (plain_any a4 _ (by omega)).mono ?_); rw [HQ.out]; rintro e wz ⟨rfl, rfl⟩))
        go_ret
        exact ⟨rfl, Below.refl _ _⟩
      have HQ := Lib.hid hp
      have HQI := Lib.hid (plB_iff.1 hp)
      clear hp
      obtain ⟨out, hout⟩ : ∃ out, out = (a2 ++ ⟨#[124]⟩ ++ a4 : ByteArray) := ⟨_, rfl⟩
      have HOC : Hid (([a2, ⟨#[124]⟩, a4] : List ByteArray).flatMap byteCells = byteCells out) := Lib.hid (by rw [hout]; simp only [bc_app, bc_42, List.flatMap_cons, List.flatMap_nil, List.append_nil, List.append_assoc])
      have hos : out.size ≤ 1048579 := by
        rw [hout]
        (try simp only [bc_sz, sz_42])
        have := sz1 42; have := sz1 124; have := sz1 38
        omega
      have HO := Lib.hid hout
      clear hout
      go_enter Tryf.func3, Tryf.ntmps3
      go_wp2_with (first | (go_at_call 4; refine (zb a0 len0 cap0 a2 a4 _ _ a5 a6 a7 _ HLN.out HW2.out HW4.out).mono ?_; rw [HB.out]; rintro e wz ⟨rfl, rfl⟩) | (go_at_call 5; (with_reducible refine (plain_any a2 _ (by omega)).mono ?_); rw [HP.out]; rintro e wz ⟨rfl, rfl⟩) | (go_at_call 5; (with_reducible refine (plain_any a4 _ (by omega)).mono ?_); rw [HQ.out]; rintro e wz ⟨rfl, rfl⟩))
      go_wp2_with (go_at_call 6; refine (copy_any a0 len0 cap0 X w HR.out (by omega) HA.out).mono ?_)
      rintro e w1 ⟨A1, c1, rfl, ho1, hb1⟩
      have R1 : Hid (Reads w1 w1.heap.size 1 A1 len0 (X.map (Value.int .u8))) := Lib.hid (Reads.of_own ho1)
      have HA1 : Hid (A1 = none → len0 = 0) := Lib.hid (own_some ho1).2
      have B1 := Lib.hid hb1
      clear ho1 hb1
      go_wp2_with (go_at_call 7; refine (ws_any a5 _).mono ?_)
      rintro e wz ⟨ws, rfl, hws, rfl⟩
      go_wp2_with (first | (go_at_call 8; refine (k_id _).mono ?_; rintro e wz ⟨rfl, rfl⟩) | (go_at_call 9; refine (k_st _).mono ?_; rintro e wz ⟨rfl, rfl⟩) | (go_at_call 10; refine (k_am _).mono ?_; rintro e wz ⟨rfl, rfl⟩) | (go_at_call 6; refine (copy_any A1 len0 c1 X w1 R1.out (by omega) HA1.out).mono ?_))
      rintro e w2 ⟨A2, c2, rfl, ho2, hb2⟩
      have O2 := Lib.hid ho2; have B2 := Lib.hid hb2
      clear ho2 hb2
      go_wp2_with (go_at_call 11; refine (new_any w1.heap.size A2 len0 c2 (X.map (Value.int .u8)) a6 a7 w2 (by rw [List.length_map]; exact HX.out) O2.out B2.out.size).mono ?_)
      rintro e w3 ⟨rfl, hp3, hb3⟩
      have P3 := Lib.hid hp3; have B3 := Lib.hid (B2.out.trans (hb3.mono B2.out.size))
      clear hp3 hb3
      have hK : (freshM a6 a7 (.slice A2 (X.map (Value.int .u8)).length c2))[9]? = some (.bool false) := rfl
      have HZ := Lib.hid (zz_ii hK a4 (by omega) a2 (by omega) HPI.out HQI.out ws hws w3 P3.out B3.out.size (by rw [List.length_map, HX.out]; omega))
      clear hK
      go_wp2_with (first | (go_at_call 8; refine (k_id _).mono ?_; rintro e wz ⟨rfl, rfl⟩) | (go_at_call 9; refine (k_st _).mono ?_; rintro e wz ⟨rfl, rfl⟩) | (go_at_call 10; refine (k_am _).mono ?_; rintro e wz ⟨rfl, rfl⟩) | (go_at_call 13; refine HZ.out.mono ?_))
      rintro e w4 ⟨rfl, ⟨A4, c4, hp4⟩, hb4⟩
      rw [HOC.out] at hp4
      have hl4 : (X.map (Value.int .u8) ++ byteCells out).length = len0 + out.size := by rw [List.length_append, byteCells_length, List.length_map, HX.out]
      have ho4 := hp4.ownL hl4
      have B4 := Lib.hid (B3.out.trans hb4)
      have R4 : Hid (Reads w4 w4.heap.size 1 A4 (len0 + out.size) ((X ++ sI out).map (Value.int .u8))) := Lib.hid (by have := Reads.of_own ho4; rwa [sI_cells, ← List.map_append] at this)
      have R14 : Hid (Reads w4 w4.heap.size 1 A1 len0 (X.map (Value.int .u8))) := Lib.hid ((R1.out.below B4.out).more B4.out.size)
      have hc4 := (own_some ho4).1
      have P4 := Lib.hid hp4; have HL4 := Lib.hid hl4
      clear hp4 hb4 hl4 ho4
      go_wp2_with (go_at_call 15; refine (css_any w4 P4.out (len0 + out.size) HL4.out).mono ?_; rintro e wz ⟨rfl, rfl⟩)
      go_wp2_with (go_at_call 14; refine (tail_any A4 (len0 + out.size) c4 X out A1 len0 c1 w4 R4.out R14.out hc4 (by omega)).mono ?_)
      rintro e w5 ⟨rfl, hb5⟩
      have B5 := Lib.hid (B1.out.trans ((B4.out.trans (hb5.mono B4.out.size)).mono B1.out.size))
      clear hb5
      go_wp2_with fail
      go_ret
      rw [HO.out]
      exact ⟨ret_bool (by simp), B5.out⟩
    · cases hp : plB a2
      · have HP := Lib.hid hp
        clear hp
        go_enter Tryf.func3, Tryf.ntmps3
        go_wp2_with (first | (go_at_call 4; refine (zb a0 len0 cap0 a2 a4 _ _ a5 a6 a7 _ HLN.out HW2.out HW4.out).mono ?_; rw [HB.out]; rintro e wz ⟨rfl, rfl⟩) | (go_at_call 5; (with_reducible refine (plain_any a2 _ (by omega)).mono ?_); rw [HP.out]; rintro e wz ⟨rfl, rfl⟩))
        go_ret
        exact ⟨rfl, Below.refl _ _⟩
      have HP := Lib.hid hp
      have HPI := Lib.hid (plB_iff.1 hp)
      clear hp
      obtain ⟨out, hout⟩ : ∃ out, out = (a2 ++ ⟨#[124]⟩ ++ ⟨#[42]⟩ : ByteArray) := ⟨_, rfl⟩
      have HOC : Hid (([a2, ⟨#[124]⟩, ⟨#[42]⟩] : List ByteArray).flatMap byteCells = byteCells out) := Lib.hid (by rw [hout]; simp only [bc_app, bc_42, List.flatMap_cons, List.flatMap_nil, List.append_nil, List.append_assoc])
      have hos : out.size ≤ 1048579 := by
        rw [hout]
        (try simp only [bc_sz, sz_42])
        have := sz1 42; have := sz1 124; have := sz1 38
        omega
      have HO := Lib.hid hout
      clear hout
      go_enter Tryf.func3, Tryf.ntmps3
      go_wp2_with (first | (go_at_call 4; refine (zb a0 len0 cap0 a2 a4 _ _ a5 a6 a7 _ HLN.out HW2.out HW4.out).mono ?_; rw [HB.out]; rintro e wz ⟨rfl, rfl⟩) | (go_at_call 5; (with_reducible refine (plain_any a2 _ (by omega)).mono ?_); rw [HP.out]; rintro e wz ⟨rfl, rfl⟩))
      go_wp2_with (go_at_call 6; refine (copy_any a0 len0 cap0 X w HR.out (by omega) HA.out).mono ?_)
      rintro e w1 ⟨A1, c1, rfl, ho1, hb1⟩
      have R1 : Hid (Reads w1 w1.heap.size 1 A1 len0 (X.map (Value.int .u8))) := Lib.hid (Reads.of_own ho1)
      have HA1 : Hid (A1 = none → len0 = 0) := Lib.hid (own_some ho1).2
      have B1 := Lib.hid hb1
      clear ho1 hb1
      go_wp2_with (go_at_call 7; refine (ws_any a5 _).mono ?_)
      rintro e wz ⟨ws, rfl, hws, rfl⟩
      go_wp2_with (first | (go_at_call 8; refine (k_id _).mono ?_; rintro e wz ⟨rfl, rfl⟩) | (go_at_call 9; refine (k_st _).mono ?_; rintro e wz ⟨rfl, rfl⟩) | (go_at_call 10; refine (k_am _).mono ?_; rintro e wz ⟨rfl, rfl⟩) | (go_at_call 6; refine (copy_any A1 len0 c1 X w1 R1.out (by omega) HA1.out).mono ?_))
      rintro e w2 ⟨A2, c2, rfl, ho2, hb2⟩
      have O2 := Lib.hid ho2; have B2 := Lib.hid hb2
      clear ho2 hb2
      go_wp2_with (go_at_call 11; refine (new_any w1.heap.size A2 len0 c2 (X.map (Value.int .u8)) a6 a7 w2 (by rw [List.length_map]; exact HX.out) O2.out B2.out.size).mono ?_)
      rintro e w3 ⟨rfl, hp3, hb3⟩
      have P3 := Lib.hid hp3; have B3 := Lib.hid (B2.out.trans (hb3.mono B2.out.size))
      clear hp3 hb3
      have hK : (freshM a6 a7 (.slice A2 (X.map (Value.int .u8)).length c2))[9]? = some (.bool false) := rfl
      have HZ := Lib.hid (zz_is hK a4 (by omega) a2 (by omega) HPI.out ws hws w3 P3.out B3.out.size (by rw [List.length_map, HX.out]; omega))
      clear hK
      go_wp2_with (first | (go_at_call 8; refine (k_id _).mono ?_; rintro e wz ⟨rfl, rfl⟩) | (go_at_call 9; refine (k_st _).mono ?_; rintro e wz ⟨rfl, rfl⟩) | (go_at_call 10; refine (k_am _).mono ?_; rintro e wz ⟨rfl, rfl⟩) | (go_at_call 13; refine HZ.out.mono ?_))
      rintro e w4 ⟨rfl, ⟨A4, c4, hp4⟩, hb4⟩
      rw [HOC.out] at hp4
      have hl4 : (X.map (Value.int .u8) ++ byteCells out).length = len0 + out.size := by rw [List.length_append, byteCells_length, List.length_map, HX.out]
      have ho4 := hp4.ownL hl4
      have B4 := Lib.hid (B3.out.trans hb4)
      have R4 : Hid (Reads w4 w4.heap.size 1 A4 (len0 + out.size) ((X ++ sI out).map (Value.int .u8))) := Lib.hid (by have := Reads.of_own ho4; rwa [sI_cells, ← List.map_append] at this)
      have R14 : Hid (Reads w4 w4.heap.size 1 A1 len0 (X.map (Value.int .u8))) := Lib.hid ((R1.out.below B4.out).more B4.out.size)
      have hc4 := (own_some ho4).1
      have P4 := Lib.hid hp4; have HL4 := Lib.hid hl4
      clear hp4 hb4 hl4 ho4
      go_wp2_with (go_at_call 15; refine (css_any w4 P4.out (len0 + out.size) HL4.out).mono ?_; rintro e wz ⟨rfl, rfl⟩)
      go_wp2_with (go_at_call 14; refine (tail_any A4 (len0 + out.size) c4 X out A1 len0 c1 w4 R4.out R14.out hc4 (by omega)).mono ?_)
      rintro e w5 ⟨rfl, hb5⟩
      have B5 := Lib.hid (B1.out.trans ((B4.out.trans (hb5.mono B4.out.size)).mono B1.out.size))
      clear hb5
      go_wp2_with fail
      go_ret
      rw [HO.out]
      exact ⟨ret_bool (by simp), B5.out⟩
    · cases hp : plB a2
      · have HP := Lib.hid hp
        clear hp
        go_enter Tryf.func3, Tryf.ntmps3
        go_wp2_with (first | (go_at_call 4; refine (zb a0 len0 cap0 a2 a4 _ _ a5 a6 a7 _ HLN.out HW2.out HW4.out).mono ?_; rw [HB.out]; rintro e wz ⟨rfl, rfl⟩) | (go_at_call 5; (with_reducible refine (plain_any a2 _ (by omega)).mono ?_); rw [HP.out]; rintro e wz ⟨rfl, rfl⟩))
        go_ret
        exact ⟨rfl, Below.refl _ _⟩
      have HP := Lib.hid hp
      have HPI := Lib.hid (plB_iff.1 hp)
      clear hp
      obtain ⟨out, hout⟩ : ∃ out, out = (a2 ++ ⟨#[124]⟩ ++ ⟨#[38]⟩ : ByteArray) := ⟨_, rfl⟩
      have HOC : Hid (([a2, ⟨#[124]⟩, ⟨#[38]⟩] : List ByteArray).flatMap byteCells = byteCells out) := Lib.hid (by rw [hout]; simp only [bc_app, bc_42, List.flatMap_cons, List.flatMap_nil, List.append_nil, List.append_assoc])
      have hos : out.size ≤ 1048579 := by
        rw [hout]
        (try simp only [bc_sz, sz_42])
        have := sz1 42; have := sz1 124; have := sz1 38
        omega
      have HO := Lib.hid hout
      clear hout
      go_enter Tryf.func3, Tryf.ntmps3
      go_wp2_with (first | (go_at_call 4; refine (zb a0 len0 cap0 a2 a4 _ _ a5 a6 a7 _ HLN.out HW2.out HW4.out).mono ?_; rw [HB.out]; rintro e wz ⟨rfl, rfl⟩) | (go_at_call 5; (with_reducible refine (plain_any a2 _ (by omega)).mono ?_); rw [HP.out]; rintro e wz ⟨rfl, rfl⟩))
      go_wp2_with (go_at_call 6; refine (copy_any a0 len0 cap0 X w HR.out (by omega) HA.out).mono ?_)
      rintro e w1 ⟨A1, c1, rfl, ho1, hb1⟩
      have R1 : Hid (Reads w1 w1.heap.size 1 A1 len0 (X.map (Value.int .u8))) := Lib.hid (Reads.of_own ho1)
      have HA1 : Hid (A1 = none → len0 = 0) := Lib.hid (own_some ho1).2
      have B1 := Lib.hid hb1
      clear ho1 hb1
      go_wp2_with (go_at_call 7; refine (ws_any a5 _).mono ?_)
      rintro e wz ⟨ws, rfl, hws, rfl⟩
      go_wp2_with (first | (go_at_call 8; refine (k_id _).mono ?_; rintro e wz ⟨rfl, rfl⟩) | (go_at_call 9; refine (k_st _).mono ?_; rintro e wz ⟨rfl, rfl⟩) | (go_at_call 10; refine (k_am _).mono ?_; rintro e wz ⟨rfl, rfl⟩) | (go_at_call 6; refine (copy_any A1 len0 c1 X w1 R1.out (by omega) HA1.out).mono ?_))
      rintro e w2 ⟨A2, c2, rfl, ho2, hb2⟩
      have O2 := Lib.hid ho2; have B2 := Lib.hid hb2
      clear ho2 hb2
      go_wp2_with (go_at_call 11; refine (new_any w1.heap.size A2 len0 c2 (X.map (Value.int .u8)) a6 a7 w2 (by rw [List.length_map]; exact HX.out) O2.out B2.out.size).mono ?_)
      rintro e w3 ⟨rfl, hp3, hb3⟩
      have P3 := Lib.hid hp3; have B3 := Lib.hid (B2.out.trans (hb3.mono B2.out.size))
      clear hp3 hb3
      have hK : (freshM a6 a7 (.slice A2 (X.map (Value.int .u8)).length c2))[9]? = some (.bool false) := rfl
      have HZ := Lib.hid (zz_ia hK a4 (by omega) a2 (by omega) HPI.out ws hws w3 P3.out B3.out.size (by rw [List.length_map, HX.out]; omega))
      clear hK
      go_wp2_with (first | (go_at_call 8; refine (k_id _).mono ?_; rintro e wz ⟨rfl, rfl⟩) | (go_at_call 9; refine (k_st _).mono ?_; rintro e wz ⟨rfl, rfl⟩) | (go_at_call 10; refine (k_am _).mono ?_; rintro e wz ⟨rfl, rfl⟩) | (go_at_call 13; refine HZ.out.mono ?_))
      rintro e w4 ⟨rfl, ⟨A4, c4, hp4⟩, hb4⟩
      rw [HOC.out] at hp4
      have hl4 : (X.map (Value.int .u8) ++ byteCells out).length = len0 + out.size := by rw [List.length_append, byteCells_length, List.length_map, HX.out]
      have ho4 := hp4.ownL hl4
      have B4 := Lib.hid (B3.out.trans hb4)
      have R4 : Hid (Reads w4 w4.heap.size 1 A4 (len0 + out.size) ((X ++ sI out).map (Value.int .u8))) := Lib.hid (by have := Reads.of_own ho4; rwa [sI_cells, ← List.map_append] at this)
      have R14 : Hid (Reads w4 w4.heap.size 1 A1 len0 (X.map (Value.int .u8))) := Lib.hid ((R1.out.below B4.out).more B4.out.size)
      have hc4 := (own_some ho4).1
      have P4 := Lib.hid hp4; have HL4 := Lib.hid hl4
      clear hp4 hb4 hl4 ho4
      go_wp2_with (go_at_call 15; refine (css_any w4 P4.out (len0 + out.size) HL4.out).mono ?_; rintro e wz ⟨rfl, rfl⟩)
      go_wp2_with (go_at_call 14; refine (tail_any A4 (len0 + out.size) c4 X out A1 len0 c1 w4 R4.out R14.out hc4 (by omega)).mono ?_)
      rintro e w5 ⟨rfl, hb5⟩
      have B5 := Lib.hid (B1.out.trans ((B4.out.trans (hb5.mono B4.out.size)).mono B1.out.size))
      clear hb5
      go_wp2_with fail
      go_ret
      rw [HO.out]
      exact ⟨ret_bool (by simp), B5.out⟩
  · rcases hA3 with rfl | rfl | rfl
    · cases hp : plB a4
      · have HQ := Lib.hid hp
        clear hp
        go_enter Tryf.func3, Tryf.ntmps3
        go_wp2_with (first | (go_at_call 4; refine (zb a0 len0 cap0 a2 a4 _ _ a5 a6 a7 _ HLN.out HW2.out HW4.out).mono ?_; rw [HB.out]; rintro e wz ⟨rfl, rfl⟩) | (go_at_call 5; (with_reducible refine (plain_any a4 _ (by omega)).mono ?_); rw [HQ.out]; rintro e wz ⟨rfl, rfl⟩))
        go_ret
        exact ⟨rfl, Below.refl _ _⟩
      have HQ := Lib.hid hp
      have HQI := Lib.hid (plB_iff.1 hp)
      clear hp
      obtain ⟨out, hout⟩ : ∃ out, out = ((⟨#[42, 124]⟩ : ByteArray) ++ a4) := ⟨_, rfl⟩
      have HOC : Hid (([⟨#[42]⟩, ⟨#[124]⟩, a4] : List ByteArray).flatMap byteCells = byteCells out) := Lib.hid (by rw [hout]; simp only [bc_app, bc_42, List.flatMap_cons, List.flatMap_nil, List.append_nil, List.append_assoc])
      have hos : out.size ≤ 1048579 := by
        rw [hout]
        (try simp only [bc_sz, sz_42])
        have := sz1 42; have := sz1 124; have := sz1 38
        omega
      have HO := Lib.hid hout
      clear hout
      go_enter Tryf.func3, Tryf.ntmps3
      go_wp2_with (first | (go_at_call 4; refine (zb a0 len0 cap0 a2 a4 _ _ a5 a6 a7 _ HLN.out HW2.out HW4.out).mono ?_; rw [HB.out]; rintro e wz ⟨rfl, rfl⟩) | (go_at_call 5; (with_reducible refine (plain_any a4 _ (by omega)).mono ?_); rw [HQ.out]; rintro e wz ⟨rfl, rfl⟩))
      go_wp2_with (go_at_call 6; refine (copy_any a0 len0 cap0 X w HR.out (by omega) HA.out).mono ?_)
      rintro e w1 ⟨A1, c1, rfl, ho1, hb1⟩
      have R1 : Hid (Reads w1 w1.heap.size 1 A1 len0 (X.map (Value.int .u8))) := Lib.hid (Reads.of_own ho1)
      have HA1 : Hid (A1 = none → len0 = 0) := Lib.hid (own_some ho1).2
      have B1 := Lib.hid hb1
      clear ho1 hb1
      go_wp2_with (go_at_call 7; refine (ws_any a5 _).mono ?_)
      rintro e wz ⟨ws, rfl, hws, rfl⟩
      go_wp2_with (first | (go_at_call 8; refine (k_id _).mono ?_; rintro e wz ⟨rfl, rfl⟩) | (go_at_call 9; refine (k_st _).mono ?_; rintro e wz ⟨rfl, rfl⟩) | (go_at_call 10; refine (k_am _).mono ?_; rintro e wz ⟨rfl, rfl⟩) | (go_at_call 6; refine (copy_any A1 len0 c1 X w1 R1.out (by omega) HA1.out).mono ?_))
      rintro e w2 ⟨A2, c2, rfl, ho2, hb2⟩
      have O2 := Lib.hid ho2; have B2 := Lib.hid hb2
      clear ho2 hb2
      go_wp2_with (go_at_call 11; refine (new_any w1.heap.size A2 len0 c2 (X.map (Value.int .u8)) a6 a7 w2 (by rw [List.length_map]; exact HX.out) O2.out B2.out.size).mono ?_)
      rintro e w3 ⟨rfl, hp3, hb3⟩
      have P3 := Lib.hid hp3; have B3 := Lib.hid (B2.out.trans (hb3.mono B2.out.size))
      clear hp3 hb3
      have hK : (freshM a6 a7 (.slice A2 (X.map (Value.int .u8)).length c2))[9]? = some (.bool false) := rfl
      have HZ := Lib.hid (zz_si hK a4 (by omega) a2 (by omega) HQI.out ws hws w3 P3.out B3.out.size (by rw [List.length_map, HX.out]; omega))
      clear hK
      go_wp2_with (first | (go_at_call 8; refine (k_id _).mono ?_; rintro e wz ⟨rfl, rfl⟩) | (go_at_call 9; refine (k_st _).mono ?_; rintro e wz ⟨rfl, rfl⟩) | (go_at_call 10; refine (k_am _).mono ?_; rintro e wz ⟨rfl, rfl⟩) | (go_at_call 13; refine HZ.out.mono ?_))
      rintro e w4 ⟨rfl, ⟨A4, c4, hp4⟩, hb4⟩
      rw [HOC.out] at hp4
      have hl4 : (X.map (Value.int .u8) ++ byteCells out).length = len0 + out.size := by rw [List.length_append, byteCells_length, List.length_map, HX.out]
      have ho4 := hp4.ownL hl4
      have B4 := Lib.hid (B3.out.trans hb4)
      have R4 : Hid (Reads w4 w4.heap.size 1 A4 (len0 + out.size) ((X ++ sI out).map (Value.int .u8))) := Lib.hid (by have := Reads.of_own ho4; rwa [sI_cells, ← List.map_append] at this)
      have R14 : Hid (Reads w4 w4.heap.size 1 A1 len0 (X.map (Value.int .u8))) := Lib.hid ((R1.out.below B4.out).more B4.out.size)
      have hc4 := (own_some ho4).1
      have P4 := Lib.hid hp4; have HL4 := Lib.hid hl4
      clear hp4 hb4 hl4 ho4
      go_wp2_with (go_at_call 15; refine (css_any w4 P4.out (len0 + out.size) HL4.out).mono ?_; rintro e wz ⟨rfl, rfl⟩)
      go_wp2_with (go_at_call 14; refine (tail_any A4 (len0 + out.size) c4 X out A1 len0 c1 w4 R4.out R14.out hc4 (by omega)).mono ?_)
      rintro e w5 ⟨rfl, hb5⟩
      have B5 := Lib.hid (B1.out.trans ((B4.out.trans (hb5.mono B4.out.size)).mono B1.out.size))
      clear hb5
      go_wp2_with fail
      go_ret
      rw [HO.out]
      exact ⟨ret_bool (by simp), B5.out⟩
    · obtain ⟨out, hout⟩ : ∃ out, out = ((⟨#[42, 124]⟩ : ByteArray) ++ ⟨#[42]⟩) := ⟨_, rfl⟩
      have HOC : Hid (([⟨#[42]⟩, ⟨#[124]⟩, ⟨#[42]⟩] : List ByteArray).flatMap byteCells = byteCells out) := Lib.hid (by rw [hout]; simp only [bc_app, bc_42, List.flatMap_cons, List.flatMap_nil, List.append_nil, List.append_assoc])
      have hos : out.size ≤ 1048579 := by
        rw [hout]
        (try simp only [bc_sz, sz_42])
        have := sz1 42; have := sz1 124; have := sz1 38
        omega
      have HO := Lib.hid hout
      clear hout
      go_enter Tryf.func3, Tryf.ntmps3
      go_wp2_with (first | (go_at_call 4; refine (zb a0 len0 cap0 a2 a4 _ _ a5 a6 a7 _ HLN.out HW2.out HW4.out).mono ?_; rw [HB.out]; rintro e wz ⟨rfl, rfl⟩))
      go_wp2_with (go_at_call 6; refine (copy_any a0 len0 cap0 X w HR.out (by omega) HA.out).mono ?_)
      rintro e w1 ⟨A1, c1, rfl, ho1, hb1⟩
      have R1 : Hid (Reads w1 w1.heap.size 1 A1 len0 (X.map (Value.int .u8))) := Lib.hid (Reads.of_own ho1)
      have HA1 : Hid (A1 = none → len0 = 0) := Lib.hid (own_some ho1).2
      have B1 := Lib.hid hb1
      clear ho1 hb1
      go_wp2_with (go_at_call 7; refine (ws_any a5 _).mono ?_)
      rintro e wz ⟨ws, rfl, hws, rfl⟩
      go_wp2_with (first | (go_at_call 8; refine (k_id _).mono ?_; rintro e wz ⟨rfl, rfl⟩) | (go_at_call 9; refine (k_st _).mono ?_; rintro e wz ⟨rfl, rfl⟩) | (go_at_call 10; refine (k_am _).mono ?_; rintro e wz ⟨rfl, rfl⟩) | (go_at_call 6; refine (copy_any A1 len0 c1 X w1 R1.out (by omega) HA1.out).mono ?_))
      rintro e w2 ⟨A2, c2, rfl, ho2, hb2⟩
      have O2 := Lib.hid ho2; have B2 := Lib.hid hb2
      clear ho2 hb2
      go_wp2_with (go_at_call 11; refine (new_any w1.heap.size A2 len0 c2 (X.map (Value.int .u8)) a6 a7 w2 (by rw [List.length_map]; exact HX.out) O2.out B2.out.size).mono ?_)
      rintro e w3 ⟨rfl, hp3, hb3⟩
      have P3 := Lib.hid hp3; have B3 := Lib.hid (B2.out.trans (hb3.mono B2.out.size))
      clear hp3 hb3
      have hK : (freshM a6 a7 (.slice A2 (X.map (Value.int .u8)).length c2))[9]? = some (.bool false) := rfl
      have HZ := Lib.hid (zz_ss hK a4 (by omega) a2 (by omega) ws hws w3 P3.out B3.out.size (by rw [List.length_map, HX.out]; omega))
      clear hK
      go_wp2_with (first | (go_at_call 8; refine (k_id _).mono ?_; rintro e wz ⟨rfl, rfl⟩) | (go_at_call 9; refine (k_st _).mono ?_; rintro e wz ⟨rfl, rfl⟩) | (go_at_call 10; refine (k_am _).mono ?_; rintro e wz ⟨rfl, rfl⟩) | (go_at_call 13; refine HZ.out.mono ?_))
      rintro e w4 ⟨rfl, ⟨A4, c4, hp4⟩, hb4⟩
      rw [HOC.out] at hp4
      have hl4 : (X.map (Value.int .u8) ++ byteCells out).length = len0 + out.size := by rw [List.length_append, byteCells_length, List.length_map, HX.out]
      have ho4 := hp4.ownL hl4
      have B4 := Lib.hid (B3.out.trans hb4)
      have R4 : Hid (Reads w4 w4.heap.size 1 A4 (len0 + out.size) ((X ++ sI out).map (Value.int .u8))) := Lib.hid (by have := Reads.of_own ho4; rwa [sI_cells, ← List.map_append] at this)
      have R14 : Hid (Reads w4 w4.heap.size 1 A1 len0 (X.map (Value.int .u8))) := Lib.hid ((R1.out.below B4.out).more B4.out.size)
      have hc4 := (own_some ho4).1
      have P4 := Lib.hid hp4; have HL4 := Lib.hid hl4
      clear hp4 hb4 hl4 ho4
      go_wp2_with (go_at_call 15; refine (css_any w4 P4.out (len0 + out.size) HL4.out).mono ?_; rintro e wz ⟨rfl, rfl⟩)
      go_wp2_with (go_at_call 14; refine (tail_any A4 (len0 + out.size) c4 X out A1 len0 c1 w4 R4.out R14.out hc4 (by omega)).mono ?_)
      rintro e w5 ⟨rfl, hb5⟩
      have B5 := Lib.hid (B1.out.trans ((B4.out.trans (hb5.mono B4.out.size)).mono B1.out.size))
      clear hb5
      go_wp2_with fail
      go_ret
      rw [HO.out]
      exact ⟨ret_bool (by simp), B5.out⟩
    · obtain ⟨out, hout⟩ : ∃ out, out = ((⟨#[42, 124]⟩ : ByteArray) ++ ⟨#[38]⟩) := ⟨_, rfl⟩
      have HOC : Hid (([⟨#[42]⟩, ⟨#[124]⟩, ⟨#[38]⟩] : List ByteArray).flatMap byteCells = byteCells out) := Lib.hid (by rw [hout]; simp only [bc_app, bc_42, List.flatMap_cons, List.flatMap_nil, List.append_nil, List.append_assoc])
      have hos : out.size ≤ 1048579 := by
        rw [hout]
        (try simp only [bc_sz, sz_42])
        have := sz1 42; have := sz1 124; have := sz1 38
        omega
      have HO := Lib.hid hout
      clear hout
      go_enter Tryf.func3, Tryf.ntmps3
      go_wp2_with (first | (go_at_call 4; refine (zb a0 len0 cap0 a2 a4 _ _ a5 a6 a7 _ HLN.out HW2.out HW4.out).mono ?_; rw [HB.out]; rintro e wz ⟨rfl, rfl⟩))
      go_wp2_with (go_at_call 6; refine (copy_any a0 len0 cap0 X w HR.out (by omega) HA.out).mono ?_)
      rintro e w1 ⟨A1, c1, rfl, ho1, hb1⟩
      have R1 : Hid (Reads w1 w1.heap.size 1 A1 len0 (X.map (Value.int .u8))) := Lib.hid (Reads.of_own ho1)
      have HA1 : Hid (A1 = none → len0 = 0) := Lib.hid (own_some ho1).2
      have B1 := Lib.hid hb1
      clear ho1 hb1
      go_wp2_with (go_at_call 7; refine (ws_any a5 _).mono ?_)
      rintro e wz ⟨ws, rfl, hws, rfl⟩
      go_wp2_with (first | (go_at_call 8; refine (k_id _).mono ?_; rintro e wz ⟨rfl, rfl⟩) | (go_at_call 9; refine (k_st _).mono ?_; rintro e wz ⟨rfl, rfl⟩) | (go_at_call 10; refine (k_am _).mono ?_; rintro e wz ⟨rfl, rfl⟩) | (go_at_call 6; refine (copy_any A1 len0 c1 X w1 R1.out (by omega) HA1.out).mono ?_))
      rintro e w2 ⟨A2, c2, rfl, ho2, hb2⟩
      have O2 := Lib.hid ho2; have B2 := Lib.hid hb2
      clear ho2 hb2
      go_wp2_with (go_at_call 11; refine (new_any w1.heap.size A2 len0 c2 (X.map (Value.int .u8)) a6 a7 w2 (by rw [List.length_map]; exact HX.out) O2.out B2.out.size).mono ?_)
      rintro e w3 ⟨rfl, hp3, hb3⟩
      have P3 := Lib.hid hp3; have B3 := Lib.hid (B2.out.trans (hb3.mono B2.out.size))
      clear hp3 hb3
      have hK : (freshM a6 a7 (.slice A2 (X.map (Value.int .u8)).length c2))[9]? = some (.bool false) := rfl
      have HZ := Lib.hid (zz_sa hK a4 (by omega) a2 (by omega) ws hws w3 P3.out B3.out.size (by rw [List.length_map, HX.out]; omega))
      clear hK
      go_wp2_with (first | (go_at_call 8; refine (k_id _).mono ?_; rintro e wz ⟨rfl, rfl⟩) | (go_at_call 9; refine (k_st _).mono ?_; rintro e wz ⟨rfl, rfl⟩) | (go_at_call 10; refine (k_am _).mono ?_; rintro e wz ⟨rfl, rfl⟩) | (go_at_call 13; refine HZ.out.mono ?_))
      rintro e w4 ⟨rfl, ⟨A4, c4, hp4⟩, hb4⟩
      rw [HOC.out] at hp4
      have hl4 : (X.map (Value.int .u8) ++ byteCells out).length = len0 + out.size := by rw [List.length_append, byteCells_length, List.length_map, HX.out]
      have ho4 := hp4.ownL hl4
      have B4 := Lib.hid (B3.out.trans hb4)
      have R4 : Hid (Reads w4 w4.heap.size 1 A4 (len0 + out.size) ((X ++ sI out).map (Value.int .u8))) := Lib.hid (by have := Reads.of_own ho4; rwa [sI_cells, ← List.map_append] at this)
      have R14 : Hid (Reads w4 w4.heap.size 1 A1 len0 (X.map (Value.int .u8))) := Lib.hid ((R1.out.below B4.out).more B4.out.size)
      have hc4 := (own_some ho4).1
      have P4 := Lib.hid hp4; have HL4 := Lib.hid hl4
      clear hp4 hb4 hl4 ho4
      go_wp2_with (go_at_call 15; refine (css_any w4 P4.out (len0 + out.size) HL4.out).mono ?_; rintro e wz ⟨rfl, rfl⟩)
      go_wp2_with (go_at_call 14; refine (tail_any A4 (len0 + out.size) c4 X out A1 len0 c1 w4 R4.out R14.out hc4 (by omega)).mono ?_)
      rintro e w5 ⟨rfl, hb5⟩
      have B5 := Lib.hid (B1.out.trans ((B4.out.trans (hb5.mono B4.out.size)).mono B1.out.size))
      clear hb5
      go_wp2_with fail
      go_ret
      rw [HO.out]
      exact ⟨ret_bool (by simp), B5.out⟩

/-! ### THE ROW's STEP -/
/-- An input that fits, at a world whose variables are laid (slices among them). -/
theorem witness_zip {H : Type} {enc : TypeId × Value → H} {C : Checked} {os : Os} {f : FuncId} {fn : Func} {s : OpenSpec} {conds : List PathCond} {apart : Bool} {laid : List (String × DataW Unit)} (modest : Bool) (w0 : World) (args : Array Value) (hos : w0.os = os)
    (hsh : (w0.forCall (fun _ _ => 0) ⟨#[], args, []⟩).Shaped C.prog)
    (hok : Input.okWideB C.prog (w0.forCall (fun _ _ => 0) ⟨#[], args, []⟩) f ⟨#[], args, []⟩ = true)
    (hrow : s.preRow enc C.prog fn conds apart laid (w0.forCall (fun _ _ => 0) ⟨#[], args, []⟩).memory args) (F : Stop.Interp) :
    ∃ (w : World) (tape : Tape) (i : Input), w.os = os ∧ (w.forCall tape i).Shaped C.prog ∧ i.vars = [] ∧ Input.okWide C.prog (w.forCall tape i) .any w.heap.size f i ∧
      s.preRow enc C.prog fn conds apart laid (w.forCall tape i).memory i.args ∧ ({ modest := modest } : Assume).holds C.prog (lone (Frame.enter C.prog f i.args .normal) [] (w.forCall tape i)) ∧ F.answers tape :=
  ⟨w0, F.over fun _ _ => 0, ⟨#[], args, []⟩, hos, hsh, (Input.okWide_of_okWideB (base := 0) hok).1, (Input.okWide_of_okWideB hok).2, hrow, by
    simp only [Assume.holds]
    exact ⟨by simp, by simp, fun _ => F.over_modest Modest.zero, by simp, by simp⟩, F.over_answers _⟩
set_option maxRecDepth 100000 in
theorem lifted (os : Os) (started : os.Started) (H : Type) (enc : TypeId × Value → H) :
    ReturnsInTold none {} Tryf.checked os 3 .any Input.okWide ((OpenSpec.ofChange Rows.fnNamespacedNameCaseTableSpec).preRow enc Tryf.prog Tryf.f3 [] false Rows.fnNamespacedNameCaseTableRow.laid) (fun F => ((OpenSpec.ofChange Rows.fnNamespacedNameCaseTableSpec).at F).post enc Tryf.prog Tryf.f3 false true false false) (aloneAtReturn Tryf.prog) nothingAlways := by
  refine returnsInTold_of_row (C := Tryf.checked) (s := (OpenSpec.ofChange Rows.fnNamespacedNameCaseTableSpec)) (by kernel_rfl) own started (by kernel_rfl) Tryf.func3
    (witness_zip (enc := enc) (C := Tryf.checked) false (World.laidAll Tryf.prog os Rows.fnNamespacedNameCaseTableRow.laid) #[.slice none 0 0, .int .u8 0, .string ByteArray.empty, .int .u8 0, .string ByteArray.empty, .bool false, .bool false, .bool false] (World.laidAll_os _ _ _) (World.shaped_of_ZipB (by kernel_rfl) (by kernel_rfl)) (by kernel_rfl)
      (OpenSpec.preRow_of_B rfl 8 (by kernel_rfl) (by kernel_rfl) (by rw [MakeChecks.laidMetH_plain _ _ _ (by kernel_rfl)]; exact laidMet_laidAll _ (by kernel_rfl) (by kernel_rfl)))) ?_
  intro F W base args ds gs before _ hF hval0 hW _ _ hsz hL _
  have hval : ∀ (j : Nat) t v, Tryf.f3.params[j]? = some t → args[j]? = some v → Value.okWide Tryf.prog W .any base t v := hval0
  have hW' := hW
  obtain ⟨p, q, hA0, hV, rfl, hfz, hnd⟩ := hW
  have hA : DataW.TrodAll enc Tryf.prog W 0 (fun _ => true) true Tryf.f3.params.toList args.toList ds p := hA0
  rw [Tryf.params3] at hA hval
  obtain ⟨v0, vs0, d0, ds0, p0, q0, hargs, rfl, rfl, h0, r0⟩ := trodAll_cons hA
  obtain ⟨v1, vs1, d1, ds1, p1, q1, rfl, rfl, rfl, h1, r1⟩ := trodAll_cons r0
  obtain ⟨v2, vs2, d2, ds2, p2, q2, rfl, rfl, rfl, h2, r2⟩ := trodAll_cons r1
  obtain ⟨v3, vs3, d3, ds3, p3, q3, rfl, rfl, rfl, h3, r3⟩ := trodAll_cons r2
  obtain ⟨v4, vs4, d4, ds4, p4, q4, rfl, rfl, rfl, h4, r4⟩ := trodAll_cons r3
  obtain ⟨v5, vs5, d5, ds5, p5, q5, rfl, rfl, rfl, h5, r5⟩ := trodAll_cons r4
  obtain ⟨v6, vs6, d6, ds6, p6, q6, rfl, rfl, rfl, h6, r6⟩ := trodAll_cons r5
  obtain ⟨v7, vs7, d7, ds7, p7, q7, rfl, rfl, rfl, h7, r7⟩ := trodAll_cons r6
  obtain ⟨rfl, rfl, rfl⟩ := trodAll_nil r7
  obtain rfl : args = #[v0, v1, v2, v3, v4, v5, v6, v7] := by cases args; simp_all
  have hV1 : DataW.TrodVars enc Tryf.prog W (fun _ => true) ["github.com/evanw/esbuild/internal/sourcemap.base64"] gs q := hV
  obtain ⟨g1, rfl⟩ : ∃ g, gs = [g] := by
    match gs, hV1 with
    | [g], _ => exact ⟨g, rfl⟩
    | [], h => exact h.elim
    | _ :: _ :: _, ⟨_, _, _, _, _, _, _, _, _, _, h, _⟩ => exact h.elim
  have k0 := h0
  have lt0 : ∀ x ∈ p0, x.block < W.heap.size := by obtain ⟨m, hm⟩ := k0; exact DataW.trod_lt m _ _ _ hm
  have k1 := h1
  have lt1 : ∀ x ∈ p1, x.block < W.heap.size := by obtain ⟨m, hm⟩ := k1; exact DataW.trod_lt m _ _ _ hm
  have k2 := h2
  have lt2 : ∀ x ∈ p2, x.block < W.heap.size := by obtain ⟨m, hm⟩ := k2; exact DataW.trod_lt m _ _ _ hm
  have k3 := h3
  have lt3 : ∀ x ∈ p3, x.block < W.heap.size := by obtain ⟨m, hm⟩ := k3; exact DataW.trod_lt m _ _ _ hm
  have k4 := h4
  have lt4 : ∀ x ∈ p4, x.block < W.heap.size := by obtain ⟨m, hm⟩ := k4; exact DataW.trod_lt m _ _ _ hm
  have k5 := h5
  have lt5 : ∀ x ∈ p5, x.block < W.heap.size := by obtain ⟨m, hm⟩ := k5; exact DataW.trod_lt m _ _ _ hm
  have k6 := h6
  have lt6 : ∀ x ∈ p6, x.block < W.heap.size := by obtain ⟨m, hm⟩ := k6; exact DataW.trod_lt m _ _ _ hm
  have k7 := h7
  have lt7 : ∀ x ∈ p7, x.block < W.heap.size := by obtain ⟨m, hm⟩ := k7; exact DataW.trod_lt m _ _ _ hm
  obtain ⟨a0, len0, cap0, rfl⟩ := okWide_slice Tryf.underlying22 (hval 0 22 v0 rfl rfl)
  obtain ⟨z0, w0⟩ : ∃ zs, IsRow .u8 W a0 len0 cap0 zs := by
    obtain ⟨fuel, hf⟩ := h0
    rcases open_ints Tryf.underlying22 Tryf.underlying5 (by kernel_rfl) hf with ⟨hcs, _⟩ | ⟨x, l, c, zs, hcs, _, hl, hm, hz, _, hcell, hwz⟩
    · simp [Value.cells] at hcs
      obtain ⟨rfl, rfl, rfl⟩ := hcs
      exact ⟨[], .inl ⟨rfl, rfl, rfl, rfl⟩⟩
    · simp [Value.cells] at hcs
      obtain ⟨rfl, rfl, rfl⟩ := hcs
      exact ⟨zs, .inr ⟨_, rfl, hl, hm, by simpa using hz, hcell, hwz⟩⟩
  obtain ⟨a1, rfl, rfl, rfl, w1⟩ := open_int Tryf.underlying5 (hval 1 5 v1 rfl rfl) h1
  obtain ⟨a2, rfl, rfl, rfl, w2⟩ := open_string Tryf.underlying9 (hval 2 9 v2 rfl rfl) h2
  obtain ⟨a3, rfl, rfl, rfl, w3⟩ := open_int Tryf.underlying5 (hval 3 5 v3 rfl rfl) h3
  obtain ⟨a4, rfl, rfl, rfl, w4⟩ := open_string Tryf.underlying9 (hval 4 9 v4 rfl rfl) h4
  obtain ⟨a5, rfl, rfl, rfl⟩ := open_bool Tryf.underlying4 (hval 5 4 v5 rfl rfl) h5
  obtain ⟨a6, rfl, rfl, rfl⟩ := open_bool Tryf.underlying4 (hval 6 4 v6 rfl rfl) h6
  obtain ⟨a7, rfl, rfl, rfl⟩ := open_bool Tryf.underlying4 (hval 7 4 v7 rfl rfl) h7
  clear hA0 hval0
  refine (walk a0 len0 cap0 z0 a1 a2 a3 a4 a5 a6 a7 W w0 w1 w2 w3 w4 ).mono fun e W' ⟨he, bel⟩ => ?_
  subst he
  exact ⟨_, rfl, _, _, _, [], _, q, hW', trodAll_mk1 (shut_bool Tryf.underlying4 _), (trodAll_cons_mk (Below.trod laidOut (by kernel_rfl) (of_decide_eq_true (by kernel_rfl)) k0 bel lt0) (trodAll_cons_mk (Below.trod laidOut (by kernel_rfl) (of_decide_eq_true (by kernel_rfl)) k1 bel lt1) (trodAll_cons_mk (Below.trod laidOut (by kernel_rfl) (of_decide_eq_true (by kernel_rfl)) k2 bel lt2) (trodAll_cons_mk (Below.trod laidOut (by kernel_rfl) (of_decide_eq_true (by kernel_rfl)) k3 bel lt3) (trodAll_cons_mk (Below.trod laidOut (by kernel_rfl) (of_decide_eq_true (by kernel_rfl)) k4 bel lt4) (trodAll_cons_mk (Below.trod laidOut (by kernel_rfl) (of_decide_eq_true (by kernel_rfl)) k5 bel lt5) (trodAll_cons_mk (Below.trod laidOut (by kernel_rfl) (of_decide_eq_true (by kernel_rfl)) k6 bel lt6) (trodAll_cons_mk (Below.trod laidOut (by kernel_rfl) (of_decide_eq_true (by kernel_rfl)) k7 bel lt7) trodAll_mk0)))))))), Below.trodVars laidOut bel (by kernel_rfl) hV1, bel.frame _, fun h => by cases h⟩

theorem stopsAre : Tryf.pinned.checked.prog.stops = ["fmt.Sprintf"] := by kernel_rfl
theorem stopKnobs : Tryf.pinned.checked.prog.stopKnobs = [] := by kernel_rfl
theorem quiet (os : Os) : Stop.quiet Tryf.pinned.checked.prog os := by
  intro k hk
  rw [stopKnobs] at hk
  cases hk

theorem proved : Rows.FnNamespacedNameCaseTableToldSaid :=
  Claim7.holds_of_told_tied_any_at .later 3 Tryf.f3 "fmt.Sprintf" [] [] _ _ _ [.data, .widerDeep, .pinned] true (by kernel_rfl) rfl rfl rfl laidOut (by kernel_rfl) rfl ⟨rfl, rfl, rfl, rfl, rfl, rfl, rfl⟩ rfl rfl (by kernel_rfl) (by kernel_rfl) Tryf.func3 (by kernel_rfl)
    (of_decide_eq_true (by kernel_rfl)) (of_decide_eq_true (by kernel_rfl)) stopsAre.symm rfl stopKnobs.symm (by kernel_rfl)
    (by kernel_rfl) (by kernel_rfl) (by kernel_rfl) (by kernel_rfl) (by kernel_rfl) (by kernel_rfl) (by kernel_rfl) (by kernel_rfl) (by kernel_rfl) rfl (by kernel_rfl) rfl rfl
    rfl rfl
    rfl (by kernel_rfl) (by kernel_rfl) (by kernel_rfl) (by decide) (by kernel_rfl) fnNamespacedNameCaseTable_row_tie
    (OpenClaim.moreEntering_of (by kernel_rfl) (by kernel_rfl) (by kernel_rfl) (by kernel_rfl) (by kernel_rfl) (by kernel_rfl) (by kernel_rfl) (by kernel_rfl) (by kernel_rfl) (by kernel_rfl))
    ⟨_, WideRow.started_initial, quiet _⟩
    (fun os started _ H enc _ => lifted os started H enc)
#print axioms proved
end Go.Proofs.YtemefojfnghhoaaFmt.fnNamespacedNameCaseTable