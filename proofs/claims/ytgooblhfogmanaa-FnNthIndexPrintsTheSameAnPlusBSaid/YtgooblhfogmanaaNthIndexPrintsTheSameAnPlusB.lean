/-
  PROVED: for every prefix, every A and B that are empty or texts of integers, and either flag, what printNthIndex appends is read back by the independent reader as the same coefficient and constant.
-/
import Derived.Test.YtgooblhfogmanaaRows
import Derived.WalkKit
import Derived.ProofKit
import Derived.Deep.QuietTactic
import Derived.BigQuiet
import Derived.IntWalk
import Derived.Deep.RegionWith
import Derived.Outline
import Derived.LoopTactic
import Derived.WalkSpells
import Derived.Deep.Light
import Derived.Test.YtgooblhfogmanaaNpq
import Derived.OpenShut
import Derived.ShutString
import Derived.ChangeOld
import Derived.Below
import Derived.Carry
namespace Go.Proofs.Ytgooblhfogmanaa.fnNthIndexPrintsTheSameAnPlusB
open Go.ChangeShapes Go.WideShapes Go.ChangeAt Go.RowKit
open Go.ChangeMaps (open_string shut_string)
set_option linter.unusedVariables false
set_option linter.unusedSimpArgs false

theorem own : ownKnob Try.prog.godebug = none := by kernel_rfl
theorem laidOut : laidOutB Try.pinned.checked.prog = true := by kernel_rfl

/-- What the walk is told of a slice of integers that came in. -/
def IsRow (k : IntKind) (w : World) (a : Option Addr) (len cap : Nat) (zs : List Int) : Prop :=
  (a = none ∧ len = 0 ∧ cap = 0 ∧ zs = []) ∨
  ∃ x, a = some x ∧ len ≤ cap ∧ cap ≤ maxLen ∧ zs.length = cap ∧ (∀ i, i < zs.length → w.cell? (x.add i) = some (.int k (zs.getD i 0))) ∧ ∀ n ∈ zs, (Lit.int k n).wf = true
theorem isrow_reads {k : IntKind} {w : World} {a : Option Addr} {len cap : Nat} {zs : List Int} (h : IsRow k w a len cap zs) : Reads w w.heap.size 1 a len ((zs.take len).map (Value.int k)) ∧ (a = none → len = 0) ∧ len ≤ maxLen := by
  rcases h with ⟨rfl, rfl, rfl, rfl⟩ | ⟨x, rfl, hl, hm, hz, hc, _⟩
  · exact ⟨Reads.none_, fun _ => rfl, by unfold maxLen; omega⟩
  · refine ⟨⟨by simp; omega, fun hn => ⟨x, rfl, ?_, fun j u hu => ?_⟩⟩, (fun h => by cases h), by omega⟩
    · have := hc 0 (by omega)
      exact World.block_lt_of_cell? w x (by simpa [Addr.add] using this)
    · have hj : j < len := by
        have := (List.getElem?_eq_some_iff.1 hu).1
        simp at this; omega
      rw [hc j (by omega)]
      rw [List.getElem?_map, List.getElem?_take_of_lt hj, List.getElem?_eq_getElem (by omega)] at hu
      rw [List.getD_eq_getElem?_getD, List.getElem?_eq_getElem (by omega)]
      exact hu



set_option maxHeartbeats 1000000 in
set_option maxRecDepth 100000 in
theorem zb (A : Option Addr) (n c : Nat) (s s' : ByteArray) (b' : Bool) (w : World) (hn : n ≤ maxLen) (hm : s.size ≤ maxLen) (hm' : s'.size ≤ maxLen) :
    Calls Try.prog 4 #[.slice A n c, .string s, .string s', .bool b'] w fun e w' => e = .returned (.bool (decide (n + s.size + s'.size ≤ 1048576))) ∧ w = w' := by
  unfold maxLen at hn hm hm'
  by_cases h1 : 1048576 < n
  · go_enter Try.func4, Try.ntmps4
    go_wp2
    go_ret
    exact ⟨ret_bool (by symm; simp; omega), rfl⟩
  by_cases h2 : 1048576 < s.size
  · go_enter Try.func4, Try.ntmps4
    go_wp2
    go_ret
    exact ⟨ret_bool (by symm; simp; omega), rfl⟩
  by_cases h3 : 1048576 < n + s.size
  · go_enter Try.func4, Try.ntmps4
    go_wp2
    go_ret
    exact ⟨ret_bool (by symm; simp; omega), rfl⟩
  by_cases h4 : 1048576 < s'.size
  · go_enter Try.func4, Try.ntmps4
    go_wp2
    go_ret
    exact ⟨ret_bool (by symm; simp; omega), rfl⟩
  by_cases h5 : 1048576 < n + s.size + s'.size
  · go_enter Try.func4, Try.ntmps4
    go_wp2
    go_ret
    exact ⟨ret_bool (by symm; simp; omega), rfl⟩
  · go_enter Try.func4, Try.ntmps4
    go_wp2
    go_ret
    exact ⟨ret_bool (by symm; simp; omega), rfl⟩
theorem own_some {w : World} {B n : Nat} {A : Option Addr} {c : Nat} {xs : List Value} (h : w.ownsRow B 5 1 (.slice A n c) n xs) : n ≤ c ∧ (A = none → n = 0) := by
  rcases h.2 with ⟨hv, h0⟩ | ⟨g, cap, cur, hv, _, _, h1, h2, _⟩
  · injection hv with a b c'
    subst a; subst b; subst c'
    exact ⟨by omega, fun _ => by omega⟩
  · injection hv with a b c'
    subst a; subst c'
    exact ⟨h1, fun h => by cases h⟩
set_option maxHeartbeats 1000000 in
set_option maxRecDepth 100000 in
theorem zprint (sa sb out : ByteArray) (B b : Nat) (K : Array Value) (A : Option Addr) (cap : Nat) (bs : List Value) (w : World) (h : IsP B b K A cap bs w) (hB : B ≤ w.heap.size) (hl : bs.length ≤ 4194304)
    (hc : ∀ (B b : Nat) (K : Array Value) (A : Option Addr) (cap : Nat) (bs : List Value) (w : World), IsP B b K A cap bs w → B ≤ w.heap.size → bs.length ≤ 4194304 →
      Calls Try.prog 13 #[.pointer (some ⟨b, 0, none⟩), .agg #[.string sa, .string sb]] w (PrPost B b K (bs ++ byteCells out) w)) :
    Calls Try.prog 8 #[.pointer (some ⟨b, 0, none⟩), .string sa, .string sb] w (PrPost B b K (bs ++ byteCells out) w) := by
  have HC := Lib.hid (hc B b K A cap bs w h hB hl)
  clear hc h
  go_enter Try.func8, Try.ntmps8
  go_wp2_with (go_at_call 13; refine HC.out.mono ?_)
  rintro e w' ⟨rfl, hp, hb⟩
  have HP := Lib.hid hp; have HB := Lib.hid hb
  clear hp hb
  go_wp2
  go_end0
  exact ⟨rfl, HP.out, HB.out⟩
/-! ### STEP 1: THE WALK -/
set_option maxHeartbeats 4000000 in
set_option maxRecDepth 100000 in
theorem walk (a0 : Option Addr) (len0 cap0 : Nat) (z0 : List Int) (a1 : ByteArray) (a2 : ByteArray) (a3 : Bool) (w : World) (w0 : IsRow .u8 w a0 len0 cap0 z0) (w1 : a1.size ≤ maxLen) (w2 : a2.size ≤ maxLen)  :
    Calls Try.prog 3 #[.slice a0 len0 cap0, .string a1, .string a2, .bool a3] w fun e w' => e = .returned (.bool true) ∧ Below w.heap.size w w' := by
  obtain ⟨hr, hA, hln⟩ := isrow_reads w0
  obtain ⟨X, hX⟩ : ∃ X, X = z0.take len0 := ⟨_, rfl⟩
  rw [← hX] at hr
  have HX := Lib.hid (show X.length = len0 by have := hr.1; simpa using this)
  have HR := Lib.hid hr; have HA := Lib.hid hA; have HLN := Lib.hid hln; have HW1 := Lib.hid w1; have HW2 := Lib.hid w2
  clear hr hX w0 hA
  unfold maxLen at hln w1 w2
  by_cases hbig : len0 + a1.size + a2.size ≤ 1048576
  case neg =>
    have HB := Lib.hid (show decide (len0 + a1.size + a2.size ≤ 1048576) = false by simpa using hbig)
    go_enter Try.func3, Try.ntmps3
    go_wp2_with (go_at_call 4; refine (zb a0 len0 cap0 a1 a2 a3 _ HLN.out HW1.out HW2.out).mono ?_; rw [HB.out]; rintro e wz ⟨rfl, rfl⟩)
    go_ret
    exact ⟨rfl, Below.refl _ _⟩
  have HB := Lib.hid (show decide (len0 + a1.size + a2.size ≤ 1048576) = true by simpa using hbig)
  by_cases ha : a1.data.toList = [] ∨ IntT a1.data.toList
  case neg =>
    have f1 : ¬ a1.toList = [] := by rw [toList_data]; exact fun e => ha (.inl e)
    have f2 : a1.toList.isEmpty = false := by simpa using f1
    have HI := Lib.hid (intB_no (fun e => ha (.inr e)))
    clear ha
    go_enter Try.func3, Try.ntmps3
    go_wp2_with (first | (go_at_call 4; refine (zb a0 len0 cap0 a1 a2 a3 _ HLN.out HW1.out HW2.out).mono ?_; rw [HB.out]; rintro e wz ⟨rfl, rfl⟩) | (go_at_call 5; with_reducible refine (isInt_any a1 _ (by omega)).mono ?_; rw [HI.out]; rintro e wz ⟨rfl, rfl⟩))
    go_ret
    exact ⟨rfl, Below.refl _ _⟩
  by_cases hb : a2.data.toList = [] ∨ IntT a2.data.toList
  case neg =>
    have f1 : ¬ a2.toList = [] := by rw [toList_data]; exact fun e => hb (.inl e)
    have f2 : a2.toList.isEmpty = false := by simpa using f1
    have HI := Lib.hid (intB_no (fun e => hb (.inr e)))
    clear hb
    rcases ha with ha | ha
    · have g1 : a1.toList = [] := by rw [toList_data]; exact ha
      have g2 : a1.toList.isEmpty = true := by rw [g1]; rfl
      clear ha
      go_enter Try.func3, Try.ntmps3
      go_wp2_with (first | (go_at_call 4; refine (zb a0 len0 cap0 a1 a2 a3 _ HLN.out HW1.out HW2.out).mono ?_; rw [HB.out]; rintro e wz ⟨rfl, rfl⟩) | (go_at_call 5; with_reducible refine (isInt_any a2 _ (by omega)).mono ?_; rw [HI.out]; rintro e wz ⟨rfl, rfl⟩))
      go_ret
      exact ⟨rfl, Below.refl _ _⟩
    · have g1 : ¬ a1.toList = [] := by rw [toList_data]; exact fun e => int_short (.inl e) ha
      have g2 : a1.toList.isEmpty = false := by simpa using g1
      have HJ := Lib.hid (intB_yes ha)
      clear ha
      go_enter Try.func3, Try.ntmps3
      go_wp2_with (first | (go_at_call 4; refine (zb a0 len0 cap0 a1 a2 a3 _ HLN.out HW1.out HW2.out).mono ?_; rw [HB.out]; rintro e wz ⟨rfl, rfl⟩) | (go_at_call 5; with_reducible refine (isInt_any a2 _ (by omega)).mono ?_; rw [HI.out]; rintro e wz ⟨rfl, rfl⟩) | (go_at_call 5; with_reducible refine (isInt_any a1 _ (by omega)).mono ?_; rw [HJ.out]; rintro e wz ⟨rfl, rfl⟩))
      go_ret
      exact ⟨rfl, Below.refl _ _⟩
  obtain ⟨out, hgood, hprint⟩ := nth_good (B := 0) (b := 0) (K := #[]) (A := none) (cap := 0) (bs := []) a1 a2 ha hb (by omega) (by omega)
  have hos := hgood.size
  obtain ⟨r1, hr1⟩ := canon_ex (wa a1) (by unfold wa; split; decide; omega)
  obtain ⟨r2, hr2⟩ := canon_ex (wa a2) (by unfold wa; split; decide; omega)
  have HG := Lib.hid hgood.read; have HP := Lib.hid hprint; have HR1 := Lib.hid hr1; have HR2 := Lib.hid hr2
  clear hgood hprint hr1 hr2
  have fa : (a1.toList = [] ∧ a1.toList.isEmpty = true ∧ intB a1.data.toList = false ∧ Hid (wa a1 = ⟨#[48]⟩)) ∨ (¬ a1.toList = [] ∧ a1.toList.isEmpty = false ∧ intB a1.data.toList = true ∧ Hid (wa a1 = a1)) := by
    rcases ha with ha | ha
    · exact .inl ⟨by rw [toList_data]; exact ha, by rw [toList_data, ha]; rfl, intB_no (int_short (.inl ha)), Lib.hid (wa_e ha)⟩
    · have hne : a1.data.toList ≠ [] := fun e => int_short (.inl e) ha
      exact .inr ⟨by rw [toList_data]; exact hne, by rw [toList_data]; simpa using hne, intB_yes ha, Lib.hid (wa_n hne)⟩
  have fb : (a2.toList = [] ∧ a2.toList.isEmpty = true ∧ intB a2.data.toList = false ∧ Hid (wa a2 = ⟨#[48]⟩)) ∨ (¬ a2.toList = [] ∧ a2.toList.isEmpty = false ∧ intB a2.data.toList = true ∧ Hid (wa a2 = a2)) := by
    rcases hb with ha | ha
    · exact .inl ⟨by rw [toList_data]; exact ha, by rw [toList_data, ha]; rfl, intB_no (int_short (.inl ha)), Lib.hid (wa_e ha)⟩
    · have hne : a2.data.toList ≠ [] := fun e => int_short (.inl e) ha
      exact .inr ⟨by rw [toList_data]; exact hne, by rw [toList_data]; simpa using hne, intB_yes ha, Lib.hid (wa_n hne)⟩
  clear ha hb
  rcases fa with ⟨g1, g2, ia, WA⟩ | ⟨g1, g2, ia, WA⟩ <;> rcases fb with ⟨g3, g4, ib, WB⟩ | ⟨g3, g4, ib, WB⟩
  all_goals
    have IA := Lib.hid ia; have IB := Lib.hid ib
    clear ia ib
    have C1 := HR1.out; have C2 := HR2.out; have G := HG.out
    rw [WA.out] at C1
    rw [WB.out] at C2
    rw [WA.out, WB.out] at G
    replace C1 := Lib.hid C1; replace C2 := Lib.hid C2; replace G := Lib.hid G
    go_enter Try.func3, Try.ntmps3
    go_wp2_with (first | (go_at_call 4; refine (zb a0 len0 cap0 a1 a2 a3 _ HLN.out HW1.out HW2.out).mono ?_; rw [HB.out]; rintro e wz ⟨rfl, rfl⟩) | (go_at_call 5; with_reducible refine (isInt_any a1 _ (by omega)).mono ?_; rw [IA.out]; rintro e wz ⟨rfl, rfl⟩) | (go_at_call 5; with_reducible refine (isInt_any a2 _ (by omega)).mono ?_; rw [IB.out]; rintro e wz ⟨rfl, rfl⟩))
    go_wp2_with (go_at_call 6; refine (copy_any a0 len0 cap0 X w HR.out (by omega) HA.out).mono ?_)
    rintro e w1 ⟨A1, c1, rfl, ho1, hb1⟩
    have R1 : Hid (Reads w1 w1.heap.size 1 A1 len0 (X.map (Value.int .u8))) := Lib.hid (Reads.of_own ho1)
    have HA1 : Hid (A1 = none → len0 = 0) := Lib.hid (own_some ho1).2
    have B1 := Lib.hid hb1
    clear ho1 hb1
    go_wp2_with (go_at_call 6; refine (copy_any A1 len0 c1 X w1 R1.out (by omega) HA1.out).mono ?_)
    rintro e w2 ⟨A2, c2, rfl, ho2, hb2⟩
    have O2 := Lib.hid ho2; have B2 := Lib.hid hb2
    clear ho2 hb2
    go_wp2_with (go_at_call 7; refine (new_any w1.heap.size A2 len0 c2 (X.map (Value.int .u8)) a3 false w2 (by rw [List.length_map]; exact HX.out) O2.out B2.out.size).mono ?_)
    rintro e w3 ⟨rfl, hp3, hb3⟩
    have P3 := Lib.hid hp3; have B3 := Lib.hid (B2.out.trans (hb3.mono B2.out.size))
    clear hp3 hb3
    go_wp2_with (go_at_call 8; refine (zprint a1 a2 out w1.heap.size w2.heap.size _ A2 c2 (X.map (Value.int .u8)) w3 P3.out B3.out.size (by rw [List.length_map, HX.out]; omega) HP.out).mono ?_)
    rintro e w4 ⟨rfl, ⟨A4, c4, hp4⟩, hb4⟩
    have hl4 : (X.map (Value.int .u8) ++ byteCells out).length = len0 + out.size := by rw [List.length_append, byteCells_length, List.length_map, HX.out]
    have ho4 := hp4.ownL hl4
    have B4 := Lib.hid (B3.out.trans hb4)
    have R4 : Hid (Reads w4 w4.heap.size 1 A4 (len0 + out.size) ((X ++ sI out).map (Value.int .u8))) := Lib.hid (by have := Reads.of_own ho4; rwa [sI_cells, ← List.map_append] at this)
    have R14 : Hid (Reads w4 w4.heap.size 1 A1 len0 (X.map (Value.int .u8))) := Lib.hid ((R1.out.below B4.out).more B4.out.size)
    have hc4 := (own_some ho4).1
    have P4 := Lib.hid hp4; have HL4 := Lib.hid hl4
    clear hp4 hb4 hl4 ho4
    go_wp2_with (go_at_call 10; refine (css_any w4 P4.out (len0 + out.size) HL4.out).mono ?_; rintro e wz ⟨rfl, rfl⟩)
    go_wp2_with (go_at_call 9; refine (tail_any A4 (len0 + out.size) c4 X out A1 len0 c1 w4 R4.out R14.out hc4 (by omega)).mono ?_)
    rintro e w5 ⟨rfl, hb5⟩
    have B5 := Lib.hid (B1.out.trans ((B4.out.trans (hb5.mono B4.out.size)).mono B1.out.size))
    clear hb5
    go_wp2_with (go_at_call 11; refine (G.out _).mono ?_; rintro e wz ⟨rfl, rfl⟩)
    go_wp2_with (first | (go_at_call 12; with_reducible refine (C1.out _).mono ?_; rintro e wz ⟨rfl, rfl⟩) | (go_at_call 12; with_reducible refine (C2.out _).mono ?_; rintro e wz ⟨rfl, rfl⟩))
    go_ret
    exact ⟨ret_bool (by simp), B5.out⟩

/-! ### THE ROW's STEP -/
set_option maxRecDepth 100000 in
theorem lifted (os : Os) (started : os.Started) (H : Type) (enc : TypeId × Value → H) :
    ReturnsInHanded {} Try.checked os 3 .any (Rows.fnNthIndexPrintsTheSameAnPlusBSpec.pre6 enc Try.prog Try.f3 Rows.fnNthIndexPrintsTheSameAnPlusBRow.domain false) (Rows.fnNthIndexPrintsTheSameAnPlusBSpec.post enc Try.prog Try.f3 false true false false) := by
  refine returnsInHanded_of_change (C := Try.checked) own started (by kernel_rfl) Try.func3
    (ChangeSpec.witness6 (enc := enc) (C := Try.checked) false ⟨#[], #[.slice none 0 0, .string ByteArray.empty, .string ByteArray.empty, .bool false], []⟩ 8 (by kernel_rfl) (by kernel_rfl) (by kernel_rfl) (by kernel_rfl)) ?_
  intro W base args ds gs before hval0 hW hcnd _
  have hval : ∀ (j : Nat) t v, Try.f3.params[j]? = some t → args[j]? = some v → Value.okWide Try.prog W .any base t v := hval0
  have hW' := hW
  obtain ⟨p, q, hA0, hV, rfl, hfz, hnd⟩ := hW
  have hA : DataW.TrodAll enc Try.prog W 0 (fun _ => true) true Try.f3.params.toList args.toList ds p := hA0
  rw [Try.params3] at hA hval
  obtain ⟨v0, vs0, d0, ds0, p0, q0, hargs, rfl, rfl, h0, r0⟩ := trodAll_cons hA
  obtain ⟨v1, vs1, d1, ds1, p1, q1, rfl, rfl, rfl, h1, r1⟩ := trodAll_cons r0
  obtain ⟨v2, vs2, d2, ds2, p2, q2, rfl, rfl, rfl, h2, r2⟩ := trodAll_cons r1
  obtain ⟨v3, vs3, d3, ds3, p3, q3, rfl, rfl, rfl, h3, r3⟩ := trodAll_cons r2
  obtain ⟨rfl, rfl, rfl⟩ := trodAll_nil r3
  obtain rfl : args = #[v0, v1, v2, v3] := by cases args; simp_all
  obtain ⟨rfl, rfl⟩ := trodVars_none hV
  have k0 := h0
  have lt0 : ∀ x ∈ p0, x.block < W.heap.size := by obtain ⟨m, hm⟩ := k0; exact DataW.trod_lt m _ _ _ hm
  have k1 := h1
  have lt1 : ∀ x ∈ p1, x.block < W.heap.size := by obtain ⟨m, hm⟩ := k1; exact DataW.trod_lt m _ _ _ hm
  have k2 := h2
  have lt2 : ∀ x ∈ p2, x.block < W.heap.size := by obtain ⟨m, hm⟩ := k2; exact DataW.trod_lt m _ _ _ hm
  have k3 := h3
  have lt3 : ∀ x ∈ p3, x.block < W.heap.size := by obtain ⟨m, hm⟩ := k3; exact DataW.trod_lt m _ _ _ hm
  obtain ⟨a0, len0, cap0, rfl⟩ := okWide_slice Try.underlying22 (hval 0 22 v0 rfl rfl)
  obtain ⟨z0, w0⟩ : ∃ zs, IsRow .u8 W a0 len0 cap0 zs := by
    obtain ⟨fuel, hf⟩ := h0
    rcases open_ints Try.underlying22 Try.underlying5 (by kernel_rfl) hf with ⟨hcs, _⟩ | ⟨x, l, c, zs, hcs, _, hl, hm, hz, _, hcell, hwz⟩
    · simp [Value.cells] at hcs
      obtain ⟨rfl, rfl, rfl⟩ := hcs
      exact ⟨[], .inl ⟨rfl, rfl, rfl, rfl⟩⟩
    · simp [Value.cells] at hcs
      obtain ⟨rfl, rfl, rfl⟩ := hcs
      exact ⟨zs, .inr ⟨_, rfl, hl, hm, by simpa using hz, hcell, hwz⟩⟩
  obtain ⟨a1, rfl, rfl, rfl, w1⟩ := open_string Try.underlying9 (hval 1 9 v1 rfl rfl) h1
  obtain ⟨a2, rfl, rfl, rfl, w2⟩ := open_string Try.underlying9 (hval 2 9 v2 rfl rfl) h2
  obtain ⟨a3, rfl, rfl, rfl⟩ := open_bool Try.underlying4 (hval 3 4 v3 rfl rfl) h3
  clear hA0 hval0
  refine (walk a0 len0 cap0 z0 a1 a2 a3 W w0 w1 w2 ).mono fun e W' ⟨he, bel⟩ => ?_
  subst he
  exact ⟨_, rfl, _, _, _, [], _, [], hW', trodAll_mk1 (shut_bool Try.underlying4 _), (trodAll_cons_mk (Below.trod laidOut (by kernel_rfl) (of_decide_eq_true (by kernel_rfl)) k0 bel lt0) (trodAll_cons_mk (Below.trod laidOut (by kernel_rfl) (of_decide_eq_true (by kernel_rfl)) k1 bel lt1) (trodAll_cons_mk (Below.trod laidOut (by kernel_rfl) (of_decide_eq_true (by kernel_rfl)) k2 bel lt2) (trodAll_cons_mk (Below.trod laidOut (by kernel_rfl) (of_decide_eq_true (by kernel_rfl)) k3 bel lt3) trodAll_mk0)))), rfl, bel.frame _, fun h => by cases h⟩

theorem over : Rows.fnNthIndexPrintsTheSameAnPlusBRow.holds Try.pinned (OpenSpec.ofChange Rows.fnNthIndexPrintsTheSameAnPlusBSpec) :=
  OpenClaim.holds_of_wide 3 Try.f3 rfl rfl rfl rfl rfl rfl rfl ⟨rfl, rfl, rfl, rfl, rfl⟩ rfl rfl rfl rfl rfl (by kernel_rfl) Try.func3 (by kernel_rfl)
    (of_decide_eq_true (by kernel_rfl)) (by unfold Func.isWrapper; first | (rw [if_pos (by decide +kernel)]; kernel_rfl) | (rw [if_neg (by decide +kernel)]; exact ⟨rfl, rfl⟩))
    (fun os started H enc _ => lifted os started H enc)

theorem proved : Rows.FnNthIndexPrintsTheSameAnPlusBSaid := over
#print axioms proved
end Go.Proofs.Ytgooblhfogmanaa.fnNthIndexPrintsTheSameAnPlusB