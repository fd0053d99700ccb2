/-
  PROVED: The sign of CompareSemver is the sign that the law's own model of the order of versions answers.
-/
import Derived.Test.YtanhijhhceakjaaDoorRows
import Derived.Test.YtanhijhhceakjaaDoorCards
import Derived.Test.YtanhijhhceakjaaDoorTie
import Derived.WalkKit
import Derived.ProofKit
import Derived.Outline
import Derived.LoopTactic
import Derived.WalkSpells
import Derived.Deep.Light
import Derived.Test.YtanhijhhceakjaaDoorSmS
import Derived.OpenShut
import Derived.ShutString
import Derived.ChangeOld
import Derived.Below
import Derived.Carry
import Derived.Handy
import Derived.Lay
import Derived.SevenTiedAt
namespace Go.Proofs.YtanhijhhceakjaaDoor.fnCompareSemverSignMatchesModel
open Go.ChangeShapes Go.WideShapes Go.ChangeAt Go.RowKit
open Go.ChangeMaps (open_string shut_string)
set_option linter.unusedVariables false
set_option linter.unusedSimpArgs false

theorem own : ownKnob Tryd.prog.godebug = none := by kernel_rfl
theorem laidOut : laidOutB Tryd.pinned.checked.prog = true := by kernel_rfl

/-- What the walk is told of a slice of integers that came in. -/
def IsRow (k : IntKind) (w : World) (a : Option Addr) (len cap : Nat) (zs : List Int) : Prop :=
  (a = none ∧ len = 0 ∧ cap = 0 ∧ zs = []) ∨
  ∃ x, a = some x ∧ len ≤ cap ∧ cap ≤ maxLen ∧ zs.length = cap ∧ (∀ i, i < zs.length → w.cell? (x.add i) = some (.int k (zs.getD i 0))) ∧ ∀ n ∈ zs, (Lit.int k n).wf = true
theorem isrow_reads {k : IntKind} {w : World} {a : Option Addr} {len cap : Nat} {zs : List Int} (h : IsRow k w a len cap zs) : Reads w w.heap.size 1 a len ((zs.take len).map (Value.int k)) ∧ (a = none → len = 0) ∧ len ≤ maxLen := by
  rcases h with ⟨rfl, rfl, rfl, rfl⟩ | ⟨x, rfl, hl, hm, hz, hc, _⟩
  · exact ⟨Reads.none_, fun _ => rfl, by unfold maxLen; omega⟩
  · refine ⟨⟨by simp; omega, fun hn => ⟨x, rfl, ?_, fun j u hu => ?_⟩⟩, (fun h => by cases h), by omega⟩
    · have := hc 0 (by omega)
      exact World.block_lt_of_cell? w x (by simpa [Addr.add] using this)
    · have hj : j < len := by
        have := (List.getElem?_eq_some_iff.1 hu).1
        simp at this; omega
      rw [hc j (by omega)]
      rw [List.getElem?_map, List.getElem?_take_of_lt hj, List.getElem?_eq_getElem (by omega)] at hu
      rw [List.getD_eq_getElem?_getD, List.getElem?_eq_getElem (by omega)]
      exact hu



set_option maxHeartbeats 1000000 in
set_option maxRecDepth 100000 in
theorem zb (A : Option Addr) (n c : Nat) (s : ByteArray) (B : Option Addr) (m d : Nat) (t : ByteArray) (w : World) (h : n + s.size + m + t.size ≤ 1048576) :
    Calls Tryd.prog 7 #[.slice A n c, .string s, .slice B m d, .string t] w fun e w' => e = .returned (.bool true) ∧ w = w' := by
  go_enter Tryd.func7, Tryd.ntmps7
  go_wp2
  go_ret
  exact ⟨rfl, rfl⟩
set_option maxHeartbeats 1000000 in
set_option maxRecDepth 100000 in
theorem zbAny (A : Option Addr) (n c : Nat) (s : ByteArray) (B : Option Addr) (m d : Nat) (t : ByteArray) (w : World) (h1 : n ≤ maxLen) (h2 : s.size ≤ maxLen) (h3 : m ≤ maxLen) (h4 : t.size ≤ maxLen) :
    Calls Tryd.prog 7 #[.slice A n c, .string s, .slice B m d, .string t] w fun e w' => ∃ b, e = .returned (.bool b) ∧ w = w' := by
  unfold maxLen at *
  go_enter Tryd.func7, Tryd.ntmps7
  go_wp2
  all_goals
    go_ret
    exact ⟨_, rfl, rfl⟩
/-! ### STEP 1: THE WALK -/
set_option maxHeartbeats 4000000 in
set_option maxRecDepth 100000 in
theorem walk (a0 : Option Addr) (len0 cap0 : Nat) (z0 : List Int) (a1 : ByteArray) (a2 : Option Addr) (len2 cap2 : Nat) (z2 : List Int) (a3 : ByteArray) (w : World) (w0 : IsRow .i64 w a0 len0 cap0 z0) (w1 : a1.size ≤ maxLen) (w2 : IsRow .i64 w a2 len2 cap2 z2) (w3 : a3.size ≤ maxLen) (hE : Errs w) :
    Calls Tryd.prog 3 #[.slice a0 len0 cap0, .string a1, .slice a2 len2 cap2, .string a3] w fun e w' => e = .returned (.bool true) ∧ Below w.heap.size w w' := by
  obtain ⟨hr0, hA0, hl0⟩ := isrow_reads w0
  obtain ⟨hr2, hA2, hl2⟩ := isrow_reads w2
  obtain ⟨X, hX⟩ : ∃ X, X = z0.take len0 := ⟨_, rfl⟩
  rw [← hX] at hr0
  obtain ⟨Y, hY⟩ : ∃ Y, Y = z2.take len2 := ⟨_, rfl⟩
  rw [← hY] at hr2
  have HR0 := Lib.hid hr0; have HR2 := Lib.hid hr2; have HA0 := Lib.hid hA0; have HA2 := Lib.hid hA2
  have HL0 := Lib.hid hl0; have HL2 := Lib.hid hl2; have HW1 := Lib.hid w1; have HW3 := Lib.hid w3
  have HE := Lib.hid hE
  clear hr0 hr2 hX hY w0 w2 hA0 hA2 hE
  unfold maxLen at hl0 hl2 w1 w3
  by_cases hok : len0 * 8 + len2 * 8 + a1.size + a3.size ≤ 1048576
  case neg =>
    have HNOK := Lib.hid hok
    clear hok
    by_cases hz : len0 ≤ 131072 ∧ len2 ≤ 131072 ∧ a1.size ≤ 1048576 ∧ a3.size ≤ 1048576
    · obtain ⟨g1, g2, g3, g4⟩ := hz
      have hgt : (1048576 : Int) < (len0 : Int) * 8 + (len2 : Int) * 8 + a1.size + a3.size := by have := HNOK.out; omega
      go_enter Tryd.func3, Tryd.ntmps3
      go_wp2_with (go_at_call 7; refine (zbAny a0 len0 cap0 a1 a2 len2 cap2 a3 _ HL0.out HW1.out HL2.out HW3.out).mono ?_)
      rintro e wz ⟨bz, rfl, rfl⟩
      cases bz
      all_goals
        go_wp2
        go_ret
        exact ⟨rfl, Below.refl _ _⟩
    · have HZ := Lib.hid hz
      clear hz
      go_enter Tryd.func3, Tryd.ntmps3
      go_wp2_with (go_at_call 7; refine (zbAny a0 len0 cap0 a1 a2 len2 cap2 a3 _ HL0.out HW1.out HL2.out HW3.out).mono ?_)
      rintro e wz ⟨bz, rfl, rfl⟩
      cases bz
      · go_wp2
        go_ret
        exact ⟨rfl, Below.refl _ _⟩
      · go_wp2
        all_goals first | (go_ret; exact ⟨rfl, Below.refl _ _⟩) | (exfalso; have hq := HZ.out; go_light; omega)
  have k0 : len0 ≤ 131072 := by omega
  have k2 : len2 ≤ 131072 := by omega
  have k1 : a1.size ≤ 1048576 := by omega
  have k3 : a3.size ≤ 1048576 := by omega
  have hok' : (len0 : Int) * 8 + (len2 : Int) * 8 + a1.size + a3.size ≤ 1048576 := by omega
  cases hp0 : pok X with
  | false =>
    have HP0 := Lib.hid hp0
    clear hp0
    go_enter Tryd.func3, Tryd.ntmps3
    go_wp2_with (first | (go_at_call 7; refine (zb a0 len0 cap0 a1 a2 len2 cap2 a3 _ (by omega)).mono ?_; rintro e wz ⟨rfl, rfl⟩) | (go_at_call 8; refine (parts_any a0 len0 cap0 X _ HR0.out (by omega)).mono ?_; rw [HP0.out]; rintro e wz ⟨rfl, rfl⟩))
    go_ret
    exact ⟨rfl, Below.refl _ _⟩
  | true =>
    have HP0 := Lib.hid hp0
    clear hp0
    cases hp2 : pok Y with
    | false =>
      have HP2 := Lib.hid hp2
      clear hp2
      go_enter Tryd.func3, Tryd.ntmps3
      go_wp2_with (go_at_call 7; refine (zb a0 len0 cap0 a1 a2 len2 cap2 a3 _ (by omega)).mono ?_; rintro e wz ⟨rfl, rfl⟩)
      go_wp2_with (go_at_call 8; refine (parts_any a0 len0 cap0 X _ HR0.out (by omega)).mono ?_)
      rw [HP0.out]
      rintro e wz ⟨rfl, rfl⟩
      go_wp2_with (go_at_call 8; refine (parts_any a2 len2 cap2 Y _ HR2.out (by omega)).mono ?_)
      rw [HP2.out]
      rintro e wz ⟨rfl, rfl⟩
      go_wp2
      go_ret
      exact ⟨rfl, Below.refl _ _⟩
    | true =>
      have HP2 := Lib.hid hp2
      clear hp2
      have OX := Lib.hid (pok_ok X HP0.out); have OY := Lib.hid (pok_ok Y HP2.out)
      cases hl1 : hasL a1.data.toList with
      | true =>
        have HL1 := Lib.hid hl1
        clear hl1
        go_enter Tryd.func3, Tryd.ntmps3
        go_wp2_with (go_at_call 7; refine (zb a0 len0 cap0 a1 a2 len2 cap2 a3 _ (by omega)).mono ?_; rintro e wz ⟨rfl, rfl⟩)
        go_wp2_with (go_at_call 8; refine (parts_any a0 len0 cap0 X _ HR0.out (by omega)).mono ?_)
        rw [HP0.out]
        rintro e wz ⟨rfl, rfl⟩
        go_wp2_with (go_at_call 8; refine (parts_any a2 len2 cap2 Y _ HR2.out (by omega)).mono ?_)
        rw [HP2.out]
        rintro e wz ⟨rfl, rfl⟩
        go_wp2_with (go_at_call 9; refine (long_any a1 (by omega) _).mono ?_; rw [HL1.out])
        rintro e v1 ⟨rfl, hv1⟩
        have V1 := Lib.hid hv1
        clear hv1
        go_wp2
        go_ret
        exact ⟨rfl, V1.out⟩
      | false =>
        have HL1 := Lib.hid hl1
        have SH1 := Lib.hid (hasL_short _ hl1)
        clear hl1
        cases hl3 : hasL a3.data.toList with
        | true =>
          have HL3 := Lib.hid hl3
          clear hl3
          go_enter Tryd.func3, Tryd.ntmps3
          go_wp2_with (go_at_call 7; refine (zb a0 len0 cap0 a1 a2 len2 cap2 a3 _ (by omega)).mono ?_; rintro e wz ⟨rfl, rfl⟩)
          go_wp2_with (go_at_call 8; refine (parts_any a0 len0 cap0 X _ HR0.out (by omega)).mono ?_)
          rw [HP0.out]
          rintro e wz ⟨rfl, rfl⟩
          go_wp2_with (go_at_call 8; refine (parts_any a2 len2 cap2 Y _ HR2.out (by omega)).mono ?_)
          rw [HP2.out]
          rintro e wz ⟨rfl, rfl⟩
          go_wp2_with (go_at_call 9; refine (long_any a1 (by omega) _).mono ?_; rw [HL1.out])
          rintro e v1 ⟨rfl, hv1⟩
          have V1 := Lib.hid hv1
          clear hv1
          go_wp2_with (go_at_call 9; refine (long_any a3 (by omega) _).mono ?_; rw [HL3.out])
          rintro e v2 ⟨rfl, hv2⟩
          have BV := Lib.hid (V1.out.trans (hv2.mono V1.out.size))
          clear hv2
          go_wp2
          go_ret
          exact ⟨rfl, BV.out⟩
        | false =>
          have HL3 := Lib.hid hl3
          have SH3 := Lib.hid (hasL_short _ hl3)
          clear hl3
          go_enter Tryd.func3, Tryd.ntmps3
          go_wp2_with (go_at_call 7; refine (zb a0 len0 cap0 a1 a2 len2 cap2 a3 _ (by omega)).mono ?_; rintro e wz ⟨rfl, rfl⟩)
          go_wp2_with (go_at_call 8; refine (parts_any a0 len0 cap0 X _ HR0.out (by omega)).mono ?_)
          rw [HP0.out]
          rintro e wz ⟨rfl, rfl⟩
          go_wp2_with (go_at_call 8; refine (parts_any a2 len2 cap2 Y _ HR2.out (by omega)).mono ?_)
          rw [HP2.out]
          rintro e wz ⟨rfl, rfl⟩
          go_wp2_with (go_at_call 9; refine (long_any a1 (by omega) _).mono ?_; rw [HL1.out])
          rintro e v1 ⟨rfl, hv1⟩
          have V1 := Lib.hid hv1
          clear hv1
          go_wp2_with (go_at_call 9; refine (long_any a3 (by omega) _).mono ?_; rw [HL3.out])
          rintro e v2 ⟨rfl, hv2⟩
          have BV := Lib.hid (V1.out.trans (hv2.mono V1.out.size))
          clear hv2
          have R0 := Lib.hid ((HR0.out.below BV.out).more BV.out.size)
          have R2' := Lib.hid ((HR2.out.below BV.out).more BV.out.size)
          go_wp2_with (go_at_call 10; refine (clone_any a0 len0 cap0 X v2 R0.out (by omega) HA0.out).mono ?_)
          rintro e w1 ⟨A1, c1, rfl, hx1, hb1⟩
          have B1 := Lib.hid (BV.out.trans (hb1.mono BV.out.size)); have X1 := Lib.hid hx1
          have R2 := Lib.hid ((R2'.out.below hb1).more hb1.size)
          clear hb1 hx1
          go_wp2_with (go_at_call 10; refine (clone_any a2 len2 cap2 Y w1 R2.out (by omega) HA2.out).mono ?_)
          rintro e w2 ⟨A2, c2, rfl, hy2, hb2⟩
          have B2 := Lib.hid (B1.out.trans (hb2.mono B1.out.size)); have Y2 := Lib.hid hy2
          have X2 := Lib.hid ((X1.out.below hb2).more hb2.size)
          clear hb2 hy2
          have EW := Lib.hid (HE.out.below B2.out)
          go_wp2_with (go_at_call 11; refine (cmp_any A1 len0 c1 X a1 A2 len2 c2 Y a3 w2 X2.out Y2.out (by omega) (by omega) (by omega) (by omega) OX.out OY.out EW.out).mono ?_)
          rintro e w3 ⟨rfl, hb3⟩
          obtain ⟨s, hs⟩ : ∃ s, s = semC X Y a1.data.toList a3.data.toList := ⟨_, rfl⟩
          have HEQ := Lib.hid (show sgn s = mdl X Y a1.data.toList a3.data.toList by rw [hs]; exact sgn_sem X Y _ _ SH1.out SH3.out)
          rw [← hs]
          clear hs
          have BW3 := Lib.hid (B2.out.trans (hb3.mono B2.out.size))
          have Xw3 := Lib.hid ((X2.out.below hb3).more hb3.size)
          have Yw3 := Lib.hid ((Y2.out.below hb3).more hb3.size)
          clear hb3
          go_wp2_with (go_at_call 12; refine (sgn_any _ _).mono ?_)
          rintro e wz ⟨rfl, rfl⟩
          go_wp2_with (go_at_call 13; refine (mdl_any A1 len0 c1 X a1 A2 len2 c2 Y a3 w3 Xw3.out Yw3.out (by omega) (by omega) (by omega) (by omega) SH1.out SH3.out).mono ?_; rw [← HEQ.out])
          rintro e w4 ⟨rfl, hb4⟩
          have BW4 := Lib.hid (BW3.out.trans (hb4.mono BW3.out.size))
          clear hb4
          have hsb : -1 ≤ sgn s ∧ sgn s ≤ 1 := by unfold sgn; split <;> (try split) <;> omega
          generalize sgn s = g at hsb
          go_wp2
          go_ret
          exact ⟨ret_bool (by simp), BW4.out⟩

/-! ### THE ROW's STEP -/
set_option maxRecDepth 100000 in
theorem lifted (os : Os) (started : os.Started) (H : Type) (enc : TypeId × Value → H) :
    ReturnsInHanded {} Tryd.checked os 3 .any (fun w args => (Rows.fnCompareSemverSignMatchesModelSpec.pre enc Tryd.prog Tryd.f3 [] false w args ∧ laidMetH Tryd.prog Rows.fnCompareSemverSignMatchesModelRow.laid w) ∧ sizedMet enc Tryd.prog Tryd.f3 (OpenSpec.ofChange Rows.fnCompareSemverSignMatchesModelSpec) false w args)
      (Rows.fnCompareSemverSignMatchesModelSpec.post enc Tryd.prog Tryd.f3 false true false false) := by
  refine returnsInHanded_of_change_and (C := Tryd.checked) (X := fun w _ => laidMetH Tryd.prog Rows.fnCompareSemverSignMatchesModelRow.laid w) (fun _ _ _ hh h => h.of_heap hh) own started (by kernel_rfl) Tryd.func3
    (ChangeSpec.witness_shaped (enc := enc) (C := Tryd.checked) (os := os) (X := fun w _ => laidMetH Tryd.prog Rows.fnCompareSemverSignMatchesModelRow.laid w) false (World.laidAll Tryd.prog os Rows.fnCompareSemverSignMatchesModelRow.laid) #[.slice none 0 0, .string ByteArray.empty, .slice none 0 0, .string ByteArray.empty] 8 (World.laidAll_os _ _ _)
      (World.shaped_of_ZipB (by kernel_rfl) (by kernel_rfl)) (by kernel_rfl) (by kernel_rfl) (by kernel_rfl)
      (by rw [MakeChecks.laidMetH_plain _ _ _ (by kernel_rfl)]; exact laidMet_laidAll _ (by kernel_rfl) (by kernel_rfl))) ?_
  intro W base args ds gs before hval0 hW _ _ hL _
  have hval : ∀ (j : Nat) t v, Tryd.f3.params[j]? = some t → args[j]? = some v → Value.okWide Tryd.prog W .any base t v := hval0
  have hW' := hW
  obtain ⟨p, q, hA0, hV, rfl, hfz, hnd⟩ := hW
  have hA : DataW.TrodAll enc Tryd.prog W 0 (fun _ => true) true Tryd.f3.params.toList args.toList ds p := hA0
  rw [Tryd.params3] at hA hval
  obtain ⟨v0, vs0, d0, ds0, p0, q0, hargs, rfl, rfl, h0, r0⟩ := trodAll_cons hA
  obtain ⟨v1, vs1, d1, ds1, p1, q1, rfl, rfl, rfl, h1, r1⟩ := trodAll_cons r0
  obtain ⟨v2, vs2, d2, ds2, p2, q2, rfl, rfl, rfl, h2, r2⟩ := trodAll_cons r1
  obtain ⟨v3, vs3, d3, ds3, p3, q3, rfl, rfl, rfl, h3, r3⟩ := trodAll_cons r2
  obtain ⟨rfl, rfl, rfl⟩ := trodAll_nil r3
  obtain rfl : args = #[v0, v1, v2, v3] := by cases args; simp_all
  obtain ⟨rfl, rfl⟩ := trodVars_none hV
  have k0 := h0
  have lt0 : ∀ x ∈ p0, x.block < W.heap.size := by obtain ⟨m, hm⟩ := k0; exact DataW.trod_lt m _ _ _ hm
  have k1 := h1
  have lt1 : ∀ x ∈ p1, x.block < W.heap.size := by obtain ⟨m, hm⟩ := k1; exact DataW.trod_lt m _ _ _ hm
  have k2 := h2
  have lt2 : ∀ x ∈ p2, x.block < W.heap.size := by obtain ⟨m, hm⟩ := k2; exact DataW.trod_lt m _ _ _ hm
  have k3 := h3
  have lt3 : ∀ x ∈ p3, x.block < W.heap.size := by obtain ⟨m, hm⟩ := k3; exact DataW.trod_lt m _ _ _ hm
  obtain ⟨a0, len0, cap0, rfl⟩ := okWide_slice Tryd.underlying22 (hval 0 22 v0 rfl rfl)
  obtain ⟨z0, w0⟩ : ∃ zs, IsRow .i64 W a0 len0 cap0 zs := by
    obtain ⟨fuel, hf⟩ := h0
    rcases open_ints Tryd.underlying22 Tryd.underlying3 (by kernel_rfl) hf with ⟨hcs, _⟩ | ⟨x, l, c, zs, hcs, _, hl, hm, hz, _, hcell, hwz⟩
    · simp [Value.cells] at hcs
      obtain ⟨rfl, rfl, rfl⟩ := hcs
      exact ⟨[], .inl ⟨rfl, rfl, rfl, rfl⟩⟩
    · simp [Value.cells] at hcs
      obtain ⟨rfl, rfl, rfl⟩ := hcs
      exact ⟨zs, .inr ⟨_, rfl, hl, hm, by simpa using hz, hcell, hwz⟩⟩
  obtain ⟨a1, rfl, rfl, rfl, w1⟩ := open_string Tryd.underlying9 (hval 1 9 v1 rfl rfl) h1
  obtain ⟨a2, len2, cap2, rfl⟩ := okWide_slice Tryd.underlying22 (hval 2 22 v2 rfl rfl)
  obtain ⟨z2, w2⟩ : ∃ zs, IsRow .i64 W a2 len2 cap2 zs := by
    obtain ⟨fuel, hf⟩ := h2
    rcases open_ints Tryd.underlying22 Tryd.underlying3 (by kernel_rfl) hf with ⟨hcs, _⟩ | ⟨x, l, c, zs, hcs, _, hl, hm, hz, _, hcell, hwz⟩
    · simp [Value.cells] at hcs
      obtain ⟨rfl, rfl, rfl⟩ := hcs
      exact ⟨[], .inl ⟨rfl, rfl, rfl, rfl⟩⟩
    · simp [Value.cells] at hcs
      obtain ⟨rfl, rfl, rfl⟩ := hcs
      exact ⟨zs, .inr ⟨_, rfl, hl, hm, by simpa using hz, hcell, hwz⟩⟩
  obtain ⟨a3, rfl, rfl, rfl, w3⟩ := open_string Tryd.underlying9 (hval 3 9 v3 rfl rfl) h3
  clear hA0 hval0
  refine (walk a0 len0 cap0 z0 a1 a2 len2 cap2 z2 a3 W w0 w1 w2 w3 (errs_of hL)).mono fun e W' ⟨he, bel⟩ => ?_
  subst he
  exact ⟨_, rfl, _, _, _, [], _, [], hW', trodAll_mk1 (shut_bool Tryd.underlying4 _), (trodAll_cons_mk (Below.trod laidOut (by kernel_rfl) (of_decide_eq_true (by kernel_rfl)) k0 bel lt0) (trodAll_cons_mk (Below.trod laidOut (by kernel_rfl) (of_decide_eq_true (by kernel_rfl)) k1 bel lt1) (trodAll_cons_mk (Below.trod laidOut (by kernel_rfl) (of_decide_eq_true (by kernel_rfl)) k2 bel lt2) (trodAll_cons_mk (Below.trod laidOut (by kernel_rfl) (of_decide_eq_true (by kernel_rfl)) k3 bel lt3) trodAll_mk0)))), rfl, bel.frame _, fun h => by cases h⟩

theorem over : Rows.fnCompareSemverSignMatchesModelRow.holds Tryd.pinned (OpenSpec.ofChange Rows.fnCompareSemverSignMatchesModelSpec) :=
  OpenClaim.holds_of_wide 3 Tryd.f3 rfl rfl rfl rfl rfl rfl rfl ⟨rfl, rfl, rfl, rfl, rfl⟩ rfl rfl rfl rfl rfl (by kernel_rfl) Tryd.func3 (by kernel_rfl)
    (of_decide_eq_true (by kernel_rfl)) (by unfold Func.isWrapper; first | (rw [if_pos (by decide +kernel)]; kernel_rfl) | (rw [if_neg (by decide +kernel)]; exact ⟨rfl, rfl⟩))
    (fun os started H enc _ => lifted os started H enc)

theorem proved : Rows.FnCompareSemverSignMatchesModelCardSaid :=
  Claim7.holds_tied_plain_at .later [] [.data, .data, .data, .sentinel, .sentinel] true (true, "6abbca41a0b07024ba5ab02b48702f68f2ab04d9e0e57b66a6fc50731b6052ac") true over (fun _ h => by cases h) (by kernel_rfl) (fun _ h => by cases h) fnCompareSemverSignMatchesModel_row_tie rfl ⟨rfl, rfl⟩ (by kernel_rfl) rfl
    (fun f fn hf hfn => by
      obtain rfl : f = 3 := Option.some.inj ((show Tryd.prog.funcNamed "github.com/evanw/esbuild/n011_122.FnCompareSemverSignMatchesModel" = some 3 by kernel_rfl).symm.trans hf) |>.symm
      obtain rfl : fn = Tryd.f3 := (Option.some.inj (Tryd.func3.symm.trans hfn)).symm
      exact ⟨by kernel_rfl, fun j t ht => by
        rw [Tryd.params3] at ht
        have hm : t ∈ [22, 9, 22, 9] := by simpa using Array.mem_of_getElem? ht
        have hall : ([22, 9, 22, 9].all fun u => !Tryd.prog.wantsStandIn u) = true := by kernel_rfl
        exact (show Tryd.prog.wantsStandIn t = false by simpa using List.all_eq_true.1 hall t hm)⟩)
    (by kernel_rfl)
#print axioms proved
end Go.Proofs.YtanhijhhceakjaaDoor.fnCompareSemverSignMatchesModel