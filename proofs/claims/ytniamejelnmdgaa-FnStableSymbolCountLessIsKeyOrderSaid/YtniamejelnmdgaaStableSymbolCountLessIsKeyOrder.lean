/-
  PROVED: for all uint32 values (two entries of four each) the law FnStableSymbolCountLessIsKeyOrder returns true and changes no argument. Conditions: none.
-/
import Derived.Test.YtniamejelnmdgaaRows
import Derived.WalkKit
import Derived.ProofKit
import Derived.Lib.Hide
import Derived.BigRegion
import Derived.Laws.BitsAllLaws
import Derived.Outline
import Derived.OpenShut
import Derived.ShutString
namespace Go.Proofs.Ytniamejelnmdgaa.fnStableSymbolCountLessIsKeyOrder
open Go.ChangeShapes Go.WideShapes Go.ChangeAt Go.RowKit
open Go.ChangeMaps (open_string shut_string)
set_option linter.unusedVariables false      -- a walk need not use every 'w<i>' (that an integer argument fits its kind)

theorem own : ownKnob Try.prog.godebug = none := by kernel_rfl

set_option maxRecDepth 100000 in
theorem less_true (c1 s1 p1 i1 c2 s2 p2 i2 : Int) (b : Nat) (w : World) (hb : b < w.heap.size) (h0 : w.cell? ⟨b, 0, none⟩ = some (.int .u32 s1)) (h1 : w.cell? ⟨b, 1, none⟩ = some (.int .u32 p1)) (h2 : w.cell? ⟨b, 2, none⟩ = some (.int .u32 i1)) (h3 : w.cell? ⟨b, 3, none⟩ = some (.int .u32 c1))
    (h4 : w.cell? ⟨b, 4, none⟩ = some (.int .u32 s2)) (h5 : w.cell? ⟨b, 5, none⟩ = some (.int .u32 p2)) (h6 : w.cell? ⟨b, 6, none⟩ = some (.int .u32 i2)) (h7 : w.cell? ⟨b, 7, none⟩ = some (.int .u32 c2)) (hc : c2 < c1 ∨ c1 = c2 ∧ (s1 < s2 ∨ s1 = s2 ∧ i1 < i2)) :
    Calls Try.prog 15 #[.slice (some ⟨b, 0, none⟩) 2 2, .int .i64 0, .int .i64 1] w fun e w' => e = .returned (.bool true) ∧ Grown w w' := by
  rcases hc with hc | ⟨rfl, hc | ⟨rfl, hc⟩⟩
  · go_enter Try.func15, Try.ntmps15
    go_wp2
    go_region
    all_goals (go_wp2; go_ret; exact ⟨rfl, by repeat (first | exact Grown.refl _ | apply Grown.drew | apply Grown.alloc)⟩)
  · go_enter Try.func15, Try.ntmps15
    go_wp2
    go_region
    all_goals (go_wp2; go_ret; exact ⟨rfl, by repeat (first | exact Grown.refl _ | apply Grown.drew | apply Grown.alloc)⟩)
  · go_enter Try.func15, Try.ntmps15
    go_wp2
    go_region
    all_goals (go_wp2; go_ret; exact ⟨rfl, by repeat (first | exact Grown.refl _ | apply Grown.drew | apply Grown.alloc)⟩)

set_option maxRecDepth 100000 in
theorem less_false (c1 s1 p1 i1 c2 s2 p2 i2 : Int) (b : Nat) (w : World) (hb : b < w.heap.size) (h0 : w.cell? ⟨b, 0, none⟩ = some (.int .u32 s1)) (h1 : w.cell? ⟨b, 1, none⟩ = some (.int .u32 p1)) (h2 : w.cell? ⟨b, 2, none⟩ = some (.int .u32 i1)) (h3 : w.cell? ⟨b, 3, none⟩ = some (.int .u32 c1))
    (h4 : w.cell? ⟨b, 4, none⟩ = some (.int .u32 s2)) (h5 : w.cell? ⟨b, 5, none⟩ = some (.int .u32 p2)) (h6 : w.cell? ⟨b, 6, none⟩ = some (.int .u32 i2)) (h7 : w.cell? ⟨b, 7, none⟩ = some (.int .u32 c2)) (hc : c1 < c2 ∨ c1 = c2 ∧ (s2 < s1 ∨ s1 = s2 ∧ i2 ≤ i1)) :
    Calls Try.prog 15 #[.slice (some ⟨b, 0, none⟩) 2 2, .int .i64 0, .int .i64 1] w fun e w' => e = .returned (.bool false) ∧ Grown w w' := by
  rcases hc with hc | ⟨rfl, hc | ⟨rfl, hc⟩⟩
  · go_enter Try.func15, Try.ntmps15
    go_wp2
    go_region
    all_goals (go_wp2; go_ret; exact ⟨rfl, by repeat (first | exact Grown.refl _ | apply Grown.drew | apply Grown.alloc)⟩)
  · go_enter Try.func15, Try.ntmps15
    go_wp2
    go_region
    all_goals (go_wp2; go_ret; exact ⟨rfl, by repeat (first | exact Grown.refl _ | apply Grown.drew | apply Grown.alloc)⟩)
  · have hd : decide (i1 < i2) = false := by simp; omega
    go_enter Try.func15, Try.ntmps15
    go_wp2
    go_region
    all_goals (go_wp2; go_ret; exact ⟨rfl, by repeat (first | exact Grown.refl _ | apply Grown.drew | apply Grown.alloc)⟩)

theorem not32 (a : Int) (h : 0 ≤ a) (h' : a < 4294967296) : bits BinOp.xor IntKind.u32 (if IntKind.u32.signed = true then -1 else IntKind.u32.max) a = 4294967295 - a := by
  obtain ⟨n, rfl⟩ := Int.eq_ofNat_of_zero_le h
  have hn : n < 4294967296 := by omega
  show IntKind.u32.wrap ((BitVec.ofInt 32 IntKind.u32.max ^^^ BitVec.ofInt 32 (n : Int)).toNat : Int) = _
  have e : BitVec.ofInt 32 IntKind.u32.max = BitVec.allOnes 32 := by decide
  rw [e, BitVec.allOnes_xor, BitVec.toNat_not, ofInt_u32 n hn, IntKind.wrap_u32]
  omega
theorem join (a s : Int) (h : 0 ≤ a) (h' : a < 4294967296) (hs : 0 ≤ s) (hs' : s < 4294967296) : bits BinOp.or IntKind.u64 (a * 4294967296) s = a * 4294967296 + s := by
  obtain ⟨n, rfl⟩ := Int.eq_ofNat_of_zero_le h
  obtain ⟨m, rfl⟩ := Int.eq_ofNat_of_zero_le hs
  have e := u64_or_nat (n * 4294967296) m (by omega) (by omega)
  rw [show ((n * 4294967296 : Nat) : Int) = (n : Int) * 4294967296 by simp] at e
  rw [e, nat_join 32 (n * 4294967296) m (by omega) (by omega)]
  simp
def key (a s : Int) : Int := (4294967295 - a) * 4294967296 + s
theorem key_lt1 (a s b t : Int) (hs : s < 4294967296) (ht : 0 ≤ t) (h : b < a) : key a s < key b t := by unfold key; omega
theorem grown_trans {a b c : World} (h : Grown a b) (k : Grown b c) : Grown a c :=
  ⟨World.keptBut_trans h.1 k.1, fun x => (k.2.1 x).trans (h.2.1 x), Nat.le_trans h.2.2 k.2.2⟩
theorem key_lt2 (a s t : Int) (h : s < t) : key a s < key a t := by unfold key; omega
set_option maxRecDepth 100000 in
theorem way1 (a0 a1 a2 a3 a4 a5 a6 a7 : Int) (r0 : 0 ≤ a0 ∧ a0 ≤ 4294967295) (r1 : 0 ≤ a1 ∧ a1 ≤ 4294967295) (r4 : 0 ≤ a4 ∧ a4 ≤ 4294967295) (r5 : 0 ≤ a5 ∧ a5 ≤ 4294967295) (w : World) (k1 : decide (key a0 a1 < key a4 a5) = true)
    (HL : Hid (a4 < a0 ∨ a0 = a4 ∧ (a1 < a5 ∨ a1 = a5 ∧ a3 < a7))) :
    Calls Try.prog 5 #[.int .u32 a0, .int .u32 a1, .int .u32 a2, .int .u32 a3, .int .u32 a4, .int .u32 a5, .int .u32 a6, .int .u32 a7] w fun e w' => e = .returned (.bool true) ∧ Grown w w' := by
  have x0 := not32 a0 (by omega) (by omega)
  have x4 := not32 a4 (by omega) (by omega)
  have y0 : bits BinOp.or IntKind.u64 ((4294967295 - a0) * 4294967296) a1 = key a0 a1 := join (4294967295 - a0) a1 (by omega) (by omega) (by omega) (by omega)
  have y4 : bits BinOp.or IntKind.u64 ((4294967295 - a4) * 4294967296) a5 = key a4 a5 := join (4294967295 - a4) a5 (by omega) (by omega) (by omega) (by omega)
  go_enter Try.func5, Try.ntmps5
  go_wp2_with (go_at_call 15; refine (less_true a0 a1 a2 a3 a4 a5 a6 a7 _ _ ?_ ?_ ?_ ?_ ?_ ?_ ?_ ?_ ?_ HL.out).mono ?_)
  any_goals (go_simp; done)
  rintro e w' ⟨rfl, hg⟩
  go_wp2
  go_ret
  exact ⟨rfl, grown_trans ((Grown.refl w).alloc _ _) hg⟩
set_option maxRecDepth 100000 in
theorem way2 (a0 a1 a2 a3 a4 a5 a6 a7 : Int) (r0 : 0 ≤ a0 ∧ a0 ≤ 4294967295) (r1 : 0 ≤ a1 ∧ a1 ≤ 4294967295) (r4 : 0 ≤ a4 ∧ a4 ≤ 4294967295) (r5 : 0 ≤ a5 ∧ a5 ≤ 4294967295) (w : World) (k1 : decide (key a0 a1 < key a4 a5) = false)(k2 : (key a0 a1 == key a4 a5) = true)(k3 : decide (a3 < a7) = true)
    (HL : Hid (a4 < a0 ∨ a0 = a4 ∧ (a1 < a5 ∨ a1 = a5 ∧ a3 < a7))) :
    Calls Try.prog 5 #[.int .u32 a0, .int .u32 a1, .int .u32 a2, .int .u32 a3, .int .u32 a4, .int .u32 a5, .int .u32 a6, .int .u32 a7] w fun e w' => e = .returned (.bool true) ∧ Grown w w' := by
  have x0 := not32 a0 (by omega) (by omega)
  have x4 := not32 a4 (by omega) (by omega)
  have y0 : bits BinOp.or IntKind.u64 ((4294967295 - a0) * 4294967296) a1 = key a0 a1 := join (4294967295 - a0) a1 (by omega) (by omega) (by omega) (by omega)
  have y4 : bits BinOp.or IntKind.u64 ((4294967295 - a4) * 4294967296) a5 = key a4 a5 := join (4294967295 - a4) a5 (by omega) (by omega) (by omega) (by omega)
  go_enter Try.func5, Try.ntmps5
  go_wp2_with (go_at_call 15; refine (less_true a0 a1 a2 a3 a4 a5 a6 a7 _ _ ?_ ?_ ?_ ?_ ?_ ?_ ?_ ?_ ?_ HL.out).mono ?_)
  any_goals (go_simp; done)
  rintro e w' ⟨rfl, hg⟩
  go_wp2
  go_ret
  exact ⟨rfl, grown_trans ((Grown.refl w).alloc _ _) hg⟩
set_option maxRecDepth 100000 in
theorem way3 (a0 a1 a2 a3 a4 a5 a6 a7 : Int) (r0 : 0 ≤ a0 ∧ a0 ≤ 4294967295) (r1 : 0 ≤ a1 ∧ a1 ≤ 4294967295) (r4 : 0 ≤ a4 ∧ a4 ≤ 4294967295) (r5 : 0 ≤ a5 ∧ a5 ≤ 4294967295) (w : World) (k1 : decide (key a0 a1 < key a4 a5) = false)(k2 : (key a0 a1 == key a4 a5) = true)(k3 : decide (a3 < a7) = false)
    (HL : Hid (a0 < a4 ∨ a0 = a4 ∧ (a5 < a1 ∨ a1 = a5 ∧ a7 ≤ a3))) :
    Calls Try.prog 5 #[.int .u32 a0, .int .u32 a1, .int .u32 a2, .int .u32 a3, .int .u32 a4, .int .u32 a5, .int .u32 a6, .int .u32 a7] w fun e w' => e = .returned (.bool true) ∧ Grown w w' := by
  have x0 := not32 a0 (by omega) (by omega)
  have x4 := not32 a4 (by omega) (by omega)
  have y0 : bits BinOp.or IntKind.u64 ((4294967295 - a0) * 4294967296) a1 = key a0 a1 := join (4294967295 - a0) a1 (by omega) (by omega) (by omega) (by omega)
  have y4 : bits BinOp.or IntKind.u64 ((4294967295 - a4) * 4294967296) a5 = key a4 a5 := join (4294967295 - a4) a5 (by omega) (by omega) (by omega) (by omega)
  go_enter Try.func5, Try.ntmps5
  go_wp2_with (go_at_call 15; refine (less_false a0 a1 a2 a3 a4 a5 a6 a7 _ _ ?_ ?_ ?_ ?_ ?_ ?_ ?_ ?_ ?_ HL.out).mono ?_)
  any_goals (go_simp; done)
  rintro e w' ⟨rfl, hg⟩
  go_wp2
  go_ret
  exact ⟨rfl, grown_trans ((Grown.refl w).alloc _ _) hg⟩
set_option maxRecDepth 100000 in
theorem way4 (a0 a1 a2 a3 a4 a5 a6 a7 : Int) (r0 : 0 ≤ a0 ∧ a0 ≤ 4294967295) (r1 : 0 ≤ a1 ∧ a1 ≤ 4294967295) (r4 : 0 ≤ a4 ∧ a4 ≤ 4294967295) (r5 : 0 ≤ a5 ∧ a5 ≤ 4294967295) (w : World) (k1 : decide (key a0 a1 < key a4 a5) = false)(k2 : (key a0 a1 == key a4 a5) = false)
    (HL : Hid (a0 < a4 ∨ a0 = a4 ∧ (a5 < a1 ∨ a1 = a5 ∧ a7 ≤ a3))) :
    Calls Try.prog 5 #[.int .u32 a0, .int .u32 a1, .int .u32 a2, .int .u32 a3, .int .u32 a4, .int .u32 a5, .int .u32 a6, .int .u32 a7] w fun e w' => e = .returned (.bool true) ∧ Grown w w' := by
  have x0 := not32 a0 (by omega) (by omega)
  have x4 := not32 a4 (by omega) (by omega)
  have y0 : bits BinOp.or IntKind.u64 ((4294967295 - a0) * 4294967296) a1 = key a0 a1 := join (4294967295 - a0) a1 (by omega) (by omega) (by omega) (by omega)
  have y4 : bits BinOp.or IntKind.u64 ((4294967295 - a4) * 4294967296) a5 = key a4 a5 := join (4294967295 - a4) a5 (by omega) (by omega) (by omega) (by omega)
  go_enter Try.func5, Try.ntmps5
  go_wp2_with (go_at_call 15; refine (less_false a0 a1 a2 a3 a4 a5 a6 a7 _ _ ?_ ?_ ?_ ?_ ?_ ?_ ?_ ?_ ?_ HL.out).mono ?_)
  any_goals (go_simp; done)
  rintro e w' ⟨rfl, hg⟩
  go_wp2
  go_ret
  exact ⟨rfl, grown_trans ((Grown.refl w).alloc _ _) hg⟩
/-! ### STEP 1: THE WALK: the Go text returns true. 'Grown w w'': the world has at most new blocks (Derived/RowKit3.lean). Part the cases AHEAD of 'go_enter' where a test parts the walk; take each callee by a contract of your own. -/
set_option maxRecDepth 100000 in
theorem walk (a0 : Int) (a1 : Int) (a2 : Int) (a3 : Int) (a4 : Int) (a5 : Int) (a6 : Int) (a7 : Int) (w0 : (Lit.int .u32 a0).wf = true) (w1 : (Lit.int .u32 a1).wf = true) (w2 : (Lit.int .u32 a2).wf = true) (w3 : (Lit.int .u32 a3).wf = true) (w4 : (Lit.int .u32 a4).wf = true) (w5 : (Lit.int .u32 a5).wf = true) (w6 : (Lit.int .u32 a6).wf = true) (w7 : (Lit.int .u32 a7).wf = true) (w : World) :
    Calls Try.prog 5 #[.int .u32 a0, .int .u32 a1, .int .u32 a2, .int .u32 a3, .int .u32 a4, .int .u32 a5, .int .u32 a6, .int .u32 a7] w fun e w' => e = .returned (.bool true) ∧ Grown w w' := by
  simp [Lit.wf, IntKind.min, IntKind.max, IntKind.signed, IntKind.bits] at w0 w1 w2 w3 w4 w5 w6 w7
  rcases Int.lt_trichotomy a4 a0 with h | h | h
  · exact way1 a0 a1 a2 a3 a4 a5 a6 a7 w0 w1 w4 w5 w (by unfold key; simp; omega) (.inl h)
  · rcases Int.lt_trichotomy a1 a5 with g | g | g
    · exact way1 a0 a1 a2 a3 a4 a5 a6 a7 w0 w1 w4 w5 w (by unfold key; simp; omega) (.inr ⟨h.symm, .inl g⟩)
    · by_cases f : a3 < a7
      · exact way2 a0 a1 a2 a3 a4 a5 a6 a7 w0 w1 w4 w5 w (by unfold key; simp; omega) (by unfold key; simp; omega) (by simp; omega) (.inr ⟨h.symm, .inr ⟨g, f⟩⟩)
      · exact way3 a0 a1 a2 a3 a4 a5 a6 a7 w0 w1 w4 w5 w (by unfold key; simp; omega) (by unfold key; simp; omega) (by simp; omega) (.inr ⟨h.symm, .inr ⟨g, by omega⟩⟩)
    · exact way4 a0 a1 a2 a3 a4 a5 a6 a7 w0 w1 w4 w5 w (by unfold key; simp; omega) (by unfold key; simp; omega) (.inr ⟨h.symm, .inl g⟩)
  · exact way4 a0 a1 a2 a3 a4 a5 a6 a7 w0 w1 w4 w5 w (by unfold key; simp; omega) (by unfold key; simp; omega) (.inl h)

/-! ### THE ROW's STEP: WRITTEN OUT: LEAVE IT -/
set_option maxRecDepth 100000 in
theorem lifted (os : Os) (started : os.Started) (H : Type) (enc : TypeId × Value → H) :
    ReturnsInHanded {} Try.checked os 5 .any (Rows.fnStableSymbolCountLessIsKeyOrderSpec.pre6 enc Try.prog Try.f5 Rows.fnStableSymbolCountLessIsKeyOrderRow.domain false) (Rows.fnStableSymbolCountLessIsKeyOrderSpec.post enc Try.prog Try.f5 false true false false) := by
  refine returnsInHanded_of_change (C := Try.checked) own started (by kernel_rfl) Try.func5
    (ChangeSpec.witness6 (enc := enc) (C := Try.checked) false ⟨#[], #[.int .u32 0, .int .u32 0, .int .u32 0, .int .u32 0, .int .u32 0, .int .u32 0, .int .u32 0, .int .u32 0], []⟩ 8 (by kernel_rfl) (by kernel_rfl) (by kernel_rfl) (by kernel_rfl)) ?_
  intro W base args ds gs before hval0 hW hcnd _
  have hval : ∀ (j : Nat) t v, Try.f5.params[j]? = some t → args[j]? = some v → Value.okWide Try.prog W .any base t v := hval0
  have hW' := hW
  obtain ⟨p, q, hA0, hV, rfl, hfz, hnd⟩ := hW
  have hA : DataW.TrodAll enc Try.prog W 0 (fun _ => true) true Try.f5.params.toList args.toList ds p := hA0
  rw [Try.params5] at hA hval
  obtain ⟨v0, vs0, d0, ds0, p0, q0, hargs, rfl, rfl, h0, r0⟩ := trodAll_cons hA
  obtain ⟨v1, vs1, d1, ds1, p1, q1, rfl, rfl, rfl, h1, r1⟩ := trodAll_cons r0
  obtain ⟨v2, vs2, d2, ds2, p2, q2, rfl, rfl, rfl, h2, r2⟩ := trodAll_cons r1
  obtain ⟨v3, vs3, d3, ds3, p3, q3, rfl, rfl, rfl, h3, r3⟩ := trodAll_cons r2
  obtain ⟨v4, vs4, d4, ds4, p4, q4, rfl, rfl, rfl, h4, r4⟩ := trodAll_cons r3
  obtain ⟨v5, vs5, d5, ds5, p5, q5, rfl, rfl, rfl, h5, r5⟩ := trodAll_cons r4
  obtain ⟨v6, vs6, d6, ds6, p6, q6, rfl, rfl, rfl, h6, r6⟩ := trodAll_cons r5
  obtain ⟨v7, vs7, d7, ds7, p7, q7, rfl, rfl, rfl, h7, r7⟩ := trodAll_cons r6
  obtain ⟨rfl, rfl, rfl⟩ := trodAll_nil r7
  obtain rfl : args = #[v0, v1, v2, v3, v4, v5, v6, v7] := by cases args; simp_all
  obtain ⟨rfl, rfl⟩ := trodVars_none hV
  obtain ⟨a0, rfl, rfl, rfl, w0⟩ := open_int Try.underlying32 (hval 0 32 v0 rfl rfl) h0
  obtain ⟨a1, rfl, rfl, rfl, w1⟩ := open_int Try.underlying32 (hval 1 32 v1 rfl rfl) h1
  obtain ⟨a2, rfl, rfl, rfl, w2⟩ := open_int Try.underlying32 (hval 2 32 v2 rfl rfl) h2
  obtain ⟨a3, rfl, rfl, rfl, w3⟩ := open_int Try.underlying32 (hval 3 32 v3 rfl rfl) h3
  obtain ⟨a4, rfl, rfl, rfl, w4⟩ := open_int Try.underlying32 (hval 4 32 v4 rfl rfl) h4
  obtain ⟨a5, rfl, rfl, rfl, w5⟩ := open_int Try.underlying32 (hval 5 32 v5 rfl rfl) h5
  obtain ⟨a6, rfl, rfl, rfl, w6⟩ := open_int Try.underlying32 (hval 6 32 v6 rfl rfl) h6
  obtain ⟨a7, rfl, rfl, rfl, w7⟩ := open_int Try.underlying32 (hval 7 32 v7 rfl rfl) h7
  clear hA0 hval0
  simp only [List.append_nil] at hW'
  refine (walk a0 a1 a2 a3 a4 a5 a6 a7 w0 w1 w2 w3 w4 w5 w6 w7 W).mono fun e W' ⟨he, hg⟩ => ?_
  subst he
  exact ⟨_, rfl, post_of_same (pa := []) (pv := []) hW' (fun _ _ _ => (trodAll_cons_mk (shut_bool Try.underlying4 _) trodAll_mk0)) (fun sp _ => (trodAll_cons_mk (shut_int Try.underlying32 w0) (trodAll_cons_mk (shut_int Try.underlying32 w1) (trodAll_cons_mk (shut_int Try.underlying32 w2) (trodAll_cons_mk (shut_int Try.underlying32 w3) (trodAll_cons_mk (shut_int Try.underlying32 w4) (trodAll_cons_mk (shut_int Try.underlying32 w5) (trodAll_cons_mk (shut_int Try.underlying32 w6) (trodAll_cons_mk (shut_int Try.underlying32 w7) trodAll_mk0))))))))) (fun _ _ => rfl) rfl
    (hg.frame _) hg.2.1 (ok_one (by kernel_rfl) rfl (okWide_bool_mk Try.underlying4 _))⟩

theorem over : Rows.fnStableSymbolCountLessIsKeyOrderRow.holds Try.pinned (OpenSpec.ofChange Rows.fnStableSymbolCountLessIsKeyOrderSpec) :=
  OpenClaim.holds_of_wide 5 Try.f5 rfl rfl rfl rfl rfl rfl rfl ⟨rfl, rfl, rfl, rfl, rfl⟩ rfl rfl rfl rfl rfl (by kernel_rfl) Try.func5 (by kernel_rfl)
    (of_decide_eq_true (by kernel_rfl)) (by unfold Func.isWrapper; first | (rw [if_pos (by decide +kernel)]; kernel_rfl) | (rw [if_neg (by decide +kernel)]; exact ⟨rfl, rfl⟩))
    (fun os started H enc _ => lifted os started H enc)

/-- ████ THE STATEMENT ████ -/
theorem proved : Rows.FnStableSymbolCountLessIsKeyOrderSaid :=
  over
#print axioms proved
end Go.Proofs.Ytniamejelnmdgaa.fnStableSymbolCountLessIsKeyOrder
