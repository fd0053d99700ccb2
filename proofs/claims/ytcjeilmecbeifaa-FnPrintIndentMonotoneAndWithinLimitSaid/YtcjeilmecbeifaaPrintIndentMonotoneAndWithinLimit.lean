/-
  PROVED: a deeper indent extends a shallower one; each indent is blanks only, even in number, and within a set line limit.
-/
import Derived.Test.YtcjeilmecbeifaaRows
import Derived.WalkKit
import Derived.ProofKit
import Derived.LoopTactic
import Derived.WalkSpells
import Derived.Deep.Light
import Derived.Test.YtcjeilmecbeifaaPrP
import Derived.OpenShut
import Derived.ShutString
import Derived.ChangeOld
import Derived.Below
namespace Go.Proofs.Ytcjeilmecbeifaa.fnPrintIndentMonotoneAndWithinLimit
open Go.ChangeShapes Go.WideShapes Go.ChangeAt Go.RowKit
open Go.ChangeMaps (open_string shut_string)
set_option linter.unusedVariables false

theorem own : ownKnob Try.prog.godebug = none := by kernel_rfl
theorem laidOut : laidOutB Try.prog = true := by kernel_rfl

/-- WHAT THE WALK IS TOLD OF A SLICE OF INTEGERS THAT CAME IN: it is nil; or it leads to a row of 'cap' cells, the numbers 'zs' (the first 'len' are its elements, the rest its spare room), each fitting its kind. -/
def IsRow (k : IntKind) (w : World) (a : Option Addr) (len cap : Nat) (zs : List Int) : Prop :=
  (a = none ∧ len = 0 ∧ cap = 0 ∧ zs = []) ∨
  ∃ x, a = some x ∧ len ≤ cap ∧ cap ≤ maxLen ∧ zs.length = cap ∧ (∀ i, i < zs.length → w.cell? (x.add i) = some (.int k (zs.getD i 0))) ∧ ∀ n ∈ zs, (Lit.int k n).wf = true

theorem isrow_reads {k : IntKind} {w : World} {a : Option Addr} {len cap : Nat} {zs : List Int} (h : IsRow k w a len cap zs) : Reads w w.heap.size 1 a len ((zs.take len).map (Value.int k)) ∧ (a = none → len = 0) := by
  rcases h with ⟨rfl, rfl, rfl, rfl⟩ | ⟨x, rfl, hl, hm, hz, hc, _⟩
  · exact ⟨Reads.none_, fun _ => rfl⟩
  · refine ⟨⟨by simp; omega, fun hn => ⟨x, rfl, ?_, fun j u hu => ?_⟩⟩, fun h => by cases h⟩
    · have := hc 0 (by omega)
      exact World.block_lt_of_cell? w x (by simpa [Addr.add] using this)
    · have hj : j < len := by
        have := (List.getElem?_eq_some_iff.1 hu).1
        simp at this; omega
      rw [hc j (by omega)]
      rw [List.getElem?_map, List.getElem?_take_of_lt hj, List.getElem?_eq_getElem (by omega)] at hu
      rw [List.getD_eq_getElem?_getD, List.getElem?_eq_getElem (by omega)]
      exact hu

set_option maxRecDepth 100000 in
theorem zb_t (A : Option Addr) (n c : Nat) (l k1 k2 : Int) (w : World) (h : n ≤ 1048576) : Calls Try.prog 15 #[.slice A n c, .int .i64 l, .int .i32 k1, .int .i32 k2] w fun e w' => e = .returned (.bool true) ∧ w = w' := by
  have d1 : decide (1048576 < (n : Int)) = false := by simp; omega
  go_enter Try.func15, Try.ntmps15
  go_wp2
  all_goals first | omega | (go_ret; exact ⟨rfl, rfl⟩)
set_option maxRecDepth 100000 in
theorem zb_f (A : Option Addr) (n c : Nat) (l k1 k2 : Int) (w : World) (hn : n ≤ maxLen) (h : ¬ n ≤ 1048576) : Calls Try.prog 15 #[.slice A n c, .int .i64 l, .int .i32 k1, .int .i32 k2] w fun e w' => e = .returned (.bool false) ∧ w = w' := by
  unfold maxLen at hn
  have d1 : decide (1048576 < (n : Int)) = true := by simp; omega
  go_enter Try.func15, Try.ntmps15
  go_wp2
  all_goals first | omega | (go_ret; exact ⟨rfl, rfl⟩)
theorem own_form {w : World} {B : Nat} {e : TypeId} {A : Option Addr} {n c m : Nat} {xs : List Value} (h : w.ownsRow B e 1 (.slice A n c) m xs) : (A = none → n = 0 ∧ c = 0) ∧ n ≤ c ∧ c ≤ maxLen := by
  rcases h.2 with ⟨hv, h0⟩ | ⟨g, cap, cur, hv, _, _, h1, h2, _⟩
  · injection hv with a b c'
    subst a; subst b; subst c'
    exact ⟨fun _ => ⟨rfl, rfl⟩, by omega, by unfold maxLen; omega⟩
  · injection hv with a b c'
    subst a; subst b; subst c'
    exact ⟨fun h => (by cases h), h1, h2⟩
theorem bl (X : List Int) (k : Nat) : X.map (Value.int .u8) ++ blanks k = (X ++ List.replicate (2 * k) 32).map (Value.int .u8) := by simp [blanks]
theorem cnt_le (lim n : Int) (h : 0 < lim) : 2 * cnt lim n ≤ lim := by unfold cnt; split <;> omega
theorem cnt_mono (lim n m : Int) (h : n ≤ m) : (cnt lim n).toNat ≤ (cnt lim m).toNat := by unfold cnt; split <;> split <;> omega
theorem cnt_top (lim n : Int) (h : n ≤ 65536) : (cnt lim n).toNat ≤ 65536 := by unfold cnt; split <;> omega
theorem pre1 (X : List Int) (n k : Nat) (h : X.length = n) : decide ((X ++ List.replicate (2 * k) 32).take n = X) = true := by
  rw [decide_eq_true_iff]; exact List.take_left' h
theorem pre2 (X : List Int) (k m L : Nat) (h : L = X.length + 2 * k) (hk : k ≤ m) : decide ((X ++ List.replicate (2 * m) 32).take L = X ++ List.replicate (2 * k) 32) = true := by
  rw [decide_eq_true_iff, h, List.take_append, List.take_of_length_le (by omega), show X.length + 2 * k - X.length = 2 * k by omega, List.take_replicate, Nat.min_eq_left (by omega)]
theorem spd (X : List Int) (n k : Nat) (h : X.length = n) : sp ((X ++ List.replicate (2 * k) 32).drop n) = true := by
  rw [List.drop_left' h]; simp [sp]
/-! ### STEP 1: THE WALK: the Go text returns true, AND WRITES NOTHING THAT WAS THERE: 'Below w.heap.size w w'' (Derived/Below.lean: '.refl', '.alloc', '.drew', '.setCell' at a new block, '.trans'). Open each 'IsRow' by 'rcases' AHEAD of 'go_enter'; part every test ahead of the walk. -/
set_option maxHeartbeats 1000000 in
set_option maxRecDepth 100000 in
theorem walk (a0 : Option Addr) (len0 cap0 : Nat) (z0 : List Int) (a1 : Int) (a2 : Int) (a3 : Int) (w : World) (w0 : IsRow .u8 w a0 len0 cap0 z0) (w1 : (Lit.int .i64 a1).wf = true) (w2 : (Lit.int .i32 a2).wf = true) (w3 : (Lit.int .i32 a3).wf = true) :
    Calls Try.prog 4 #[.slice a0 len0 cap0, .int .i64 a1, .int .i32 a2, .int .i32 a3] w fun e w' => e = .returned (.bool true) ∧ Below w.heap.size w w' := by
  simp [Lit.wf, IntKind.min, IntKind.max, IntKind.signed, IntKind.bits] at w1 w2 w3
  obtain ⟨hr, hA⟩ := isrow_reads w0
  have hln : len0 ≤ maxLen := by
    rcases w0 with ⟨_, rfl, _⟩ | ⟨_, _, h1, h2, _⟩
    · unfold maxLen; omega
    · omega
  obtain ⟨X, hX⟩ : ∃ X, X = z0.take len0 := ⟨_, rfl⟩
  rw [← hX] at hr
  have hXl : X.length = len0 := by have := hr.1; simpa using this
  have HR := Lib.hid hr; have HXL := Lib.hid hXl; have HA := Lib.hid hA
  clear hr hX w0 hA hXl
  by_cases hbig : len0 ≤ 1048576
  case neg =>
    go_enter Try.func4, Try.ntmps4
    go_wp2_with (go_at_call 15; refine (zb_f a0 len0 cap0 a1 a2 a3 _ hln hbig).mono ?_; rintro e wz ⟨rfl, rfl⟩)
    go_ret
    exact ⟨rfl, Below.refl _ _⟩
  unfold maxLen at hln
  have e1 : decide (1048576 < (len0 : Int)) = false := by simp; omega
  by_cases h2 : 65536 < a2
  · have e2 : decide (65536 < a2) = true := by simpa using h2
    go_enter Try.func4, Try.ntmps4
    go_wp2_with (go_at_call 15; refine (zb_t a0 len0 cap0 a1 a2 a3 _ hbig).mono ?_; rintro e wz ⟨rfl, rfl⟩)
    all_goals first | omega | (go_ret; exact ⟨rfl, Below.refl _ _⟩)
  have e2 : decide (65536 < a2) = false := by simpa using h2
  by_cases h3 : 65536 < a3
  · have e3 : decide (65536 < a3) = true := by simpa using h3
    go_enter Try.func4, Try.ntmps4
    go_wp2_with (go_at_call 15; refine (zb_t a0 len0 cap0 a1 a2 a3 _ hbig).mono ?_; rintro e wz ⟨rfl, rfl⟩)
    all_goals first | omega | (go_ret; exact ⟨rfl, Below.refl _ _⟩)
  have e3 : decide (65536 < a3) = false := by simpa using h3
  by_cases h4 : a3 < a2
  · have e4 : decide (a3 < a2) = true := by simpa using h4
    go_enter Try.func4, Try.ntmps4
    go_wp2_with (go_at_call 15; refine (zb_t a0 len0 cap0 a1 a2 a3 _ hbig).mono ?_; rintro e wz ⟨rfl, rfl⟩)
    all_goals first | omega | (go_ret; exact ⟨rfl, Below.refl _ _⟩)
  have e4 : decide (a3 < a2) = false := by simpa using h4
  obtain ⟨m1, hm1⟩ : ∃ m, m = (cnt a1 a2).toNat := ⟨_, rfl⟩
  obtain ⟨m2, hm2⟩ : ∃ m, m = (cnt a1 a3).toNat := ⟨_, rfl⟩
  obtain ⟨L1, hL1⟩ : ∃ m, m = len0 + 2 * m1 := ⟨_, rfl⟩
  obtain ⟨L2, hL2⟩ : ∃ m, m = len0 + 2 * m2 := ⟨_, rfl⟩
  have hmm : m1 ≤ m2 := by rw [hm1, hm2]; exact cnt_mono _ _ _ (by omega)
  have ht2 : m2 ≤ 65536 := by rw [hm2]; exact cnt_top _ _ (by omega)
  have hlm1 : a1 ≤ 0 ∨ 2 * (m1 : Int) ≤ a1 := by
    by_cases h : 0 < a1
    · have := cnt_le a1 a2 h; omega
    · omega
  have hlm2 : a1 ≤ 0 ∨ 2 * (m2 : Int) ≤ a1 := by
    by_cases h : 0 < a1
    · have := cnt_le a1 a3 h; omega
    · omega
  have HP1 := Lib.hid (pre1 X len0 m1 HXL.out)
  have HP2 := Lib.hid (pre2 X m1 m2 L1 (by have := HXL.out; omega) hmm)
  have HSP := Lib.hid (spd X len0 m2 HXL.out)
  have HM1 := Lib.hid hm1; have HM2 := Lib.hid hm2
  have k1 : L1 ≤ 2000000 := by omega
  have k2 : L2 ≤ 2000000 := by omega
  have k3 : len0 ≤ L1 := by omega
  have k4 : L1 ≤ L2 := by omega
  have Q1 := Lib.hid hL1; have Q2 := Lib.hid hL2; have Q3 := Lib.hid hlm1; have Q4 := Lib.hid hlm2
  clear hm1 hm2 hL1 hL2 hlm1 hlm2 hmm ht2
  go_enter Try.func4, Try.ntmps4
  go_wp2_with (go_at_call 15; refine (zb_t a0 len0 cap0 a1 a2 a3 _ hbig).mono ?_; rintro e wz ⟨rfl, rfl⟩)
  all_goals try (exfalso; omega)
  go_wp2_with (go_at_call 6; refine (copy_any a0 len0 cap0 X w HR.out (by omega) HA.out).mono ?_)
  rintro e w1 ⟨A1, c1, rfl, hown1, hb1⟩
  have f1 := own_form hown1
  have O1 := Lib.hid hown1; have B1 := Lib.hid hb1; have F1 := Lib.hid f1
  clear hown1 hb1 f1 HR HA
  go_wp2_with (go_at_call 6; refine (copy_any A1 len0 c1 X w1 (Reads.of_own O1.out) (by omega) (fun h => (F1.out.1 h).1)).mono ?_)
  rintro e w2 ⟨A2, c2, rfl, hown2, hb2⟩
  have O2 := Lib.hid hown2; have B2 := Lib.hid hb2
  clear hown2 hb2
  go_wp2_with (go_at_call 7; refine (new_any w1.heap.size A2 len0 c2 (X.map (Value.int .u8)) a1 false false w2 (by simpa using HXL.out) O2.out B2.out.size).mono ?_)
  rintro e w3 ⟨rfl, hp3, hb3⟩
  have P3 := Lib.hid hp3; have B3 := Lib.hid hb3
  clear hp3 hb3
  have P3x := P3.out
  obtain ⟨cs3, hp3⟩ := P3x
  have P3 := Lib.hid hp3
  clear hp3
  go_wp2_with (go_at_call 16; refine (zzindent_any a2 w3 P3.out (by have := B2.out.size; have := B3.out.size; omega) (by omega) (by omega) (by omega) (by omega) (by have := HXL.out; simp; omega)).mono ?_)
  rintro e w4 ⟨rfl, ⟨A4, c4, cs4, hp4⟩, hb4⟩
  rw [bl, ← HM1.out] at hp4
  have hB4 : Below w1.heap.size w1 w4 := (B2.out.trans (B3.out.mono B2.out.size)).trans hb4
  have hX1 : (X ++ List.replicate (2 * m1) 32).length = L1 := by rw [List.length_append, List.length_replicate, HXL.out]; exact Q1.out.symm
  have hown4 := hp4.own
  rw [List.length_map, hX1] at hown4
  have f4 := own_form hown4
  have P4 := Lib.hid hp4; have B4 := Lib.hid hB4; have HX1 := Lib.hid hX1; have O4 := Lib.hid hown4; have F4 := Lib.hid f4
  clear hp4 hB4 hb4 hX1 hown4 f4
  go_wp2_with (go_at_call 9; refine (css_any w4 P4.out L1 (by rw [List.length_map]; exact HX1.out)).mono ?_)
  rintro e w4' ⟨rfl, rfl⟩
  have HR4 : Hid (Reads w4 w4.heap.size 1 A1 len0 (X.map (Value.int .u8))) := Lib.hid (((Reads.of_own O1.out).below B4.out).more B4.out.size)
  go_wp2_with (go_at_call 6; refine (copy_any A1 len0 c1 X w4 HR4.out (by omega) (fun h => (F1.out.1 h).1)).mono ?_)
  rintro e w5 ⟨A5, c5, rfl, hown5, hb5⟩
  have O5 := Lib.hid hown5; have B5 := Lib.hid hb5
  clear hown5 hb5
  go_wp2_with (go_at_call 7; refine (new_any w4.heap.size A5 len0 c5 (X.map (Value.int .u8)) a1 false false w5 (by simpa using HXL.out) O5.out B5.out.size).mono ?_)
  rintro e w6 ⟨rfl, ⟨cs6, hp6⟩, hb6⟩
  have P6 := Lib.hid hp6; have B6 := Lib.hid hb6
  clear hp6 hb6
  go_wp2_with (go_at_call 16; refine (zzindent_any a3 w6 P6.out (by have := B5.out.size; have := B6.out.size; omega) (by omega) (by omega) (by omega) (by omega) (by have := HXL.out; simp; omega)).mono ?_)
  rintro e w7 ⟨rfl, ⟨A7, c7, cs7, hp7⟩, hb7⟩
  rw [bl, ← HM2.out] at hp7
  have hB7 : Below w4.heap.size w4 w7 := (B5.out.trans (B6.out.mono B5.out.size)).trans hb7
  have hX2 : (X ++ List.replicate (2 * m2) 32).length = L2 := by rw [List.length_append, List.length_replicate, HXL.out]; exact Q2.out.symm
  have hown7 := hp7.own
  rw [List.length_map, hX2] at hown7
  have f7 := own_form hown7
  have P7 := Lib.hid hp7; have B7 := Lib.hid hB7; have HX2 := Lib.hid hX2; have O7 := Lib.hid hown7; have F7 := Lib.hid f7
  clear hp7 hB7 hb7 hX2 hown7 f7
  go_wp2_with (go_at_call 9; refine (css_any w7 P7.out L2 (by rw [List.length_map]; exact HX2.out)).mono ?_)
  rintro e w7' ⟨rfl, rfl⟩
  have RC : Hid (Reads w7 w7.heap.size 1 A1 len0 (X.map (Value.int .u8))) := Lib.hid ((HR4.out.below B7.out).more B7.out.size)
  have R1 : Hid (Reads w7 w7.heap.size 1 A4 L1 ((X ++ List.replicate (2 * m1) 32).map (Value.int .u8))) := Lib.hid (((Reads.of_own O4.out).below B7.out).more B7.out.size)
  have R2 : Hid (Reads w7 w7.heap.size 1 A7 L2 ((X ++ List.replicate (2 * m2) 32).map (Value.int .u8))) := Lib.hid (Reads.of_own O7.out)
  go_wp2_with (go_at_call 13; refine (prefix_any A4 L1 c4 _ A1 len0 c1 X w7 R1.out RC.out (by omega) k3 F4.out.2.1 F4.out.1 F4.out.2.2).mono ?_)
  rintro e w8 ⟨rfl, hb8⟩
  rw [HP1.out]
  have B8 := Lib.hid hb8
  clear hb8
  go_wp2_with (go_at_call 13; refine (prefix_any A7 L2 c7 _ A4 L1 c4 _ w8 ((R2.out.below B8.out).more B8.out.size) ((R1.out.below B8.out).more B8.out.size) (by omega) k4 F7.out.2.1 F7.out.1 F7.out.2.2).mono ?_)
  rintro e w9 ⟨rfl, hb9⟩
  rw [HP2.out]
  have B9 := Lib.hid hb9
  clear hb9
  have hfin : Below w.heap.size w w9 := ((B1.out.trans (B4.out.mono B1.out.size)).trans (B7.out.mono (Nat.le_trans B1.out.size B4.out.size))).trans ((B8.out.trans (B9.out.mono B8.out.size)).mono (Nat.le_trans (Nat.le_trans B1.out.size B4.out.size) B7.out.size))
  have BF := Lib.hid hfin
  have R3 : Hid (Reads w9 w9.heap.size 1 A7 L2 ((X ++ List.replicate (2 * m2) 32).map (Value.int .u8))) := Lib.hid ((((R2.out.below B8.out).more B8.out.size).below B9.out).more B9.out.size)
  clear hfin
  have hfc := F7.out.2.1
  have RS : Hid (∀ A', (A' = A7 ∧ L2 = len0) ∨ A' = A7.map (fun x => x.add len0) → Reads w9 w9.heap.size 1 A' (L2 - len0) (((X ++ List.replicate (2 * m2) 32).drop len0).map (Value.int .u8))) := Lib.hid (by
    intro A' h
    have hl := HX2.out
    refine ⟨by rw [List.length_map, List.length_drop, hl]; omega, fun hn => ?_⟩
    rcases h with ⟨_, h⟩ | rfl
    · omega
    · obtain ⟨ad, e, hb, hc⟩ := R3.out.2 (by omega)
      refine ⟨ad.add len0, by rw [e]; rfl, by rw [block_of_add]; exact hb, fun j u hu => ?_⟩
      rw [add_of_add]
      apply hc
      rw [← hu, List.map_drop, List.getElem?_drop])
  go_wp2_with (go_at_call 14; refine (spaces_any _ (L2 - len0) _ ((X ++ List.replicate (2 * m2) 32).drop len0) w9.heap.size w9 (RS.out _ (by first | exact .inr rfl | exact .inl ⟨rfl, by omega⟩)) (by omega)).mono ?_)
  all_goals
    rintro e w10 ⟨rfl, rfl⟩
    rw [HSP.out]
    go_wp2
    all_goals first
      | (exfalso; have q1 := Q1.out; have q2 := Q2.out; have q3 := Q3.out; have q4 := Q4.out; (try simp only [bne_iff_ne, ne_eq] at *); omega)
      | (go_ret; exact ⟨rfl, BF.out⟩)

/-! ### THE ROW's STEP: WRITTEN OUT: LEAVE IT -/
set_option maxRecDepth 100000 in
theorem lifted (os : Os) (started : os.Started) (H : Type) (enc : TypeId × Value → H) :
    ReturnsInHanded {} Try.checked os 4 .any (Rows.fnPrintIndentMonotoneAndWithinLimitSpec.pre6 enc Try.prog Try.f4 Rows.fnPrintIndentMonotoneAndWithinLimitRow.domain false) (Rows.fnPrintIndentMonotoneAndWithinLimitSpec.post enc Try.prog Try.f4 false true false false) := by
  refine returnsInHanded_of_change (C := Try.checked) own started (by kernel_rfl) Try.func4
    (ChangeSpec.witness6 (enc := enc) (C := Try.checked) false ⟨#[], #[.slice none 0 0, .int .i64 0, .int .i32 0, .int .i32 0], []⟩ 8 (by kernel_rfl) (by kernel_rfl) (by kernel_rfl) (by kernel_rfl)) ?_
  intro W base args ds gs before hval0 hW hcnd _
  have hval : ∀ (j : Nat) t v, Try.f4.params[j]? = some t → args[j]? = some v → Value.okWide Try.prog W .any base t v := hval0
  have hW' := hW
  obtain ⟨p, q, hA0, hV, rfl, hfz, hnd⟩ := hW
  have hA : DataW.TrodAll enc Try.prog W 0 (fun _ => true) true Try.f4.params.toList args.toList ds p := hA0
  rw [Try.params4] at hA hval
  obtain ⟨v0, vs0, d0, ds0, p0, q0, hargs, rfl, rfl, h0, r0⟩ := trodAll_cons hA
  obtain ⟨v1, vs1, d1, ds1, p1, q1, rfl, rfl, rfl, h1, r1⟩ := trodAll_cons r0
  obtain ⟨v2, vs2, d2, ds2, p2, q2, rfl, rfl, rfl, h2, r2⟩ := trodAll_cons r1
  obtain ⟨v3, vs3, d3, ds3, p3, q3, rfl, rfl, rfl, h3, r3⟩ := trodAll_cons r2
  obtain ⟨rfl, rfl, rfl⟩ := trodAll_nil r3
  obtain rfl : args = #[v0, v1, v2, v3] := by cases args; simp_all
  obtain ⟨rfl, rfl⟩ := trodVars_none hV
  obtain ⟨a0, len0, cap0, rfl⟩ := okWide_slice Try.underlying22 (hval 0 22 v0 rfl rfl)
  have k0 := h0
  have lt0 : ∀ x ∈ p0, x.block < W.heap.size := by obtain ⟨m, hm⟩ := k0; exact DataW.trod_lt m _ _ _ hm
  obtain ⟨z0, w0⟩ : ∃ zs, IsRow .u8 W a0 len0 cap0 zs := by
    obtain ⟨fuel, hf⟩ := h0
    rcases open_ints Try.underlying22 Try.underlying5 (by kernel_rfl) hf with ⟨hcs, _⟩ | ⟨x, l, c, zs, hcs, _, hl, hm, hz, _, hcell, hwz⟩
    · simp [Value.cells] at hcs
      obtain ⟨rfl, rfl, rfl⟩ := hcs
      exact ⟨[], .inl ⟨rfl, rfl, rfl, rfl⟩⟩
    · simp [Value.cells] at hcs
      obtain ⟨rfl, rfl, rfl⟩ := hcs
      exact ⟨zs, .inr ⟨_, rfl, hl, hm, by simpa using hz, hcell, hwz⟩⟩
  obtain ⟨a1, rfl, rfl, rfl, w1⟩ := open_int Try.underlying3 (hval 1 3 v1 rfl rfl) h1
  obtain ⟨a2, rfl, rfl, rfl, w2⟩ := open_int Try.underlying21 (hval 2 21 v2 rfl rfl) h2
  obtain ⟨a3, rfl, rfl, rfl, w3⟩ := open_int Try.underlying21 (hval 3 21 v3 rfl rfl) h3
  clear hA0 hval0
  refine (walk a0 len0 cap0 z0 a1 a2 a3 W w0 w1 w2 w3).mono fun e W' ⟨he, bel⟩ => ?_
  subst he
  exact ⟨_, rfl, _, _, _, [], _, [], hW', trodAll_mk1 (shut_bool Try.underlying4 _), (trodAll_cons_mk (Below.trod laidOut (by kernel_rfl) (of_decide_eq_true (by kernel_rfl)) k0 bel lt0) (trodAll_cons_mk (shut_int Try.underlying3 w1) (trodAll_cons_mk (shut_int Try.underlying21 w2) (trodAll_cons_mk (shut_int Try.underlying21 w3) trodAll_mk0)))), rfl, bel.frame _, fun h => by cases h⟩

theorem over : Rows.fnPrintIndentMonotoneAndWithinLimitRow.holds Try.pinned (OpenSpec.ofChange Rows.fnPrintIndentMonotoneAndWithinLimitSpec) :=
  OpenClaim.holds_of_wide 4 Try.f4 rfl rfl rfl rfl rfl rfl rfl ⟨rfl, rfl, rfl, rfl, rfl⟩ rfl rfl rfl rfl rfl (by kernel_rfl) Try.func4 (by kernel_rfl)
    (of_decide_eq_true (by kernel_rfl)) (by unfold Func.isWrapper; first | (rw [if_pos (by decide +kernel)]; kernel_rfl) | (rw [if_neg (by decide +kernel)]; exact ⟨rfl, rfl⟩))
    (fun os started H enc _ => lifted os started H enc)

/-- ████ THE STATEMENT ████ -/
theorem proved : Rows.FnPrintIndentMonotoneAndWithinLimitSaid := over
#print axioms proved
end Go.Proofs.Ytcjeilmecbeifaa.fnPrintIndentMonotoneAndWithinLimit
