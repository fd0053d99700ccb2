/-
  PROVED: Swap exchanges the entries at i and j, both fields together, and leaves every other entry as it was.
-/
import Derived.Test.YtenpbcaoelnamaaRows
import Derived.WalkKit
import Derived.ProofKit
import Derived.Outline
import Derived.Deep.QuietTactic
import Derived.BigQuiet
import Derived.BigRegion
import Derived.LoopTactic
import Derived.WalkSpells
import Derived.Deep.Light
import Derived.Test.YtenpbcaoelnamaaCln
import Derived.Test.YtenpbcaoelnamaaSwq
import Derived.OpenShut
import Derived.ShutString
import Derived.ChangeOld
import Derived.Below
namespace Go.Proofs.Ytenpbcaoelnamaa.fnSlotSwapExchangesTwo
open Go.ChangeShapes Go.WideShapes Go.ChangeAt Go.RowKit
open Go.ChangeMaps (open_string shut_string)
set_option linter.unusedVariables false
set_option linter.unusedSimpArgs false

theorem own : ownKnob Try.prog.godebug = none := by kernel_rfl
theorem laidOut : laidOutB Try.prog = true := by kernel_rfl

/-- WHAT THE WALK IS TOLD OF A SLICE OF INTEGERS THAT CAME IN: it is nil; or it leads to a row of 'cap' cells, the numbers 'zs' (the first 'len' are its elements, the rest its spare room), each fitting its kind. -/
def IsRow (k : IntKind) (w : World) (a : Option Addr) (len cap : Nat) (zs : List Int) : Prop :=
  (a = none ∧ len = 0 ∧ cap = 0 ∧ zs = []) ∨
  ∃ x, a = some x ∧ len ≤ cap ∧ cap ≤ maxLen ∧ zs.length = cap ∧ (∀ i, i < zs.length → w.cell? (x.add i) = some (.int k (zs.getD i 0))) ∧ ∀ n ∈ zs, (Lit.int k n).wf = true

theorem isrow_reads {k : IntKind} {w : World} {a : Option Addr} {len cap : Nat} {zs : List Int} (h : IsRow k w a len cap zs) : Reads w w.heap.size 1 a len ((zs.take len).map (Value.int k)) ∧ (a = none → len = 0) := by
  rcases h with ⟨rfl, rfl, rfl, rfl⟩ | ⟨x, rfl, hl, hm, hz, hc, _⟩
  · exact ⟨Reads.none_, fun _ => rfl⟩
  · refine ⟨⟨by simp; omega, fun hn => ⟨x, rfl, ?_, fun j u hu => ?_⟩⟩, fun h => by cases h⟩
    · have := hc 0 (by omega)
      exact World.block_lt_of_cell? w x (by simpa [Addr.add] using this)
    · have hj : j < len := by
        have := (List.getElem?_eq_some_iff.1 hu).1
        simp at this; omega
      rw [hc j (by omega)]
      rw [List.getElem?_map, List.getElem?_take_of_lt hj, List.getElem?_eq_getElem (by omega)] at hu
      rw [List.getD_eq_getElem?_getD, List.getElem?_eq_getElem (by omega)]
      exact hu

set_option maxRecDepth 100000 in
theorem zb (A : Option Addr) (n c : Nat) (B : Option Addr) (m d : Nat) (i j : Int) (w : World) (hn : n ≤ maxLen) (hm : m ≤ maxLen) :
    Calls Try.prog 6 #[.slice A n c, .slice B m d, .int .i64 i, .int .i64 j] w fun e w' => e = .returned (.bool (decide (n + m ≤ 1048576))) ∧ w = w' := by
  unfold maxLen at hn hm
  by_cases h1 : 1048576 < n
  · have d1 : decide (1048576 < (n : Int)) = true := by simp; omega
    go_enter Try.func6, Try.ntmps6
    go_wp2
    go_ret
    exact ⟨ret_bool (by symm; simp; omega), rfl⟩
  · by_cases h2 : n + m ≤ 1048576
    · go_enter Try.func6, Try.ntmps6
      go_wp2
      go_ret
      exact ⟨ret_bool (by symm; simpa using h2), rfl⟩
    · by_cases h3 : 1048576 < m
      · go_enter Try.func6, Try.ntmps6
        go_wp2
        go_ret
        exact ⟨ret_bool (by symm; simp; omega), rfl⟩
      · go_enter Try.func6, Try.ntmps6
        go_wp2
        go_ret
        exact ⟨ret_bool (by symm; simp; omega), rfl⟩
theorem col_of {w : World} {g : Nat} {zs : List Int} {n : Nat} (h : Blk w g 22 ((zs.map (Value.int .u32)).toArray)) (hl : zs.length = n) : Col w g n (fun m => zs.getD m 0) :=
  ⟨_, h, by simpa using hl, fun m hm => by
    rw [List.getElem?_toArray, List.getElem?_map, List.getElem?_eq_getElem (by omega)]; simp only [List.getD_eq_getElem?_getD]; rw [List.getElem?_eq_getElem (by omega)]; rfl⟩
theorem bne_self (x : Int) : (x != x) = false := by simp
def LwRel (w3 : World) (n gs gc g h : Nat) (F G F' G' : Nat → Int) (i : Value) (wr : World) : Prop :=
  ∃ k : Nat, i = .int .i64 k ∧ k ≤ n ∧ Below w3.heap.size w3 wr
/-! ### STEP 1: THE WALK: the Go text returns true, AND WRITES NOTHING THAT WAS THERE: 'Below w.heap.size w w'' (Derived/Below.lean: '.refl', '.alloc', '.drew', '.setCell' at a new block, '.trans'). Open each 'IsRow' by 'rcases' AHEAD of 'go_enter'; part every test ahead of the walk. -/
set_option maxHeartbeats 1000000 in
set_option maxRecDepth 100000 in
theorem walk (a0 : Option Addr) (len0 cap0 : Nat) (z0 : List Int) (a1 : Option Addr) (len1 cap1 : Nat) (z1 : List Int) (a2 : Int) (a3 : Int) (w : World) (w0 : IsRow .u32 w a0 len0 cap0 z0) (w1 : IsRow .u32 w a1 len1 cap1 z1) (w2 : (Lit.int .i64 a2).wf = true) (w3 : (Lit.int .i64 a3).wf = true) :
    Calls Try.prog 4 #[.slice a0 len0 cap0, .slice a1 len1 cap1, .int .i64 a2, .int .i64 a3] w fun e w' => e = .returned (.bool true) ∧ Below w.heap.size w w' := by
  simp [Lit.wf, IntKind.min, IntKind.max, IntKind.signed, IntKind.bits] at w2 w3
  obtain ⟨hr0, hA0⟩ := isrow_reads w0
  obtain ⟨hr1, hA1⟩ := isrow_reads w1
  have hl0 : len0 ≤ maxLen := by
    rcases w0 with ⟨_, rfl, _⟩ | ⟨_, _, h1, h2, _⟩
    · unfold maxLen; omega
    · omega
  have hl1 : len1 ≤ maxLen := by
    rcases w1 with ⟨_, rfl, _⟩ | ⟨_, _, h1, h2, _⟩
    · unfold maxLen; omega
    · omega
  obtain ⟨X, hX⟩ : ∃ X, X = z0.take len0 := ⟨_, rfl⟩
  rw [← hX] at hr0
  obtain ⟨Y, hY⟩ : ∃ Y, Y = z1.take len1 := ⟨_, rfl⟩
  rw [← hY] at hr1
  have HX := Lib.hid (show X.length = len0 by have := hr0.1; simpa using this)
  have HY := Lib.hid (show Y.length = len1 by have := hr1.1; simpa using this)
  have HR0 := Lib.hid hr0; have HR1 := Lib.hid hr1; have HA0 := Lib.hid hA0; have HA1 := Lib.hid hA1
  have HL0 := Lib.hid hl0; have HL1 := Lib.hid hl1
  clear hr0 hr1 hX hY w0 w1 hA0 hA1
  unfold maxLen at hl0 hl1
  by_cases hbig : len0 + len1 ≤ 1048576
  case neg =>
    have HB := Lib.hid (show decide (len0 + len1 ≤ 1048576) = false by simpa using hbig)
    go_enter Try.func4, Try.ntmps4
    go_wp2_with (go_at_call 6; refine (zb a0 len0 cap0 a1 len1 cap1 a2 a3 _ HL0.out HL1.out).mono ?_; rw [HB.out]; rintro e wz ⟨rfl, rfl⟩)
    go_ret
    exact ⟨rfl, Below.refl _ _⟩
  have HB := Lib.hid (show decide (len0 + len1 ≤ 1048576) = true by simpa using hbig)
  by_cases hbad : 4096 < len0 ∨ 4096 < len1 ∨ len0 ≠ len1 ∨ a2 < 0 ∨ len0 ≤ a2 ∨ a3 < 0 ∨ len0 ≤ a3
  · have HBAD := Lib.hid hbad
    clear hbad
    go_enter Try.func4, Try.ntmps4
    go_wp2_with (go_at_call 6; refine (zb a0 len0 cap0 a1 len1 cap1 a2 a3 _ HL0.out HL1.out).mono ?_; rw [HB.out]; rintro e wz ⟨rfl, rfl⟩)
    all_goals first | (go_ret; exact ⟨rfl, Below.refl _ _⟩) | (exfalso; have hq := HBAD.out; (try simp only [bne_iff_ne, bne_eq_false_iff_eq, ne_eq] at *); go_light; omega)
  · obtain ⟨i, rfl⟩ : ∃ i : Nat, a2 = i := ⟨a2.toNat, by omega⟩
    obtain ⟨j, rfl⟩ : ∃ j : Nat, a3 = j := ⟨a3.toNat, by omega⟩
    obtain rfl : len0 = len1 := by omega
    have hi : i < len0 := by omega
    have hj : j < len0 := by omega
    have hn : len0 ≤ 4096 := by omega
    clear hbad hbig w2 w3 hl0 hl1
    have q1 : ((len0 : Int) != len0) = false := by simp
    have q2 : (len0 != len0) = false := by simp
    go_enter Try.func4, Try.ntmps4
    go_wp2_with (go_at_call 6; refine (zb a0 len0 cap0 a1 len0 cap1 i j _ HL0.out HL1.out).mono ?_; rw [HB.out]; rintro e wz ⟨rfl, rfl⟩)
    go_wp2_with (go_at_call 7; refine (clone a0 len0 cap0 X w HR0.out (by omega)).mono ?_)
    rintro e w1 hp1
    rcases hp1 with ⟨hn0, _, _⟩ | ⟨gs, _, rfl, hge, hbk, hb1⟩
    · have := HA0.out hn0; omega
    have hcS := col_of hbk HX.out
    have B1 := Lib.hid hb1; have CS := Lib.hid hcS
    clear hbk hb1 hcS hge
    go_wp2_with (go_at_call 7; refine (clone a1 len0 cap1 Y w1 ((HR1.out.below B1.out).more B1.out.size) (by omega)).mono ?_)
    rintro e w2 hp2
    rcases hp2 with ⟨hn0, _, _⟩ | ⟨gc, _, rfl, hge, hbk, hb2⟩
    · have := HA1.out hn0; omega
    have hcC := col_of hbk HY.out
    have B2 := Lib.hid (B1.out.trans (hb2.mono B1.out.size)); have CC := Lib.hid hcC; have CS2 := Lib.hid (CS.out.below hb2 CS.out.lt)
    clear hbk hb2 hcC hge
    go_wp2_with (go_at_call 8; refine (swq_any gs gc len0 (fun m => X.getD m 0) (fun m => Y.getD m 0) i j hi hj (by omega) w2 CS2.out CC.out).mono ?_)
    rintro e w3 ⟨g, h, rfl, hc1, hc2, hb3⟩
    generalize hF : (fun m => X.getD m 0) = F at hc1
    generalize hG : (fun m => Y.getD m 0) = G at hc2
    have CS3 : Hid (Col w3 gs len0 F) := Lib.hid (by rw [← hF]; exact CS2.out.below hb3 CS2.out.lt)
    have CC3 : Hid (Col w3 gc len0 G) := Lib.hid (by rw [← hG]; exact CC.out.below hb3 CC.out.lt)
    have C1 := Lib.hid hc1; have C2 := Lib.hid hc2
    have B3 := Lib.hid (B2.out.trans (hb3.mono B2.out.size))
    clear hF hG hc1 hc2 hb3 CS CS2 CC
    go_wp2
    go_loopw [12, 13] (fun t s wr => ∃ k : Nat, t = .int .i64 k ∧ k ≤ len0 ∧ Below w3.heap.size w3 wr) (fun t _ _ => len0 - (intOf t).toNat)
    case atStart => exact ⟨0, rfl, by omega, Below.refl _ _⟩
    case round =>
      obtain ⟨k, rfl, hk, hb⟩ := hrel
      by_cases hlt : k < len0
      · have c1 := (C1.out.below hb C1.out.lt).cell hlt
        have c2 := (C2.out.below hb C2.out.lt).cell hlt
        have HB3 := Lib.hid hb
        obtain ⟨s, hs, hsx⟩ : ∃ s, s < len0 ∧ s = (if k = i then j else if k = j then i else k) := ⟨_, by split; omega; split <;> omega, rfl⟩
        have c3 := (CS3.out.below hb CS3.out.lt).cell hs
        have c4 := (CC3.out.below hb CC3.out.lt).cell hs
        have e1 : exch F i j k = F s := by rw [hsx, exch]; split; rfl; split <;> rfl
        have e2 : exch G i j k = G s := by rw [hsx, exch]; split; rfl; split <;> rfl
        rw [e1] at c1
        rw [e2] at c2
        clear e1 e2 hb
        have f1 := bne_self (F s)
        have f2 := bne_self (G s)
        generalize F s = x at c1 c3 f1
        generalize G s = y at c2 c4 f2
        have kF : ∀ a b : Nat, a ≠ b → ((a : Int) == b) = false := fun a b h => by simp; omega
        by_cases ki : k = i
        · rw [if_pos ki] at hsx
          subst hsx
          subst ki
          clear kF
          go_wp2
          go_quiet (fail)
          go_wp2
          go_roundw
          case rel => exact ⟨k + 1, by go_num, by omega, below_drewN HB3.out _⟩
          case measure => simp [intOf]; omega
        · rw [if_neg ki] at hsx
          have ki' := kF k i ki
          by_cases kj : k = j
          · rw [if_pos kj] at hsx
            subst hsx
            subst kj
            clear kF
            go_wp2
            go_quiet (fail)
            go_wp2
            go_roundw
            case rel => exact ⟨k + 1, by go_num, by omega, below_drewN HB3.out _⟩
            case measure => simp [intOf]; omega
          · rw [if_neg kj] at hsx
            have kj' := kF k j kj
            subst hsx
            clear kF
            go_wp2
            go_quiet (fail)
            go_wp2
            go_roundw
            case rel => exact ⟨s + 1, by go_num, by omega, below_drewN HB3.out _⟩
            case measure => simp [intOf]; omega
      · obtain rfl : len0 = k := by omega
        have HB3 := Lib.hid hb
        clear hb
        go_wp2
        go_ret
        exact ⟨rfl, B3.out.trans (HB3.out.mono B3.out.size)⟩

/-! ### THE ROW's STEP: WRITTEN OUT: LEAVE IT -/
set_option maxRecDepth 100000 in
theorem lifted (os : Os) (started : os.Started) (H : Type) (enc : TypeId × Value → H) :
    ReturnsInHanded {} Try.checked os 4 .any (Rows.fnSlotSwapExchangesTwoSpec.pre6 enc Try.prog Try.f4 Rows.fnSlotSwapExchangesTwoRow.domain false) (Rows.fnSlotSwapExchangesTwoSpec.post enc Try.prog Try.f4 false true false false) := by
  refine returnsInHanded_of_change (C := Try.checked) own started (by kernel_rfl) Try.func4
    (ChangeSpec.witness6 (enc := enc) (C := Try.checked) false ⟨#[], #[.slice none 0 0, .slice none 0 0, .int .i64 0, .int .i64 0], []⟩ 8 (by kernel_rfl) (by kernel_rfl) (by kernel_rfl) (by kernel_rfl)) ?_
  intro W base args ds gs before hval0 hW hcnd _
  have hval : ∀ (j : Nat) t v, Try.f4.params[j]? = some t → args[j]? = some v → Value.okWide Try.prog W .any base t v := hval0
  have hW' := hW
  obtain ⟨p, q, hA0, hV, rfl, hfz, hnd⟩ := hW
  have hA : DataW.TrodAll enc Try.prog W 0 (fun _ => true) true Try.f4.params.toList args.toList ds p := hA0
  rw [Try.params4] at hA hval
  obtain ⟨v0, vs0, d0, ds0, p0, q0, hargs, rfl, rfl, h0, r0⟩ := trodAll_cons hA
  obtain ⟨v1, vs1, d1, ds1, p1, q1, rfl, rfl, rfl, h1, r1⟩ := trodAll_cons r0
  obtain ⟨v2, vs2, d2, ds2, p2, q2, rfl, rfl, rfl, h2, r2⟩ := trodAll_cons r1
  obtain ⟨v3, vs3, d3, ds3, p3, q3, rfl, rfl, rfl, h3, r3⟩ := trodAll_cons r2
  obtain ⟨rfl, rfl, rfl⟩ := trodAll_nil r3
  obtain rfl : args = #[v0, v1, v2, v3] := by cases args; simp_all
  obtain ⟨rfl, rfl⟩ := trodVars_none hV
  obtain ⟨a0, len0, cap0, rfl⟩ := okWide_slice Try.underlying25 (hval 0 25 v0 rfl rfl)
  have k0 := h0
  have lt0 : ∀ x ∈ p0, x.block < W.heap.size := by obtain ⟨m, hm⟩ := k0; exact DataW.trod_lt m _ _ _ hm
  obtain ⟨z0, w0⟩ : ∃ zs, IsRow .u32 W a0 len0 cap0 zs := by
    obtain ⟨fuel, hf⟩ := h0
    rcases open_ints Try.underlying25 Try.underlying22 (by kernel_rfl) hf with ⟨hcs, _⟩ | ⟨x, l, c, zs, hcs, _, hl, hm, hz, _, hcell, hwz⟩
    · simp [Value.cells] at hcs
      obtain ⟨rfl, rfl, rfl⟩ := hcs
      exact ⟨[], .inl ⟨rfl, rfl, rfl, rfl⟩⟩
    · simp [Value.cells] at hcs
      obtain ⟨rfl, rfl, rfl⟩ := hcs
      exact ⟨zs, .inr ⟨_, rfl, hl, hm, by simpa using hz, hcell, hwz⟩⟩
  obtain ⟨a1, len1, cap1, rfl⟩ := okWide_slice Try.underlying25 (hval 1 25 v1 rfl rfl)
  have k1 := h1
  have lt1 : ∀ x ∈ p1, x.block < W.heap.size := by obtain ⟨m, hm⟩ := k1; exact DataW.trod_lt m _ _ _ hm
  obtain ⟨z1, w1⟩ : ∃ zs, IsRow .u32 W a1 len1 cap1 zs := by
    obtain ⟨fuel, hf⟩ := h1
    rcases open_ints Try.underlying25 Try.underlying22 (by kernel_rfl) hf with ⟨hcs, _⟩ | ⟨x, l, c, zs, hcs, _, hl, hm, hz, _, hcell, hwz⟩
    · simp [Value.cells] at hcs
      obtain ⟨rfl, rfl, rfl⟩ := hcs
      exact ⟨[], .inl ⟨rfl, rfl, rfl, rfl⟩⟩
    · simp [Value.cells] at hcs
      obtain ⟨rfl, rfl, rfl⟩ := hcs
      exact ⟨zs, .inr ⟨_, rfl, hl, hm, by simpa using hz, hcell, hwz⟩⟩
  obtain ⟨a2, rfl, rfl, rfl, w2⟩ := open_int Try.underlying3 (hval 2 3 v2 rfl rfl) h2
  obtain ⟨a3, rfl, rfl, rfl, w3⟩ := open_int Try.underlying3 (hval 3 3 v3 rfl rfl) h3
  clear hA0 hval0
  refine (walk a0 len0 cap0 z0 a1 len1 cap1 z1 a2 a3 W w0 w1 w2 w3).mono fun e W' ⟨he, bel⟩ => ?_
  subst he
  exact ⟨_, rfl, _, _, _, [], _, [], hW', trodAll_mk1 (shut_bool Try.underlying4 _), (trodAll_cons_mk (Below.trod laidOut (by kernel_rfl) (of_decide_eq_true (by kernel_rfl)) k0 bel lt0) (trodAll_cons_mk (Below.trod laidOut (by kernel_rfl) (of_decide_eq_true (by kernel_rfl)) k1 bel lt1) (trodAll_cons_mk (shut_int Try.underlying3 w2) (trodAll_cons_mk (shut_int Try.underlying3 w3) trodAll_mk0)))), rfl, bel.frame _, fun h => by cases h⟩

theorem over : Rows.fnSlotSwapExchangesTwoRow.holds Try.pinned (OpenSpec.ofChange Rows.fnSlotSwapExchangesTwoSpec) :=
  OpenClaim.holds_of_wide 4 Try.f4 rfl rfl rfl rfl rfl rfl rfl ⟨rfl, rfl, rfl, rfl, rfl⟩ rfl rfl rfl rfl rfl (by kernel_rfl) Try.func4 (by kernel_rfl)
    (of_decide_eq_true (by kernel_rfl)) (by unfold Func.isWrapper; first | (rw [if_pos (by decide +kernel)]; kernel_rfl) | (rw [if_neg (by decide +kernel)]; exact ⟨rfl, rfl⟩))
    (fun os started H enc _ => lifted os started H enc)

/-- ████ THE STATEMENT ████ -/
theorem proved : Rows.FnSlotSwapExchangesTwoSaid := over
#print axioms proved
end Go.Proofs.Ytenpbcaoelnamaa.fnSlotSwapExchangesTwo
