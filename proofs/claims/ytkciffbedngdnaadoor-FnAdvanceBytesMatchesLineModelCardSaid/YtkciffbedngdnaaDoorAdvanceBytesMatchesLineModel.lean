/-
  PROVED: AdvanceBytes gives the same lines and columns as the two-pass model, for every start and every byte slice of at most 1 MiB.
-/
import Derived.Test.YtkciffbedngdnaaDoorRows
import Derived.Test.YtkciffbedngdnaaDoorCards
import Derived.Test.YtkciffbedngdnaaDoorTie
import Derived.WalkKit
import Derived.ProofKit
import Derived.Outline
import Derived.LoopTactic
import Derived.WalkSpells
import Derived.Deep.Light
import Derived.Test.YtkciffbedngdnaaDoorClb
import Derived.Test.YtkciffbedngdnaaDoorMod
import Derived.Test.YtkciffbedngdnaaDoorAdb
import Derived.Test.YtkciffbedngdnaaDoorTab
import Derived.OpenShut
import Derived.ShutString
import Derived.ChangeOld
import Derived.Below
import Derived.Carry
import Derived.Handy
import Derived.Lay
import Derived.SevenTiedAt
namespace Go.Proofs.YtkciffbedngdnaaDoor.fnAdvanceBytesMatchesLineModel
open Go.ChangeShapes Go.WideShapes Go.ChangeAt Go.RowKit
open Go.ChangeMaps (open_string shut_string)
set_option linter.unusedVariables false
set_option linter.unusedSimpArgs false

theorem own : ownKnob Tryd.prog.godebug = none := by kernel_rfl
theorem laidOut : laidOutB Tryd.pinned.checked.prog = true := by kernel_rfl

/-- What the walk is told of a slice of integers that came in. -/
def IsRow (k : IntKind) (w : World) (a : Option Addr) (len cap : Nat) (zs : List Int) : Prop :=
  (a = none ∧ len = 0 ∧ cap = 0 ∧ zs = []) ∨
  ∃ x, a = some x ∧ len ≤ cap ∧ cap ≤ maxLen ∧ zs.length = cap ∧ (∀ i, i < zs.length → w.cell? (x.add i) = some (.int k (zs.getD i 0))) ∧ ∀ n ∈ zs, (Lit.int k n).wf = true
theorem isrow_reads {k : IntKind} {w : World} {a : Option Addr} {len cap : Nat} {zs : List Int} (h : IsRow k w a len cap zs) : Reads w w.heap.size 1 a len ((zs.take len).map (Value.int k)) ∧ (a = none → len = 0) ∧ len ≤ maxLen := by
  rcases h with ⟨rfl, rfl, rfl, rfl⟩ | ⟨x, rfl, hl, hm, hz, hc, _⟩
  · exact ⟨Reads.none_, fun _ => rfl, by unfold maxLen; omega⟩
  · refine ⟨⟨by simp; omega, fun hn => ⟨x, rfl, ?_, fun j u hu => ?_⟩⟩, (fun h => by cases h), by omega⟩
    · have := hc 0 (by omega)
      exact World.block_lt_of_cell? w x (by simpa [Addr.add] using this)
    · have hj : j < len := by
        have := (List.getElem?_eq_some_iff.1 hu).1
        simp at this; omega
      rw [hc j (by omega)]
      rw [List.getElem?_map, List.getElem?_take_of_lt hj, List.getElem?_eq_getElem (by omega)] at hu
      rw [List.getD_eq_getElem?_getD, List.getElem?_eq_getElem (by omega)]
      exact hu



def AnyBool (w : World) (e : Ending) (w' : World) : Prop := ∃ b, e = .returned (.bool b) ∧ w = w'
set_option maxRecDepth 100000 in
theorem zb (x y : Int) (A : Option Addr) (n c : Nat) (w : World) (hn : n ≤ maxLen) : Calls Tryd.prog 4 #[.int .i64 x, .int .i64 y, .slice A n c] w (AnyBool w) := by
  unfold maxLen at hn
  go_enter Tryd.func4, Tryd.ntmps4
  go_wp2
  all_goals
    go_ret
    exact ⟨_, rfl, rfl⟩
theorem tabs_keep {w W : World} {row : Option Nat} (h : Lib.Utf8Tabs 0 1 w) (hg : w.grownBy W row) (h0 : some 0 ≠ row) (h1 : some 1 ≠ row) (hs : 1 < w.heap.size) : Lib.Utf8Tabs 0 1 W := by
  have k0 : ∀ o, W.cell? ⟨0, o, none⟩ = w.cell? ⟨0, o, none⟩ := fun o => World.cell?_of_block (hg.block 0 (by omega) h0)
  have k1 : ∀ o, W.cell? ⟨1, o, none⟩ = w.cell? ⟨1, o, none⟩ := fun o => World.cell?_of_block (hg.block 1 hs h1)
  constructor
  · intro c hc
    have := h.1 c hc
    rw [← k0] at this
    exact this
  · intro i hi
    have := h.2 i hi
    simp only [← k1] at this
    exact this
theorem tabs_size {w : World} (h : Lib.Utf8Tabs 0 1 w) : 1 < w.heap.size := by
  have := (h.2 0 (by omega)).1
  exact World.block_lt_of_cell? w _ this
theorem bytes_of (zs : List Int) (h : ∀ z ∈ zs, 0 ≤ z ∧ z ≤ 255) : ∃ l : List UInt8, l.length = zs.length ∧ ∀ j, j < zs.length → ((l.getD j 0).toNat : Int) = zs.getD j 0 := by
  refine ⟨zs.map fun z => UInt8.ofNat z.toNat, by simp, fun j hj => ?_⟩
  have hz := h _ (List.getElem_mem hj)
  simp only [List.getD_eq_getElem?_getD, List.getElem?_map, List.getElem?_eq_getElem hj, Option.map_some, Option.getD_some]
  rw [UInt8.toNat_ofNat']
  omega
theorem get_l (l : List UInt8) (j : Nat) : (⟨l.toArray⟩ : ByteArray).get! j = l.getD j 0 := by
  show l.toArray[j]! = _
  simp [List.getD_eq_getElem?_getD]
  rfl
/-! ### STEP 1: THE WALK -/
set_option maxHeartbeats 4000000 in
set_option maxRecDepth 100000 in
theorem walk (a0 : Int) (a1 : Int) (a2 : Option Addr) (len2 cap2 : Nat) (z2 : List Int) (w : World) (w0 : (Lit.int .i64 a0).wf = true) (w1 : (Lit.int .i64 a1).wf = true) (w2 : IsRow .u8 w a2 len2 cap2 z2) (hT : Lib.Utf8Tabs 0 1 w) :
    Calls Tryd.prog 3 #[.int .i64 a0, .int .i64 a1, .slice a2 len2 cap2] w fun e w' => e = .returned (.bool true) ∧ Below w.heap.size w w' := by
  simp [Lit.wf, IntKind.min, IntKind.max, IntKind.signed, IntKind.bits] at w0 w1
  obtain ⟨hr2, hA2, hl2⟩ := isrow_reads w2
  have hwf : ∀ m ∈ z2.take len2, 0 ≤ m ∧ m ≤ 255 := fun m hm => by
    rcases w2 with ⟨_, _, _, rfl⟩ | ⟨_, _, _, _, _, _, hw⟩
    · simp at hm
    · have := hw m (List.mem_of_mem_take hm)
      simp [Lit.wf, IntKind.min, IntKind.max, IntKind.signed, IntKind.bits] at this
      omega
  generalize z2.take len2 = zs at hr2 hwf
  have hzl : zs.length = len2 := by have := hr2.1; simpa using this
  obtain ⟨l, hll, hlz⟩ := bytes_of zs hwf
  obtain ⟨s, hsl⟩ : ∃ s : ByteArray, s = ⟨l.toArray⟩ := ⟨_, rfl⟩
  have hsz : len2 = s.size := by rw [hsl]; show len2 = l.toArray.size; simp; omega
  have hget : ∀ j, j < len2 → ((s.get! j).toNat : Int) = zs.getD j 0 := fun j hj => by rw [hsl, get_l]; exact hlz j (by omega)
  have hL0 : wrap64 a0 = a0 := by unfold wrap64; omega
  have hC0 : wrap64 a1 = a1 := by unfold wrap64; omega
  subst hsz
  have HR2 := Lib.hid hr2; have HA2 := Lib.hid hA2; have HL2 := Lib.hid hl2; have HT := Lib.hid hT; have HZL := Lib.hid hzl; have HGET := Lib.hid hget; have HLL := Lib.hid hll; have HSL := Lib.hid hsl
  have HL0 := Lib.hid hL0; have HC0 := Lib.hid hC0
  have htw := tabs_size hT
  clear hr2 hA2 hT hzl hget hll hsl w2 hwf hlz hL0 hC0
  unfold maxLen at hl2
  go_enter Tryd.func3, Tryd.ntmps3
  go_wp2_with (go_at_call 4; refine (zb a0 a1 a2 s.size cap2 _ HL2.out).mono ?_)
  rintro e wz ⟨bz, rfl, rfl⟩
  cases bz
  · go_wp2
    go_ret
    exact ⟨rfl, Below.refl _ _⟩
  by_cases hbig : 1048576 < s.size
  · go_wp2
    go_ret
    exact ⟨rfl, Below.refl _ _⟩
  have hs : s.size ≤ 1048576 := by omega
  clear hbig hl2
  go_wp2_with (go_at_call 5; refine (cloneB a2 s.size cap2 zs _ HR2.out (by omega)).mono ?_)
  rintro e w3 hcl
  obtain ⟨A5, gb, rfl, hAg, hgb, hcell, hb1, hcv⟩ : ∃ (A5 : Option Addr) (gb : Nat), e = .returned (.slice A5 s.size s.size) ∧ (0 < s.size → A5 = some ⟨gb, 0, none⟩) ∧ gb < w3.heap.size ∧ (∀ j, j < s.size → w3.cell? ⟨gb, j, none⟩ = some (.int .u8 (s.get! j).toNat)) ∧ Below w.heap.size w w3 ∧
      ∀ W : World, (∀ j, j < s.size → W.cell? ⟨gb, j, none⟩ = some (.int .u8 (s.get! j).toNat)) → (convert 22 9 (.slice A5 s.size s.size)).run Tryd.prog W = .ok (.string s) W := by
    rcases hcl with ⟨hn0, he, hw⟩ | ⟨g, _, he, hge, hbk, hb1⟩
    · have h0 := HA2.out hn0
      refine ⟨none, 0, by rw [he, h0], fun h => by omega, by rw [← hw]; omega, fun j hj => by omega, by rw [← hw]; exact Below.refl _ _, fun W _ => ?_⟩
      have hs0 : s = ⟨#[]⟩ := by
        rw [HSL.out]
        have : l = [] := List.eq_nil_of_length_eq_zero (by have := HLL.out; have := HZL.out; omega)
        rw [this]
      rw [run_convert_bytes_string W 22 9 5 none s.size s.size Tryd.underlying22 Tryd.underlying5 Tryd.underlying9, h0, hs0]
      first | rfl | simp [Conv.bytesToString]
    · refine ⟨_, g, he, fun _ => rfl, hbk.lt, fun j hj => ?_, hb1, fun W hW => ?_⟩
      · rw [hbk.cell, List.getElem?_toArray, List.getElem?_map, List.getElem?_eq_getElem (by have := HZL.out; omega), HGET.out j hj, List.getD_eq_getElem?_getD, List.getElem?_eq_getElem (by have := HZL.out; omega)]
        rfl
      · have hsl' : s.size = l.length := by have := HLL.out; have := HZL.out; omega
        have := run_convert_bytes_back W 22 9 5 ⟨g, 0, none⟩ s.size l Tryd.underlying22 Tryd.underlying5 Tryd.underlying9 (fun j hj => by
          have h1 := hW j (by omega)
          rw [HSL.out, get_l, List.getD_eq_getElem?_getD, List.getElem?_eq_getElem hj] at h1
          rw [show ((⟨g, 0, none⟩ : Addr).add j) = ⟨g, j, none⟩ by unfold Addr.add; split; (rename_i h0; subst h0; rfl); (simp)]
          exact h1)
        rw [← hsl', ← HSL.out] at this
        exact this
  clear hcl
  have HAG := Lib.hid hAg; have HCELL := Lib.hid hcell; have HB1 := Lib.hid hb1; have HCV := Lib.hid hcv
  have hsw := hb1.size
  have HT3 : Hid (∀ W : World, (w3.alloc (.cells #[.int .i64 a0, .int .i64 a1] 26)).grownBy W (some w3.heap.size) → Lib.Utf8Tabs 0 1 W) := Lib.hid (fun W hg => by
    have t3 := tabs_keep HT.out (only_of_below HB1.out none) (by simp) (by simp) htw
    have t4 := tabs_keep t3 (only_alloc (World.grownBy.refl w3 none) (.cells #[.int .i64 a0, .int .i64 a1] 26)) (by simp) (by simp) (by omega)
    exact tabs_keep t4 hg (fun e => by have := Option.some.inj e; omega) (fun e => by have := Option.some.inj e; omega) (by simp; omega))
  clear hAg hcell hb1 hcv
  go_wp2_with (go_at_call 6; refine (advB s A5 gb w3.heap.size a0 a1 _ hs HAG.out (by simp; omega) (by omega) (fun j hj => (World.cell?_alloc_lt w3 _ _ hgb).trans (HCELL.out j hj)) HT3.out HL0.out HC0.out (Blk.new _ _ _)).mono ?_)
  rintro e w5 ⟨rfl, hk5, hg5⟩
  have hcell5 : ∀ j, j < s.size → w5.cell? ⟨gb, j, none⟩ = some (.int .u8 (s.get! j).toNat) := fun j hj =>
    (World.cell?_of_block (hg5.block gb (by simp; omega) (fun e => by have := Option.some.inj e; omega))).trans ((World.cell?_alloc_lt w3 _ _ hgb).trans (HCELL.out j hj))
  have hcv5 := HCV.out w5 hcell5
  have HB5 := Lib.hid ((HB1.out.alloc hsw (.cells #[.int .i64 a0, .int .i64 a1] 26)).grown hg5 (by simp; omega) (fun k hk => by obtain rfl := Option.some.inj hk; exact hsw))
  have k0 : w5.cell? ⟨w3.heap.size, 0, none⟩ = some (.int .i64 (wrap64 (a0 + (lineF s 0 0 0 0).1))) := hk5.cell 0
  have k1 : w5.cell? ⟨w3.heap.size, 1, none⟩ = some (.int .i64 (wrap64 (baseV a1 (lineF s 0 0 0 0).1 + (lineF s 0 0 0 0).2.1))) := hk5.cell 1
  clear hcell5 hk5 hg5
  go_wp2_with (go_at_call 7; refine (model a0 a1 s _ hs).mono ?_)
  rintro e wz ⟨rfl, rfl⟩
  generalize wrap64 (a0 + (lineF s 0 0 0 0).1) = p at *
  generalize wrap64 (baseV a1 (lineF s 0 0 0 0).1 + (lineF s 0 0 0 0).2.1) = q at *
  have e1 : (p == p) = true := by simp
  have e2 : (q == q) = true := by simp
  go_wp2
  go_ret
  exact ⟨rfl, HB5.out⟩

/-! ### THE ROW's STEP -/
set_option maxRecDepth 100000 in
theorem lifted (os : Os) (started : os.Started) (H : Type) (enc : TypeId × Value → H) :
    ReturnsInHanded {} Tryd.checked os 3 .any (fun w args => (Rows.fnAdvanceBytesMatchesLineModelSpec.pre enc Tryd.prog Tryd.f3 [] false w args ∧ laidMetH Tryd.prog Rows.fnAdvanceBytesMatchesLineModelRow.laid w) ∧ sizedMet enc Tryd.prog Tryd.f3 (OpenSpec.ofChange Rows.fnAdvanceBytesMatchesLineModelSpec) false w args)
      (Rows.fnAdvanceBytesMatchesLineModelSpec.post enc Tryd.prog Tryd.f3 false true false false) := by
  refine returnsInHanded_of_change_and (C := Tryd.checked) (X := fun w _ => laidMetH Tryd.prog Rows.fnAdvanceBytesMatchesLineModelRow.laid w) (fun _ _ _ hh h => h.of_heap hh) own started (by kernel_rfl) Tryd.func3
    (ChangeSpec.witness_shaped (enc := enc) (C := Tryd.checked) (os := os) (X := fun w _ => laidMetH Tryd.prog Rows.fnAdvanceBytesMatchesLineModelRow.laid w) false (World.laidAll Tryd.prog os Rows.fnAdvanceBytesMatchesLineModelRow.laid) #[.int .i64 0, .int .i64 0, .slice none 0 0] 8 (World.laidAll_os _ _ _)
      (World.shaped_of_ZipB (by kernel_rfl) (by kernel_rfl)) (by kernel_rfl) (by kernel_rfl) (by kernel_rfl)
      (by rw [MakeChecks.laidMetH_plain _ _ _ (by kernel_rfl)]; exact laidMet_laidAll _ (by kernel_rfl) (by kernel_rfl))) ?_
  intro W base args ds gs before hval0 hW _ _ hL _
  have hval : ∀ (j : Nat) t v, Tryd.f3.params[j]? = some t → args[j]? = some v → Value.okWide Tryd.prog W .any base t v := hval0
  have hW' := hW
  obtain ⟨p, q, hA0, hV, rfl, hfz, hnd⟩ := hW
  have hA : DataW.TrodAll enc Tryd.prog W 0 (fun _ => true) true Tryd.f3.params.toList args.toList ds p := hA0
  rw [Tryd.params3] at hA hval
  obtain ⟨v0, vs0, d0, ds0, p0, q0, hargs, rfl, rfl, h0, r0⟩ := trodAll_cons hA
  obtain ⟨v1, vs1, d1, ds1, p1, q1, rfl, rfl, rfl, h1, r1⟩ := trodAll_cons r0
  obtain ⟨v2, vs2, d2, ds2, p2, q2, rfl, rfl, rfl, h2, r2⟩ := trodAll_cons r1
  obtain ⟨rfl, rfl, rfl⟩ := trodAll_nil r2
  obtain rfl : args = #[v0, v1, v2] := by cases args; simp_all
  obtain ⟨rfl, rfl⟩ := trodVars_none hV
  have k0 := h0
  have lt0 : ∀ x ∈ p0, x.block < W.heap.size := by obtain ⟨m, hm⟩ := k0; exact DataW.trod_lt m _ _ _ hm
  have k1 := h1
  have lt1 : ∀ x ∈ p1, x.block < W.heap.size := by obtain ⟨m, hm⟩ := k1; exact DataW.trod_lt m _ _ _ hm
  have k2 := h2
  have lt2 : ∀ x ∈ p2, x.block < W.heap.size := by obtain ⟨m, hm⟩ := k2; exact DataW.trod_lt m _ _ _ hm
  obtain ⟨a0, rfl, rfl, rfl, w0⟩ := open_int Tryd.underlying3 (hval 0 3 v0 rfl rfl) h0
  obtain ⟨a1, rfl, rfl, rfl, w1⟩ := open_int Tryd.underlying3 (hval 1 3 v1 rfl rfl) h1
  obtain ⟨a2, len2, cap2, rfl⟩ := okWide_slice Tryd.underlying22 (hval 2 22 v2 rfl rfl)
  obtain ⟨z2, w2⟩ : ∃ zs, IsRow .u8 W a2 len2 cap2 zs := by
    obtain ⟨fuel, hf⟩ := h2
    rcases open_ints Tryd.underlying22 Tryd.underlying5 (by kernel_rfl) hf with ⟨hcs, _⟩ | ⟨x, l, c, zs, hcs, _, hl, hm, hz, _, hcell, hwz⟩
    · simp [Value.cells] at hcs
      obtain ⟨rfl, rfl, rfl⟩ := hcs
      exact ⟨[], .inl ⟨rfl, rfl, rfl, rfl⟩⟩
    · simp [Value.cells] at hcs
      obtain ⟨rfl, rfl, rfl⟩ := hcs
      exact ⟨zs, .inr ⟨_, rfl, hl, hm, by simpa using hz, hcell, hwz⟩⟩
  clear hA0 hval0
  refine (walk a0 a1 a2 len2 cap2 z2 W w0 w1 w2 (tabs_of hL)).mono fun e W' ⟨he, bel⟩ => ?_
  subst he
  exact ⟨_, rfl, _, _, _, [], _, [], hW', trodAll_mk1 (shut_bool Tryd.underlying4 _), (trodAll_cons_mk (Below.trod laidOut (by kernel_rfl) (of_decide_eq_true (by kernel_rfl)) k0 bel lt0) (trodAll_cons_mk (Below.trod laidOut (by kernel_rfl) (of_decide_eq_true (by kernel_rfl)) k1 bel lt1) (trodAll_cons_mk (Below.trod laidOut (by kernel_rfl) (of_decide_eq_true (by kernel_rfl)) k2 bel lt2) trodAll_mk0))), rfl, bel.frame _, fun h => by cases h⟩

theorem over : Rows.fnAdvanceBytesMatchesLineModelRow.holds Tryd.pinned (OpenSpec.ofChange Rows.fnAdvanceBytesMatchesLineModelSpec) :=
  OpenClaim.holds_of_wide 3 Tryd.f3 rfl rfl rfl rfl rfl rfl rfl ⟨rfl, rfl, rfl, rfl, rfl⟩ rfl rfl rfl rfl rfl (by kernel_rfl) Tryd.func3 (by kernel_rfl)
    (of_decide_eq_true (by kernel_rfl)) (by unfold Func.isWrapper; first | (rw [if_pos (by decide +kernel)]; kernel_rfl) | (rw [if_neg (by decide +kernel)]; exact ⟨rfl, rfl⟩))
    (fun os started H enc _ => lifted os started H enc)

theorem proved : Rows.FnAdvanceBytesMatchesLineModelCardSaid :=
  Claim7.holds_tied_plain_at .later [] [.data, .pinned] true (true, "59a6580ba1d0846a128a8e75f5c4b47691ae490bee968c680ded1e483d2b1189") false over (fun _ h => by cases h) (by kernel_rfl) (fun _ h => by cases h) fnAdvanceBytesMatchesLineModel_row_tie rfl ⟨rfl, rfl⟩ (by kernel_rfl) rfl
    (fun f fn hf hfn => by
      obtain rfl : f = 3 := Option.some.inj ((show Tryd.prog.funcNamed "github.com/evanw/esbuild/n011_23.FnAdvanceBytesMatchesLineModel" = some 3 by kernel_rfl).symm.trans hf) |>.symm
      obtain rfl : fn = Tryd.f3 := (Option.some.inj (Tryd.func3.symm.trans hfn)).symm
      exact ⟨by kernel_rfl, fun j t ht => by
        rw [Tryd.params3] at ht
        have hm : t ∈ [3, 3, 22] := by simpa using Array.mem_of_getElem? ht
        have hall : ([3, 3, 22].all fun u => !Tryd.prog.wantsStandIn u) = true := by kernel_rfl
        exact (show Tryd.prog.wantsStandIn t = false by simpa using List.all_eq_true.1 hall t hm)⟩)
    (by kernel_rfl)
#print axioms proved
end Go.Proofs.YtkciffbedngdnaaDoor.fnAdvanceBytesMatchesLineModel