/-
  PROVED: For every text, flag and output of at most 1 MiB in all, a fresh chunk builder without input map gives a chunk of one semicolon a line break and nothing else, and the law answers true. Conditions: none beyond the statement's own (the listed variable base64 reads as the program's text lays it).
-/
import Derived.Test.YtgdcpladehcegaaDoorRows
import Derived.Test.YtgdcpladehcegaaDoorCards
import Derived.Test.YtgdcpladehcegaaDoorTie
import Derived.WalkKit
import Derived.ProofKit
import Derived.Deep.WholeRow
import Derived.Laws.BytesArg
import Derived.Laws.Tables
import Derived.IntWalk
import Derived.Outline
import Derived.LoopTactic
import Derived.WalkSpells
import Derived.Deep.Light
import Derived.Test.YtgdcpladehcegaaDoorClb
import Derived.Test.YtgdcpladehcegaaDoorTbw
import Derived.Test.YtgdcpladehcegaaDoorOlb
import Derived.OpenShut
import Derived.ShutString
import Derived.ChangeOld
import Derived.Below
import Derived.Carry
import Derived.OpenVars
import Derived.Handy
import Derived.Lay
import Derived.SevenTiedAt
namespace Go.Proofs.YtgdcpladehcegaaDoor.fnFreshChunkIsOnlyLineBreaks
open Go.ChangeShapes Go.WideShapes Go.ChangeAt Go.RowKit
open Go.ChangeMaps (open_string shut_string)
set_option linter.unusedVariables false
set_option linter.unusedSimpArgs false

theorem own : ownKnob Tryd.prog.godebug = none := by kernel_rfl
theorem laidOut : laidOutB Tryd.pinned.checked.prog = true := by kernel_rfl

/-- What the walk is told of a slice of integers that came in. -/
def IsRow (k : IntKind) (w : World) (a : Option Addr) (len cap : Nat) (zs : List Int) : Prop :=
  (a = none ∧ len = 0 ∧ cap = 0 ∧ zs = []) ∨
  ∃ x, a = some x ∧ len ≤ cap ∧ cap ≤ maxLen ∧ zs.length = cap ∧ (∀ i, i < zs.length → w.cell? (x.add i) = some (.int k (zs.getD i 0))) ∧ ∀ n ∈ zs, (Lit.int k n).wf = true
theorem isrow_reads {k : IntKind} {w : World} {a : Option Addr} {len cap : Nat} {zs : List Int} (h : IsRow k w a len cap zs) : Reads w w.heap.size 1 a len ((zs.take len).map (Value.int k)) ∧ (a = none → len = 0) ∧ len ≤ maxLen := by
  rcases h with ⟨rfl, rfl, rfl, rfl⟩ | ⟨x, rfl, hl, hm, hz, hc, _⟩
  · exact ⟨Reads.none_, fun _ => rfl, by unfold maxLen; omega⟩
  · refine ⟨⟨by simp; omega, fun hn => ⟨x, rfl, ?_, fun j u hu => ?_⟩⟩, (fun h => by cases h), by omega⟩
    · have := hc 0 (by omega)
      exact World.block_lt_of_cell? w x (by simpa [Addr.add] using this)
    · have hj : j < len := by
        have := (List.getElem?_eq_some_iff.1 hu).1
        simp at this; omega
      rw [hc j (by omega)]
      rw [List.getElem?_map, List.getElem?_take_of_lt hj, List.getElem?_eq_getElem (by omega)] at hu
      rw [List.getD_eq_getElem?_getD, List.getElem?_eq_getElem (by omega)]
      exact hu



theorem wpList_store_new {P : Program} (w : World) {ops : Array Oper} {rest : List Oper} {o : Oper} {a : Act} {Q : Exit → Act → World → Prop} (hgd : o.guard = none) (ty : TypeId) (x y : Operand) (ho : o.op = .store ty x y)
    (cells old : Array Value) (hx : a.eval x = .pointer (some ⟨w.heap.size, 0, none⟩)) (hy : a.eval y = .agg cells) (hi : (P.info? ty).map (·.size) = some cells.size)
    (hold : old.size = cells.size) (h1 : cells.all (·.oneCell') = true)
    (h : wpList P ops Q rest (a.put o.dst undef) (w.alloc (.cells cells ty))) : wpList P ops Q (o :: rest) a (w.alloc (.cells old ty)) :=
  wpList_plain hgd fun _ hK => by
    unfold Oper.wp execOp
    simp only [ho, hx, hy, Instr.storeAt, Instr.sureAddr, Sem.run_bind, Sem.run_pure, Result.andThen_ok, run_storeVar_new (P := P) w ty old cells hi hold h1]
    exact hK _ _ h
def AnyBool (w : World) (e : Ending) (w' : World) : Prop := ∃ b, e = .returned (.bool b) ∧ w = w'
set_option maxRecDepth 100000 in
theorem zb (s : ByteArray) (b : Bool) (A : Option Addr) (n c : Nat) (w : World) (hs : s.size ≤ maxLen) (hn : n ≤ maxLen) : Calls Tryd.prog 5 #[.string s, .bool b, .slice A n c] w (AnyBool w) := by
  unfold maxLen at hs hn
  go_enter Tryd.func5, Tryd.ntmps5
  go_wp2
  all_goals
    go_ret
    exact ⟨_, rfl, rfl⟩
theorem bytes_of (zs : List Int) (h : ∀ z ∈ zs, 0 ≤ z ∧ z ≤ 255) : ∃ l : List UInt8, l.length = zs.length ∧ ∀ j, j < zs.length → ((l.getD j 0).toNat : Int) = zs.getD j 0 := by
  refine ⟨zs.map fun z => UInt8.ofNat z.toNat, by simp, fun j hj => ?_⟩
  have hz := h _ (List.getElem_mem hj)
  simp only [List.getD_eq_getElem?_getD, List.getElem?_map, List.getElem?_eq_getElem hj, Option.map_some, Option.getD_some]
  rw [UInt8.toNat_ofNat']
  omega
theorem get_l (l : List UInt8) (j : Nat) : (⟨l.toArray⟩ : ByteArray).get! j = l.getD j 0 := by
  show l.toArray[j]! = _
  simp [List.getD_eq_getElem?_getD]
  rfl
theorem gen0 (s : ByteArray) (B g : Nat) (a : Option Addr) (nm tb : Value) (asc cov : Bool) (A : Option Addr) (w : World) (hs : s.size ≤ 1048576)
    (hb : Blk w g 38 (CB (.pointer a) (.slice none 0 0) nm tb ByteArray.empty 0 0 0 0 (-1) asc false cov)) (hgB : B ≤ g) (ho : Out w B A s.size s.size s) (hn : A = none → s.size = 0) :
    Calls Tryd.prog 9 #[.pointer (some ⟨g, 0, none⟩), .slice A s.size s.size] w (ChPost s B g s.size (.pointer a) nm tb ByteArray.empty 0 (-1) asc cov w) := by
  have h := gen_any s B g 0 s.size (.pointer a) (.slice none 0 0) nm tb ByteArray.empty 0 (-1) asc false cov A s.size w hs (Nat.zero_le _) ⟨hb, World.ownsRow_nil w B 5 1, fun _ => rfl⟩ hgB (by rw [pos_end]; exact ho) (by rw [pos_end]; exact clean_end s) (by rw [pos_end]; exact hn)
  rw [pos_end] at h
  exact h
/-! ### STEP 1: THE WALK -/
set_option maxHeartbeats 4000000 in
set_option maxRecDepth 100000 in
theorem walk (a0 : ByteArray) (a1 : Bool) (a2 : Option Addr) (len2 cap2 : Nat) (z2 : List Int) (w : World) (w0 : a0.size ≤ maxLen) (w2 : IsRow .u8 w a2 len2 cap2 z2)  :
    Calls Tryd.prog 3 #[.string a0, .bool a1, .slice a2 len2 cap2] w fun e w' => e = .returned (.bool true) ∧ Below w.heap.size w w' := by
  obtain ⟨hr2, hA2, hl2⟩ := isrow_reads w2
  have hwf : ∀ m ∈ z2.take len2, 0 ≤ m ∧ m ≤ 255 := fun m hm => by
    rcases w2 with ⟨_, _, _, rfl⟩ | ⟨_, _, _, _, _, _, hw⟩
    · simp at hm
    · have := hw m (List.mem_of_mem_take hm)
      simp [Lit.wf, IntKind.min, IntKind.max, IntKind.signed, IntKind.bits] at this
      omega
  generalize z2.take len2 = zs at hr2 hwf
  have hzl : zs.length = len2 := by have := hr2.1; simpa using this
  obtain ⟨l, hll, hlz⟩ := bytes_of zs hwf
  obtain ⟨s, hsl⟩ : ∃ s : ByteArray, s = ⟨l.toArray⟩ := ⟨_, rfl⟩
  have hsz : len2 = s.size := by rw [hsl]; show len2 = l.toArray.size; simp; omega
  have hget : ∀ j, j < len2 → ((s.get! j).toNat : Int) = zs.getD j 0 := fun j hj => by rw [hsl, get_l]; exact hlz j (by omega)
  subst hsz
  have HR2 := Lib.hid hr2; have HA2 := Lib.hid hA2; have HL2 := Lib.hid hl2; have HZL := Lib.hid hzl; have HGET := Lib.hid hget; have HLL := Lib.hid hll; have HSL := Lib.hid hsl
  have HW0 := Lib.hid w0
  clear hr2 hA2 hzl hget hll hsl w2 hwf hlz
  unfold maxLen at hl2 w0
  go_enter Tryd.func3, Tryd.ntmps3
  go_wp2_with (go_at_call 5; refine (zb a0 a1 a2 s.size cap2 _ HW0.out HL2.out).mono ?_)
  rintro e wz ⟨bz, rfl, rfl⟩
  cases bz
  · go_wp2
    go_ret
    exact ⟨rfl, Below.refl _ _⟩
  by_cases hb0 : 1048576 < a0.size
  · go_wp2
    go_ret
    exact ⟨rfl, Below.refl _ _⟩
  by_cases hb1 : 1048576 < s.size
  · go_wp2
    go_ret
    exact ⟨rfl, Below.refl _ _⟩
  have hwsum : IntKind.i64.wrap ((a0.size : Int) + (s.size : Int)) = (a0.size : Int) + (s.size : Int) := IntWalk.i64_in _ (by omega)
  by_cases hb2 : 1048576 < a0.size + s.size
  · have hb2' : 1048576 < (a0.size : Int) + (s.size : Int) := by omega
    go_wp2
    go_ret
    exact ⟨rfl, Below.refl _ _⟩
  have hb2' : ¬ 1048576 < (a0.size : Int) + (s.size : Int) := by omega
  have hs : s.size ≤ 1048576 := by omega
  have hs0 : a0.size ≤ 1048576 := by omega
  clear hl2 w0
  go_wp2_with (go_at_call 6; refine (cloneB a2 s.size cap2 zs _ HR2.out (by omega)).mono ?_)
  rintro e w3 hcl
  obtain ⟨A5, rfl, hO, hcv, hn5, hb3⟩ : ∃ (A5 : Option Addr), e = .returned (.slice A5 s.size s.size) ∧ (∀ W : World, Below w3.heap.size w3 W → Out W w3.heap.size A5 s.size s.size s) ∧ (∀ W : World, Below w3.heap.size w3 W → (convert 22 9 (.slice A5 s.size s.size)).run Tryd.prog W = .ok (.string s) W) ∧ (A5 = none → s.size = 0) ∧ Below w.heap.size w w3 := by
    rcases hcl with ⟨hn0, he, hw⟩ | ⟨g, _, he, hge, hbk, hb1⟩
    · have h0 := HA2.out hn0
      refine ⟨none, by rw [he, h0], fun W hW => ⟨Nat.le_refl _, Nat.le_refl _, .inl ⟨rfl, h0⟩⟩, fun W _ => ?_, fun _ => h0, by rw [← hw]; exact Below.refl _ _⟩
      have hs0 : s = ⟨#[]⟩ := by
        rw [HSL.out]
        have : l = [] := List.eq_nil_of_length_eq_zero (by have := HLL.out; have := HZL.out; omega)
        rw [this]
      rw [run_convert_bytes_string W 22 9 5 none s.size s.size Tryd.underlying22 Tryd.underlying5 Tryd.underlying9, h0, hs0]
      first | rfl | simp [Conv.bytesToString]
    · have hcell : ∀ j, j < s.size → w3.cell? ⟨g, j, none⟩ = some (.int .u8 (s.get! j).toNat) := fun j hj => by
        rw [hbk.cell, List.getElem?_toArray, List.getElem?_map, List.getElem?_eq_getElem (by have := HZL.out; omega), HGET.out j hj, List.getD_eq_getElem?_getD, List.getElem?_eq_getElem (by have := HZL.out; omega)]
        rfl
      have hcW : ∀ W : World, Below w3.heap.size w3 W → ∀ j, j < s.size → W.cell? ⟨g, j, none⟩ = some (.int .u8 (s.get! j).toNat) := fun W hW j hj => (hW.cell (p := ⟨g, j, none⟩) hbk.lt).trans (hcell j hj)
      refine ⟨_, he, fun W hW => ⟨Nat.le_refl _, Nat.le_refl _, .inr ⟨g, rfl, hbk.lt, hcW W hW⟩⟩, fun W hW => ?_, (fun h => by cases h), hb1⟩
      have hsl' : s.size = l.length := by have := HLL.out; have := HZL.out; omega
      have := run_convert_bytes_back W 22 9 5 ⟨g, 0, none⟩ s.size l Tryd.underlying22 Tryd.underlying5 Tryd.underlying9 (fun j hj => by
        have h1 := hcW W hW j (by omega)
        rw [HSL.out, get_l, List.getD_eq_getElem?_getD, List.getElem?_eq_getElem hj] at h1
        rw [show ((⟨g, 0, none⟩ : Addr).add j) = ⟨g, j, none⟩ by unfold Addr.add; split; (rename_i h0; subst h0; rfl); (simp)]
        exact h1)
      rw [← hsl', ← HSL.out] at this
      exact this
  clear hcl
  have HO := Lib.hid hO; have HCV := Lib.hid hcv; have HN5 := Lib.hid hn5; have HB3 := Lib.hid hb3
  clear hO hcv hn5 hb3
  go_wp2_with (go_at_call 7; refine (tab_any a0 _ hs0).mono ?_)
  rintro e w4 ⟨tA, tc, R, rfl, _, _, _, _, hb4⟩
  have HB4 := Lib.hid hb4
  clear hb4
  go_wp2_with (go_at_call 8; refine (mcb_any none true tA R.length tc a1 _ (fun W => by rfl)).mono ?_)
  rintro e w5 ⟨⟨hm, rfl⟩, hb5⟩
  have HB5 : Hid (Below w3.heap.size w3 w5) := Lib.hid (HB4.out.trans (hb5.mono HB4.out.size))
  have hs5 : w3.heap.size ≤ w5.heap.size := HB5.out.size
  clear hb5
  go_wp2_with (refine wpList_store_new w5 rfl 38 (.tmp 8) (.tmp 35) rfl (CB (.pointer none) (.slice none 0 0) (.map (some hm)) (.slice tA R.length tc) ByteArray.empty 0 0 0 0 (-1) a1 false true) _ rfl rfl cbI rfl (CB_one _ _ _ _ _ _ _ _ _ _ _ _ _ _) ?_)
  have HB6 : Hid (Below w3.heap.size w3 (w5.alloc (.cells (CB (.pointer none) (.slice none 0 0) (.map (some hm)) (.slice tA R.length tc) ByteArray.empty 0 0 0 0 (-1) a1 false true) 38))) := Lib.hid (HB5.out.alloc hs5 _)
  go_wp2_with (go_at_call 9; refine (gen0 s w3.heap.size w5.heap.size none (.map (some hm)) (.slice tA R.length tc) a1 true A5 _ hs (Blk.new _ _ _) hs5 (HO.out _ HB6.out) HN5.out).mono ?_)
  rintro e w7 ⟨A7, c7, rfl, hown7, hb7⟩
  have HB7 := Lib.hid (HB6.out.trans hb7)
  have HOW7 := Lib.hid hown7
  have hs7 : w3.heap.size ≤ w7.heap.size := HB7.out.size
  clear hown7 hb7
  have HB8 : Hid (Below w3.heap.size w3 (w7.alloc (.cells (CH (.slice A7 (lc s s.size).1 c7) (lc s s.size).1 (lc s s.size).2) 43))) := Lib.hid (HB7.out.alloc hs7 _)
  have hcv8 := HCV.out _ HB8.out
  go_wp2_with (first | refine wpList_store_new w7 rfl 43 (.tmp 9) (.tmp 37) rfl (CH (.slice A7 (lc s s.size).1 c7) (lc s s.size).1 (lc s s.size).2) _ rfl rfl chI rfl (CH_one _ _ _ _ _) ?_ | refine wpList_load_row rfl 43 (.tmp 9) rfl w7.heap.size rfl 43 (CH (.slice A7 (lc s s.size).1 c7) (lc s s.size).1 (lc s s.size).2) (0, 0) _ (Blk.new w7 43 _) Tryd.underlying43 rfl chI ?_ | (go_at_call 10; refine (olb_any s w3.heap.size A7 c7 _ hs (HOW7.out.alloc _)).mono ?_))
  rintro e w9 ⟨rfl, hb9⟩
  have HB9 : Hid (Below w.heap.size w w9) := Lib.hid (HB3.out.trans ((HB8.out.trans (hb9.mono (by simp; omega))).mono HB3.out.size))
  clear hb9
  go_wp2
  go_ret
  exact ⟨rfl, HB9.out⟩

/-! ### THE ROW's STEP -/
set_option maxRecDepth 100000 in
theorem lifted (os : Os) (started : os.Started) (H : Type) (enc : TypeId × Value → H) :
    ReturnsInHanded {} Tryd.checked os 3 .any (fun w args => (Rows.fnFreshChunkIsOnlyLineBreaksSpec.pre enc Tryd.prog Tryd.f3 [] false w args ∧ laidMetH Tryd.prog Rows.fnFreshChunkIsOnlyLineBreaksRow.laid w) ∧ sizedMet enc Tryd.prog Tryd.f3 (OpenSpec.ofChange Rows.fnFreshChunkIsOnlyLineBreaksSpec) false w args)
      (Rows.fnFreshChunkIsOnlyLineBreaksSpec.post enc Tryd.prog Tryd.f3 false true false false) := by
  refine returnsInHanded_of_change_and (C := Tryd.checked) (X := fun w _ => laidMetH Tryd.prog Rows.fnFreshChunkIsOnlyLineBreaksRow.laid w) (fun _ _ _ hh h => h.of_heap hh) own started (by kernel_rfl) Tryd.func3
    (ChangeSpec.witness_shaped (enc := enc) (C := Tryd.checked) (os := os) (X := fun w _ => laidMetH Tryd.prog Rows.fnFreshChunkIsOnlyLineBreaksRow.laid w) false (World.laidAll Tryd.prog os Rows.fnFreshChunkIsOnlyLineBreaksRow.laid) #[.string ByteArray.empty, .bool false, .slice none 0 0] 8 (World.laidAll_os _ _ _)
      (World.shaped_of_ZipB (by kernel_rfl) (by kernel_rfl)) (by kernel_rfl) (by kernel_rfl) (by kernel_rfl)
      (by rw [MakeChecks.laidMetH_plain _ _ _ (by kernel_rfl)]; exact laidMet_laidAll _ (by kernel_rfl) (by kernel_rfl))) ?_
  intro W base args ds gs before hval0 hW _ _ hL _
  have hval : ∀ (j : Nat) t v, Tryd.f3.params[j]? = some t → args[j]? = some v → Value.okWide Tryd.prog W .any base t v := hval0
  have hW' := hW
  obtain ⟨p, q, hA0, hV, rfl, hfz, hnd⟩ := hW
  have hA : DataW.TrodAll enc Tryd.prog W 0 (fun _ => true) true Tryd.f3.params.toList args.toList ds p := hA0
  rw [Tryd.params3] at hA hval
  obtain ⟨v0, vs0, d0, ds0, p0, q0, hargs, rfl, rfl, h0, r0⟩ := trodAll_cons hA
  obtain ⟨v1, vs1, d1, ds1, p1, q1, rfl, rfl, rfl, h1, r1⟩ := trodAll_cons r0
  obtain ⟨v2, vs2, d2, ds2, p2, q2, rfl, rfl, rfl, h2, r2⟩ := trodAll_cons r1
  obtain ⟨rfl, rfl, rfl⟩ := trodAll_nil r2
  obtain rfl : args = #[v0, v1, v2] := by cases args; simp_all
  have hV1 : DataW.TrodVars enc Tryd.prog W (fun _ => true) ["github.com/evanw/esbuild/internal/sourcemap.base64"] gs q := hV
  obtain ⟨g1, rfl⟩ : ∃ g, gs = [g] := by
    match gs, hV1 with
    | [g], _ => exact ⟨g, rfl⟩
    | [], h => exact h.elim
    | _ :: _ :: _, ⟨_, _, _, _, _, _, _, _, _, _, h, _⟩ => exact h.elim
  have k0 := h0
  have lt0 : ∀ x ∈ p0, x.block < W.heap.size := by obtain ⟨m, hm⟩ := k0; exact DataW.trod_lt m _ _ _ hm
  have k1 := h1
  have lt1 : ∀ x ∈ p1, x.block < W.heap.size := by obtain ⟨m, hm⟩ := k1; exact DataW.trod_lt m _ _ _ hm
  have k2 := h2
  have lt2 : ∀ x ∈ p2, x.block < W.heap.size := by obtain ⟨m, hm⟩ := k2; exact DataW.trod_lt m _ _ _ hm
  obtain ⟨a0, rfl, rfl, rfl, w0⟩ := open_string Tryd.underlying9 (hval 0 9 v0 rfl rfl) h0
  obtain ⟨a1, rfl, rfl, rfl⟩ := open_bool Tryd.underlying4 (hval 1 4 v1 rfl rfl) h1
  obtain ⟨a2, len2, cap2, rfl⟩ := okWide_slice Tryd.underlying22 (hval 2 22 v2 rfl rfl)
  obtain ⟨z2, w2⟩ : ∃ zs, IsRow .u8 W a2 len2 cap2 zs := by
    obtain ⟨fuel, hf⟩ := h2
    rcases open_ints Tryd.underlying22 Tryd.underlying5 (by kernel_rfl) hf with ⟨hcs, _⟩ | ⟨x, l, c, zs, hcs, _, hl, hm, hz, _, hcell, hwz⟩
    · simp [Value.cells] at hcs
      obtain ⟨rfl, rfl, rfl⟩ := hcs
      exact ⟨[], .inl ⟨rfl, rfl, rfl, rfl⟩⟩
    · simp [Value.cells] at hcs
      obtain ⟨rfl, rfl, rfl⟩ := hcs
      exact ⟨zs, .inr ⟨_, rfl, hl, hm, by simpa using hz, hcell, hwz⟩⟩
  clear hA0 hval0
  refine (walk a0 a1 a2 len2 cap2 z2 W w0 w2 ).mono fun e W' ⟨he, bel⟩ => ?_
  subst he
  exact ⟨_, rfl, _, _, _, [], _, q, hW', trodAll_mk1 (shut_bool Tryd.underlying4 _), (trodAll_cons_mk (Below.trod laidOut (by kernel_rfl) (of_decide_eq_true (by kernel_rfl)) k0 bel lt0) (trodAll_cons_mk (Below.trod laidOut (by kernel_rfl) (of_decide_eq_true (by kernel_rfl)) k1 bel lt1) (trodAll_cons_mk (Below.trod laidOut (by kernel_rfl) (of_decide_eq_true (by kernel_rfl)) k2 bel lt2) trodAll_mk0))), Below.trodVars laidOut bel (by kernel_rfl) hV1, bel.frame _, fun h => by cases h⟩

theorem over : Rows.fnFreshChunkIsOnlyLineBreaksRow.holds Tryd.pinned (OpenSpec.ofChange Rows.fnFreshChunkIsOnlyLineBreaksSpec) :=
  OpenClaim.holds_of_wide 3 Tryd.f3 rfl rfl rfl rfl rfl rfl rfl ⟨rfl, rfl, rfl, rfl, rfl⟩ rfl rfl rfl rfl rfl (by kernel_rfl) Tryd.func3 (by kernel_rfl)
    (of_decide_eq_true (by kernel_rfl)) (by unfold Func.isWrapper; first | (rw [if_pos (by decide +kernel)]; kernel_rfl) | (rw [if_neg (by decide +kernel)]; exact ⟨rfl, rfl⟩))
    (fun os started H enc _ => lifted os started H enc)

theorem proved : Rows.FnFreshChunkIsOnlyLineBreaksCardSaid :=
  Claim7.holds_tied_plain_at .later [] [.widerDeep] true (true, "190939292ed858e844c4e75e0d150a77152623d6fb3837a80aa61b9d91ad0ae8") false over (fun _ h => by cases h) (by kernel_rfl) (fun _ h => by cases h) fnFreshChunkIsOnlyLineBreaks_row_tie rfl ⟨rfl, rfl⟩ (by kernel_rfl) rfl
    (fun f fn hf hfn => by
      obtain rfl : f = 3 := Option.some.inj ((show Tryd.prog.funcNamed "github.com/evanw/esbuild/n011_313.FnFreshChunkIsOnlyLineBreaks" = some 3 by kernel_rfl).symm.trans hf) |>.symm
      obtain rfl : fn = Tryd.f3 := (Option.some.inj (Tryd.func3.symm.trans hfn)).symm
      exact ⟨by kernel_rfl, fun j t ht => by
        rw [Tryd.params3] at ht
        have hm : t ∈ [9, 4, 22] := by simpa using Array.mem_of_getElem? ht
        have hall : ([9, 4, 22].all fun u => !Tryd.prog.wantsStandIn u) = true := by kernel_rfl
        exact (show Tryd.prog.wantsStandIn t = false by simpa using List.all_eq_true.1 hall t hm)⟩)
    (by kernel_rfl)
#print axioms proved
end Go.Proofs.YtgdcpladehcegaaDoor.fnFreshChunkIsOnlyLineBreaks