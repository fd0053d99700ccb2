/-
  PROVED: On a fresh renamer, AccumulateSymbolCount of a pinned symbol changes neither the list nor a slot, of a nested symbol it puts the count into the slot, of a top-level symbol it adds exactly one entry; the law answers true at all inputs. Conditions: the card's own (the variable InvalidRef as its text lays it).
-/
import Derived.Test.YtljgaldndgbcjaaDoorRows
import Derived.Test.YtljgaldndgbcjaaDoorCards
import Derived.Test.YtljgaldndgbcjaaDoorTie
import Derived.WalkKit
import Derived.ProofKit
import Derived.Deep.QuietTactic
import Derived.BigQuiet
import Derived.IntWalk
import Derived.Deep.RegionWith
import Derived.Outline
import Derived.LoopTactic
import Derived.WalkSpells
import Derived.Deep.Light
import Derived.Test.YtljgaldndgbcjaaDoorClu
import Derived.Test.YtljgaldndgbcjaaDoorClb
import Derived.Test.YtljgaldndgbcjaaDoorInw
import Derived.Test.YtljgaldndgbcjaaDoorPra
import Derived.Test.YtljgaldndgbcjaaDoorAcz
import Derived.Test.YtljgaldndgbcjaaDoorAca
import Derived.OpenShut
import Derived.ShutString
import Derived.ChangeOld
import Derived.Below
import Derived.Carry
import Derived.OpenVars
import Derived.Handy
import Derived.Lay
import Derived.SevenTiedAt
namespace Go.Proofs.YtljgaldndgbcjaaDoor.fnLenAccumulateSymbolCount
open Go.ChangeShapes Go.WideShapes Go.ChangeAt Go.RowKit
open Go.ChangeMaps (open_string shut_string)
set_option linter.unusedVariables false
set_option linter.unusedSimpArgs false

theorem own : ownKnob Tryd.prog.godebug = none := by kernel_rfl
theorem laidOut : laidOutB Tryd.pinned.checked.prog = true := by kernel_rfl

/-- What the walk is told of a slice of integers that came in. -/
def IsRow (k : IntKind) (w : World) (a : Option Addr) (len cap : Nat) (zs : List Int) : Prop :=
  (a = none ∧ len = 0 ∧ cap = 0 ∧ zs = []) ∨
  ∃ x, a = some x ∧ len ≤ cap ∧ cap ≤ maxLen ∧ zs.length = cap ∧ (∀ i, i < zs.length → w.cell? (x.add i) = some (.int k (zs.getD i 0))) ∧ ∀ n ∈ zs, (Lit.int k n).wf = true
theorem isrow_reads {k : IntKind} {w : World} {a : Option Addr} {len cap : Nat} {zs : List Int} (h : IsRow k w a len cap zs) : Reads w w.heap.size 1 a len ((zs.take len).map (Value.int k)) ∧ (a = none → len = 0) ∧ len ≤ maxLen := by
  rcases h with ⟨rfl, rfl, rfl, rfl⟩ | ⟨x, rfl, hl, hm, hz, hc, _⟩
  · exact ⟨Reads.none_, fun _ => rfl, by unfold maxLen; omega⟩
  · refine ⟨⟨by simp; omega, fun hn => ⟨x, rfl, ?_, fun j u hu => ?_⟩⟩, (fun h => by cases h), by omega⟩
    · have := hc 0 (by omega)
      exact World.block_lt_of_cell? w x (by simpa [Addr.add] using this)
    · have hj : j < len := by
        have := (List.getElem?_eq_some_iff.1 hu).1
        simp at this; omega
      rw [hc j (by omega)]
      rw [List.getElem?_map, List.getElem?_take_of_lt hj, List.getElem?_eq_getElem (by omega)] at hu
      rw [List.getD_eq_getElem?_getD, List.getElem?_eq_getElem (by omega)]
      exact hu


theorem isrow_wf {k : IntKind} {w : World} {a : Option Addr} {len cap : Nat} {zs : List Int} (h : IsRow k w a len cap zs) : ∀ m ∈ zs.take len, (Lit.int k m).wf = true := fun m hm => by
  rcases h with ⟨_, _, _, rfl⟩ | ⟨_, _, _, _, _, _, hw⟩
  · simp at hm
  · exact hw m (List.mem_of_mem_take hm)
def CloneL (w : World) (n : Nat) (xs : List Value) (e : Ending) (w' : World) : Prop :=
  ∃ A c, e = .returned (.slice A n c) ∧ Reads w' w'.heap.size 1 A n xs ∧ Below w.heap.size w w'
theorem clone_reads {w' : World} {g n : Nat} {t : TypeId} {xs : List Value} (hbk : Blk w' g t xs.toArray) (hl : xs.length = n * 1) : Reads w' w'.heap.size 1 (some ⟨g, 0, none⟩) n xs := by
  refine ⟨hl, fun hn => ⟨_, rfl, hbk.lt, fun j u hu => ?_⟩⟩
  have := hbk.cell j
  rw [List.getElem?_toArray, hu] at this
  rw [← this]
  unfold Addr.add
  split
  · rename_i h0; subst h0; rfl
  · show World.cell? _ ⟨g, 0 + j, none⟩ = _
    rw [Nat.zero_add]
theorem cloneBR (A : Option Addr) (n cap : Nat) (zs : List Int) (w : World) (hr : Reads w w.heap.size 1 A n (zs.map (Value.int .u8))) (hA : A = none → n = 0) (hn : n ≤ 16777216) :
    Calls Tryd.prog 6 #[.slice A n cap] w (CloneL w n (zs.map (Value.int .u8))) := by
  refine (cloneB A n cap zs w hr hn).mono ?_
  rintro e w' (⟨hn0, rfl, rfl⟩ | ⟨g, _, rfl, hge, hbk, hb⟩)
  · obtain rfl := hA hn0
    exact ⟨none, 0, rfl, by have := hr.1; obtain rfl : zs = [] := List.eq_nil_of_length_eq_zero (by simpa using this); exact Reads.none_, Below.refl _ _⟩
  · exact ⟨_, _, rfl, clone_reads hbk hr.1, hb⟩
theorem cloneUR (A : Option Addr) (n cap : Nat) (zs : List Int) (w : World) (hr : Reads w w.heap.size 1 A n (zs.map (Value.int .u32))) (hA : A = none → n = 0) (hn : n ≤ 16777216) :
    Calls Tryd.prog 7 #[.slice A n cap] w (CloneL w n (zs.map (Value.int .u32))) := by
  refine (cloneU A n cap zs w hr hn).mono ?_
  rintro e w' (⟨hn0, rfl, rfl⟩ | ⟨g, _, rfl, hge, hbk, hb⟩)
  · obtain rfl := hA hn0
    exact ⟨none, 0, rfl, by have := hr.1; obtain rfl : zs = [] := List.eq_nil_of_length_eq_zero (by simpa using this); exact Reads.none_, Below.refl _ _⟩
  · exact ⟨_, _, rfl, clone_reads hbk hr.1, hb⟩
theorem kd_zero (k : Int) : kdOf k = 0 ↔ k % 3 = 0 := by unfold kdOf; split; simp [*]; split <;> simp [*]
theorem ns_range (n : Nat) (ss : List ByteArray) (ks ls ds : List Int) (t : Nat) (hd : 0 ≤ ds.getD t 0 ∧ ds.getD t 0 ≤ 4294967295) : 0 ≤ (symF n ss ks ls ds t).ns ∧ (symF n ss ks ls ds t).ns ≤ 4294967295 := by
  unfold symF
  simp only
  split <;> omega

theorem pre_own {w : World} {g n : Nat} {xs : List Int} {B : Nat} (h : PreR w g n n xs) (hB : B ≤ g) (hn : n ≤ 65536) :
    ∃ ys : List Value, w.ownsRow B 47 4 (.slice (some ⟨g, 0, none⟩) n n) n ys ∧ ys.length = n * 4 ∧ ∀ m, m < n → ys[m * 4]? = some (.int .u32 m) ∧ ys[m * 4 + 1]? = some (.int .u32 0) ∧ ys[m * 4 + 2]? = some (.int .u32 m) ∧ ys[m * 4 + 3]? = some (.int .u32 (xs.getD m 0)) := by
  obtain ⟨cs, hb, hs, hc⟩ := h
  refine ⟨cs.toList, ⟨by simp [hs], .inr ⟨g, n, cs, rfl, hB, hb, Nat.le_refl _, by unfold maxLen; omega, hs, by rw [List.take_of_length_le (by simp [hs])]⟩⟩, by simp [hs], fun m hm => ?_⟩
  simpa using hc m hm
theorem pre_cells {w : World} {g n k : Nat} {xs : List Int} (h : PreR w g n n xs) (hk : k < n) : w.cell? ⟨g, k * 4, none⟩ = some (.int .u32 k) ∧ w.cell? ⟨g, k * 4 + 1, none⟩ = some (.int .u32 0) ∧ w.cell? ⟨g, k * 4 + 2, none⟩ = some (.int .u32 k) ∧ w.cell? ⟨g, k * 4 + 3, none⟩ = some (.int .u32 (xs.getD k 0)) := by
  obtain ⟨cs, hb, _, hc⟩ := h
  obtain ⟨h0, h1, h2, h3⟩ := hc k hk
  exact ⟨(hb.cell _).trans h0, (hb.cell _).trans h1, (hb.cell _).trans h2, (hb.cell _).trans h3⟩
theorem own_slice {w : World} {B e s n : Nat} {v : Value} {xs : List Value} (h : w.ownsRow B e s v n xs) :
    ∃ A c, v = .slice A n c ∧ (0 < n → ∃ g, A = some ⟨g, 0, none⟩ ∧ g < w.heap.size ∧ ∀ j, j < n * s → w.cell? ⟨g, j, none⟩ = xs[j]?) := by
  rcases h.2 with ⟨rfl, rfl⟩ | ⟨g, cap, cur, rfl, _, hg, _⟩
  · exact ⟨none, 0, rfl, fun h => by omega⟩
  · exact ⟨_, _, rfl, fun _ => ⟨g, rfl, Blk.lt hg, fun j hj => h.cellAt j hj⟩⟩
theorem f4_le {c0 c1 c2 c3 : Nat} (h0 : c0 ≤ 65536) (h1 : c1 ≤ 65536) (h2 : c2 ≤ 65536) (h3 : c3 ≤ 65536) : ∀ j, j < 4 → f4 c0 c1 c2 c3 j ≤ 65536 := lt4 h0 h1 h2 h3
theorem sym_kd (n : Nat) (ks ds : List Int) (q : Nat) : ((symF n [] ks [] ds (rootF n [] q)).kd = 0 ∨ (symF n [] ks [] ds (rootF n [] q)).kd = 27 ∨ (symF n [] ks [] ds (rootF n [] q)).kd = 18) ∧ (symF n [] ks [] ds (rootF n [] q)).fl = 0 := by
  refine ⟨?_, rfl⟩
  show kdOf _ = 0 ∨ kdOf _ = 27 ∨ kdOf _ = 18
  unfold kdOf; split; simp; split <;> simp
theorem made1 : madeCells #[Value.int .u32 0] 1 = #[Value.int .u32 0] := by kernel_rfl
theorem mk_one (W : World) : (Instr.makeSlice 23 (.int .i64 1) (.int .i64 1)).run Tryd.prog W = .ok (.slice (some ⟨W.heap.size, 0, none⟩) 1 1) (W.alloc (.cells #[.int .u32 0] 24)) := by
  obtain ⟨i1, hi', hz0', hz1', hz2'⟩ := info_parts cloneU_info
  have hr := run_make (P := Tryd.prog) W 23 24 i1 (.int .u32 0) Tryd.underlying23 hi' hz0' .i64 .i64 (1 : Nat) (1 : Nat) (by omega) (by omega) (by rw [hz2']; omega) (by omega)
  rw [hz1'] at hr
  rw [← made1]
  exact hr
theorem rootF_nil (n t : Nat) : rootF n [] t = t := rootF_end (fun h => by have := h.2.1; simp at this; omega)
theorem sym_ns (n : Nat) (ks ds : List Int) (q : Nat) (hd : 0 ≤ ds.getD q 0 ∧ ds.getD q 0 ≤ 4294967295) : 0 ≤ (symF n [] ks [] ds (rootF n [] q)).ns ∧ (symF n [] ks [] ds (rootF n [] q)).ns ≤ 4294967295 := by
  rw [rootF_nil]; exact ns_range n [] ks [] ds q hd
theorem sym_rg (n : Nat) (ks ds : List Int) (q c0 c1 c2 c3 : Nat) (hd : 0 ≤ ds.getD q 0 ∧ ds.getD q 0 ≤ 4294967295) (h : nestOk c0 c1 c2 c3 ks ds q) :
    (symF n [] ks [] ds (rootF n [] q)).kd = 0 ∨ (symF n [] ks [] ds (rootF n [] q)).ns = 0 ∨ 4294967295 - (symF n [] ks [] ds (rootF n [] q)).ns < f4 c0 c1 c2 c3 (jOf (symF n [] ks [] ds (rootF n [] q)).kd) := by
  rw [rootF_nil]
  unfold symF
  simp only [kd_zero]
  rcases h with h | h | h
  · exact .inl h
  · exact .inr (.inl (if_pos h))
  · by_cases h2 : ds.getD q 0 = 0
    · exact .inr (.inl (if_pos h2))
    · by_cases h1 : ks.getD q 0 % 3 = 0
      · exact .inl h1
      · refine .inr (.inr ?_)
        rw [if_neg h2]
        by_cases h3 : ks.getD q 0 % 3 = 1
        · have e1 : nsI (ks.getD q 0) = 0 := by unfold nsI; exact if_neg (by omega)
          have e2 : jOf (kdOf (ks.getD q 0)) = 0 := by unfold kdOf; rw [if_neg h1, if_pos h3]; rfl
          rw [e1, show cAt c0 c1 c2 c3 0 = c0 from rfl] at h
          rw [e2, show f4 c0 c1 c2 c3 0 = c0 from rfl]
          omega
        · have e1 : nsI (ks.getD q 0) = 1 := by unfold nsI; exact if_pos (by omega)
          have e2 : jOf (kdOf (ks.getD q 0)) = 1 := by unfold kdOf; rw [if_neg h1, if_neg h3]; rfl
          rw [e1, show cAt c0 c1 c2 c3 1 = c1 from rfl] at h
          rw [e2, show f4 c0 c1 c2 c3 1 = c1 from rfl]
          omega
theorem nest_lt (ks ds : List Int) (q c0 c1 c2 c3 : Nat) (h : nestOk c0 c1 c2 c3 ks ds q) (h1 : ¬ ks.getD q 0 % 3 = 0) (h2 : ¬ ds.getD q 0 = 0) (j : Nat) (hj : nsI (ks.getD q 0) = j) (m : Nat) (hm : ds.getD q 0 - 1 = m) : j < 4 ∧ m < f4 c0 c1 c2 c3 j := by
  rcases h with h | h | h
  · exact absurd h h1
  · exact absurd h h2
  · rw [hj, hm] at h
    rcases nsI_01 (ks.getD q 0) with e | e
    · obtain rfl : j = 0 := by omega
      refine ⟨by omega, ?_⟩
      have : cAt c0 c1 c2 c3 ((0 : Nat) : Int) = c0 := rfl
      rw [this] at h
      show m < c0
      omega
    · obtain rfl : j = 1 := by omega
      refine ⟨by omega, ?_⟩
      have : cAt c0 c1 c2 c3 ((1 : Nat) : Int) = c1 := rfl
      rw [this] at h
      show m < c1
      omega
theorem out_law (n : Nat) (ks ds : List Int) (q : Nat) (count : Int) (hc : 0 ≤ count ∧ count ≤ 4294967295) {L Lf : Nat} {xs xs' news : List Value} {cf' : Nat → Nat → Int}
    (h : AccOut (symF n [] ks [] ds q).kd (symF n [] ks [] ds q).ns count L Lf xs xs' news (fun _ _ => 0) cf') (hd : 0 ≤ ds.getD q 0 ∧ ds.getD q 0 ≤ 4294967295) :
    (ks.getD q 0 % 3 = 0 ∧ Lf = L ∧ xs' = xs ∧ cf' = fun _ _ => 0) ∨
    (¬ ks.getD q 0 % 3 = 0 ∧ ¬ ds.getD q 0 = 0 ∧ Lf = L ∧ xs' = xs ∧ cf' (nsI (ks.getD q 0)).toNat (ds.getD q 0 - 1).toNat = count) ∨
    (¬ ks.getD q 0 % 3 = 0 ∧ ds.getD q 0 = 0 ∧ Lf = L + 1 ∧ xs' = xs ++ news ∧ cf' = fun _ _ => 0) := by
  unfold symF AccOut at h
  simp only [kd_zero, ne_eq] at h
  rcases h with h | h | h
  · exact .inl h
  · obtain ⟨h1, h2, h3, h4, h5⟩ := h
    have hz : ¬ ds.getD q 0 = 0 := fun e => h2 (if_pos e)
    refine .inr (.inl ⟨h1, hz, h3, h4, ?_⟩)
    rw [if_neg hz] at h5
    have e3 : (4294967295 - (4294967295 - (ds.getD q 0 - 1))).toNat = (ds.getD q 0 - 1).toNat := by congr 1; omega
    rw [e3] at h5
    have e2 : jOf (kdOf (ks.getD q 0)) = (nsI (ks.getD q 0)).toNat := by
      unfold kdOf nsI
      rw [if_neg h1]
      by_cases h6 : ks.getD q 0 % 3 = 1
      · rw [if_pos h6, if_neg (by omega)]; rfl
      · rw [if_neg h6, if_pos (by omega)]; rfl
    rw [e2] at h5
    rw [h5, upd2_at]
    unfold updI
    rw [if_pos rfl, IntKind.wrap_u32]
    omega
  · obtain ⟨h1, h2, h3, h4, h5⟩ := h
    refine .inr (.inr ⟨h1, ?_, h3, h4, h5⟩)
    rcases Classical.em (ds.getD q 0 = 0) with e | e
    · exact e
    · rw [if_neg e] at h2; omega
/-! ### STEP 1: THE WALK -/
set_option maxHeartbeats 4000000 in
set_option maxRecDepth 100000 in
theorem walk (a0 : Option Addr) (len0 cap0 : Nat) (z0 : List Int) (a1 : Option Addr) (len1 cap1 : Nat) (z1 : List Int) (a2 : Option Addr) (len2 cap2 : Nat) (z2 : List Int) (a3 : Int) (a4 : Int) (a5 : Int) (a6 : Int) (a7 : Int) (a8 : Int) (a9 : Int) (w : World) (w0 : IsRow .u8 w a0 len0 cap0 z0) (w1 : IsRow .u32 w a1 len1 cap1 z1) (w2 : IsRow .u32 w a2 len2 cap2 z2) (w3 : (Lit.int .u32 a3).wf = true) (w4 : (Lit.int .u32 a4).wf = true) (w5 : (Lit.int .u32 a5).wf = true) (w6 : (Lit.int .u32 a6).wf = true) (w7 : (Lit.int .u32 a7).wf = true) (w8 : (Lit.int .u32 a8).wf = true) (w9 : (Lit.int .u32 a9).wf = true) (hI : Inv w) (hL : laidMetH Tryd.prog Rows.fnLenAccumulateSymbolCountRow.laid w) :
    Calls Tryd.prog 3 #[.slice a0 len0 cap0, .slice a1 len1 cap1, .slice a2 len2 cap2, .int .u32 a3, .int .u32 a4, .int .u32 a5, .int .u32 a6, .int .u32 a7, .int .u32 a8, .int .u32 a9] w fun e w' => e = .returned (.bool true) ∧ Below w.heap.size w w' := by
  obtain ⟨hr0, hA0, hl0⟩ := isrow_reads w0
  have hw0 := isrow_wf w0
  generalize z0.take len0 = x0 at hr0 hw0
  have hb0 : ∀ m ∈ x0, 0 ≤ m ∧ m ≤ 255 := fun m hm => by
    have := hw0 m hm
    simp [Lit.wf, IntKind.min, IntKind.max, IntKind.signed, IntKind.bits] at this
    omega
  have HR0 := Lib.hid hr0; have HA0 := Lib.hid hA0; have HB0 := Lib.hid hb0; have HL0 := Lib.hid hl0
  have l0 : len0 ≤ 9223372036854775807 := hl0
  clear hr0 hA0 hb0 hw0 hl0 w0
  obtain ⟨hr1, hA1, hl1⟩ := isrow_reads w1
  have hw1 := isrow_wf w1
  generalize z1.take len1 = x1 at hr1 hw1
  have hb1 : ∀ m ∈ x1, 0 ≤ m ∧ m ≤ 4294967295 := fun m hm => by
    have := hw1 m hm
    simp [Lit.wf, IntKind.min, IntKind.max, IntKind.signed, IntKind.bits] at this
    omega
  have HR1 := Lib.hid hr1; have HA1 := Lib.hid hA1; have HB1 := Lib.hid hb1; have HL1 := Lib.hid hl1
  have l1 : len1 ≤ 9223372036854775807 := hl1
  clear hr1 hA1 hb1 hw1 hl1 w1
  obtain ⟨hr2, hA2, hl2⟩ := isrow_reads w2
  have hw2 := isrow_wf w2
  generalize z2.take len2 = x2 at hr2 hw2
  have hb2 : ∀ m ∈ x2, 0 ≤ m ∧ m ≤ 4294967295 := fun m hm => by
    have := hw2 m hm
    simp [Lit.wf, IntKind.min, IntKind.max, IntKind.signed, IntKind.bits] at this
    omega
  have HR2 := Lib.hid hr2; have HA2 := Lib.hid hA2; have HB2 := Lib.hid hb2; have HL2 := Lib.hid hl2
  have l2 : len2 ≤ 9223372036854775807 := hl2
  clear hr2 hA2 hb2 hw2 hl2 w2
  simp [Lit.wf, IntKind.min, IntKind.max, IntKind.signed, IntKind.bits] at w3 w4 w5 w6 w7 w8 w9
  obtain ⟨q, rfl⟩ := Int.eq_ofNat_of_zero_le w3.1
  obtain ⟨c0, rfl⟩ := Int.eq_ofNat_of_zero_le w6.1
  obtain ⟨c1, rfl⟩ := Int.eq_ofNat_of_zero_le w7.1
  obtain ⟨c2, rfl⟩ := Int.eq_ofNat_of_zero_le w8.1
  obtain ⟨c3, rfl⟩ := Int.eq_ofNat_of_zero_le w9.1
  have HI := Lib.hid hI
  have hpos := hI.pos
  have HCT := Lib.hid w4
  clear hI w3 w4 w5 w6 w7 w8 w9
  go_enter Tryd.func3, Tryd.ntmps3
  go_wp2_with (go_at_call 4; refine (zbytes a0 len0 cap0 a1 len1 cap1 a2 len2 cap2 q a4 a5 c0 c1 c2 c3 _ l0 l1 l2).mono ?_)
  rintro e wz ⟨bz, rfl, rfl⟩
  cases bz
  · go_wp2
    go_ret
    exact ⟨rfl, Below.refl _ _⟩
  go_wp2_with (go_at_call 5; refine (fit_any a0 len0 cap0 x0 a1 len1 cap1 x1 a2 len2 cap2 c0 c1 c2 c3 q a4 a5 _ HR0.out HR1.out l0 l2 l1 (by omega) HB0.out HB1.out).mono ?_)
  rintro e wf ⟨bf, rfl, hfit, NN, hwf⟩
  have BF0 : Hid (Below w.heap.size w wf) := Lib.hid (by rw [hwf]; exact below_drewN (Below.refl _ _) _)
  have hwsz : w.heap.size ≤ wf.heap.size := BF0.out.size
  cases bf
  · clear hwf hfit
    go_wp2
    go_ret
    exact ⟨rfl, BF0.out⟩
  have fit := hfit rfl
  have R0 := Lib.hid ((HR0.out.below BF0.out).more hwsz); have R1 := Lib.hid ((HR1.out.below BF0.out).more hwsz); have R2 := Lib.hid ((HR2.out.below BF0.out).more hwsz)
  obtain ⟨hn, hnp, e3, hq, hc, hnest⟩ := fit
  have HNEST := Lib.hid hnest
  clear hfit hwf hnest HR0 HR1 HR2
  obtain ⟨hc0, hc1, hc2, hc3⟩ := hc
  have e3' := e3.symm
  clear e3
  subst e3'
  have hq' : q < len0 := by omega
  go_wp2_with (go_at_call 6; refine (cloneBR a0 len0 cap0 x0 _ R0.out HA0.out (by omega)).mono ?_)
  rintro e wa ⟨A0, d0, rfl, hr, hba⟩
  have BA := Lib.hid (BF0.out.trans (hba.mono hwsz))
  have Q0 := Lib.hid hr; have RA1 := Lib.hid ((R1.out.below hba).more hba.size); have RA2 := Lib.hid ((R2.out.below hba).more hba.size)
  clear hr hba R0 R1 R2
  go_wp2_with (go_at_call 7; refine (cloneUR a1 len0 cap1 x1 _ RA1.out HA1.out (by omega)).mono ?_)
  rintro e wb ⟨A1, d1, rfl, hr, hbb⟩
  have BB := Lib.hid (BA.out.trans (hbb.mono BA.out.size))
  have QB0 := Lib.hid ((Q0.out.below hbb).more hbb.size); have QB1 := Lib.hid hr; have RB2 := Lib.hid ((RA2.out.below hbb).more hbb.size)
  clear hr hbb Q0 RA1 RA2
  go_wp2_with (go_at_call 7; refine (cloneUR a2 len2 cap2 x2 _ RB2.out HA2.out (by omega)).mono ?_)
  rintro e wd ⟨A2, d2, rfl, hr, hbd⟩
  have BD := Lib.hid (BB.out.trans (hbd.mono BB.out.size))
  have QD0 := Lib.hid ((QB0.out.below hbd).more hbd.size); have QD1 := Lib.hid ((QB1.out.below hbd).more hbd.size); have QD2 := Lib.hid hr
  clear hr hbd QB0 QB1 RB2
  go_wp2_with (go_at_call 8; refine (build none 0 0 [] A0 len0 d0 x0 none 0 0 [] A1 len0 d1 x1 wd Reads.none_ QD0.out Reads.none_ QD1.out (by omega) (by omega) (by omega) (by omega) HB0.out (by simp) HB1.out).mono ?_)
  rintro e we ⟨o, g, rfl, ho, hg, hog, hout, htab, hbe⟩
  have BE := Lib.hid (BD.out.trans (hbe.mono BD.out.size))
  have hwd := BD.out.size
  have hgl := htab.lt
  have HOUT := Lib.hid hout; have HTAB := Lib.hid htab; have HBE := Lib.hid hbe
  clear hout htab hbe
  obtain ⟨X, hX⟩ : ∃ X, X = we.alloc (.cells #[.slice (some ⟨o, 0, none⟩) 1 1] 30) := ⟨_, rfl⟩
  have HGX : Hid (we.grownBy X none) := Lib.hid (by rw [hX]; exact only_alloc (World.grownBy.refl _ _) _)
  have HBX : Hid (Blk X we.heap.size 30 #[.slice (some ⟨o, 0, none⟩) 1 1]) := Lib.hid (by rw [hX]; exact Blk.new _ _ _)
  have HXX := Lib.hid hX
  go_upto_region 9 with fail
  rw [← HXX.out]
  clear hX HXX
  have kx : X.cell? ⟨we.heap.size, 0, none⟩ = some (.slice (some ⟨o, 0, none⟩) 1 1) := HBX.out.cell 0
  have HWX : Hid (∀ W wg : World, (W = X ∨ W = X.drew ∨ W = X.drew.drew) → W.grownBy wg none → we.grownBy wg none ∧ wg.cell? ⟨we.heap.size, 0, none⟩ = some (.slice (some ⟨o, 0, none⟩) 1 1)) := Lib.hid (fun W wg hW hg => by
    rcases hW with rfl | rfl | rfl
    · exact ⟨grown_tr HGX.out hg, (HBX.out.grown hg (by simp)).cell 0⟩
    · exact ⟨grown_tr (only_drew HGX.out) hg, (HBX.out.drew.grown hg (by simp)).cell 0⟩
    · exact ⟨grown_tr (only_drew (only_drew HGX.out)) hg, (HBX.out.drew.drew.grown hg (by simp)).cell 0⟩)
  go_cut [22] (fun p wx => ∃ br gm gs, p = .pointer (some ⟨br, 0, none⟩) ∧ RS o none br gm gs (f4 c0 c1 c2 c3) (fun _ _ => 0) (fun _ _ => 0) wx ∧ we.grownBy wx none ∧ (we.heap.size ≤ br ∧ ∀ j, j < 4 → we.heap.size ≤ gs j))
  case first =>
    go_region_with (first | (go_at_call 10; refine (sc_any c0 c1 c2 c3 _).mono ?_; rintro e wg ⟨rfl, hgg⟩; obtain ⟨g1, kg⟩ := HWX.out _ wg (by first | exact Or.inl rfl | exact Or.inr (Or.inl rfl) | exact Or.inr (Or.inr rfl)) hgg; have HGG := Lib.hid g1; clear hgg g1) | (go_at_call 9; refine (newR o none c0 c1 c2 c3 (by omega) (by omega) (by omega) (by omega) _).mono ?_; rintro e wh ⟨vr, rfl, hptr, hgh⟩; obtain ⟨br, gm, gs, rfl, hbr, _, hgs, _, hren⟩ := RS.of_ptr hptr; have HGH := Lib.hid hgh; have HREN := Lib.hid hren; have HBR := Lib.hid hbr; have HGS := Lib.hid hgs; clear hptr hgh hren hbr hgs))
    all_goals
      go_wp2_with fail
      go_meet
      exact ⟨br, gm, gs, rfl, HREN.out, by first | exact grown_tr HGG.out HGH.out | exact grown_tr (only_drew HGG.out) HGH.out, Nat.le_trans HGG.out.size HBR.out, fun j hj => Nat.le_trans HGG.out.size (HGS.out j hj)⟩
  case rest =>
   obtain ⟨br, gm, gs, rfl, hren, hge, hbr, hgs⟩ := hcut
   obtain ⟨wh, rfl⟩ : ∃ wh : World, wh = wc := ⟨_, rfl⟩
   have HREN := Lib.hid hren; have HGH := Lib.hid hge; have HGS := Lib.hid hgs
   clear hren hge HWX kx HGX HBX hgs
   have BH : Hid (Below w.heap.size w wh) := Lib.hid (BE.out.grown HGH.out (by have := BE.out.size; omega) (fun k hk => by cases hk))
   have BDH : Hid (Below wd.heap.size wd wh) := Lib.hid (HBE.out.grown HGH.out HBE.out.size (fun k hk => by cases hk))
   go_wp2_with (go_at_call 11; refine (pre_any A2 len2 d2 x2 _ ((QD2.out.below BDH.out).more BDH.out.size) (by omega)).mono ?_)
   rintro e wi ⟨g1, rfl, hg1, hp1, hb1⟩
   have HBP := Lib.hid (BH.out.trans (hb1.mono BH.out.size)); have HBD1 := Lib.hid (BDH.out.trans (hb1.mono BDH.out.size))
   have hsi := hb1.size; have hsh := BH.out.size; have hsd := BDH.out.size; have hse := HGH.out.size
   have HRENI := Lib.hid (HREN.out.turned (Turned.of_below hb1) (S := fun _ => False) (fun e => e) (fun _ _ e => e))
   have HOUTI : Hid (Out1 wi o g len0) := Lib.hid (Blk.below (Blk.grown HOUT.out HGH.out (by simp)) hb1 (by have := HOUT.out.lt; omega))
   have HTABI := Lib.hid ((HTAB.out.grown HGH.out (by simp)).below hb1 (by omega))
   have HP1 := Lib.hid hp1
   have hl1 : g1 < wi.heap.size := by obtain ⟨cs, h, _⟩ := hp1; exact h.lt
   clear hb1 hp1
   obtain ⟨Y, hY⟩ : ∃ Y, Y = wi.alloc (.cells #[.slice (some ⟨g1, 0, none⟩) len2 len2] 38) := ⟨_, rfl⟩
   have HGY : Hid (wi.grownBy Y none) := Lib.hid (by rw [hY]; exact only_alloc (World.grownBy.refl _ _) _)
   have HPT : Hid (Blk Y wi.heap.size 38 #[.slice (some ⟨g1, 0, none⟩) len2 len2]) := Lib.hid (by rw [hY]; exact Blk.new _ _ _)
   have HYY := Lib.hid hY
   go_upto_region 11 with fail
   rw [← HYY.out]
   clear hY HYY
   have hYs := HGY.out.size
   go_wp2_with (go_at_call 11; refine (pre_any A2 len2 d2 x2 _ (((QD2.out.below HBD1.out).grown HGY.out HBD1.out.size (fun k hk => by cases hk)).more (by omega)) (by omega)).mono ?_)
   rintro e wj ⟨g2, rfl, hg2, hp2, hb2⟩
   have hsj := hb2.size
   have hly : wi.heap.size < Y.heap.size := HPT.out.lt
   have HBJ : Hid (Below w.heap.size w wj) := Lib.hid ((HBP.out.grown HGY.out HBP.out.size (fun k hk => by cases hk)).trans (hb2.mono (by have := HBP.out.size; omega)))
   have HBDJ : Hid (Below wd.heap.size wd wj) := Lib.hid ((HBD1.out.grown HGY.out HBD1.out.size (fun k hk => by cases hk)).trans (hb2.mono (by have := HBD1.out.size; omega)))
   have HRENJ := Lib.hid ((HRENI.out.turned (Turned.of_grown HGY.out (S := fun _ => False) (fun _ h => by cases h)) (fun e => e) (fun _ _ e => e)).turned (Turned.of_below hb2) (S := fun _ => False) (fun e => e) (fun _ _ e => e))
   have HOUTJ : Hid (Out1 wj o g len0) := Lib.hid (Blk.below (Blk.grown HOUTI.out HGY.out (by simp)) hb2 (by have := HOUTI.out.lt; omega))
   have HTABJ := Lib.hid (lk_of ((HTABI.out.grown HGY.out (by simp)).below hb2 (by have := HTABI.out.lt; omega)))
   have HPTJ := Lib.hid (HPT.out.below hb2 hly)
   have HP1J : Hid (PreR wj g1 len2 len2 x2) := Lib.hid (by
     obtain ⟨cs, h, h'⟩ := HP1.out.grown HGY.out
     exact ⟨cs, h.below hb2 (by omega), h'⟩)
   have HP2J := Lib.hid hp2
   obtain ⟨ptb, hptb⟩ : ∃ x, x = wi.heap.size := ⟨_, rfl⟩
   rw [← hptb] at HPTJ ⊢
   have hptb1 : g1 < ptb := by omega
   have hptb2 : ptb < g2 := by omega
   have hptb3 : wd.heap.size ≤ ptb := by omega
   have hptbw : w.heap.size ≤ ptb := by omega
   have hbr2 : br < ptb := by rw [hptb]; exact HRENI.out.blk.lt
   have hgs2 : ∀ j, j < 4 → gs j < ptb := fun j hj => by rw [hptb]; exact ((HRENI.out.slt j hj).lt)
   have HGS2 := Lib.hid hgs2
   have hgpt : g < ptb := by rw [hptb]; exact HTABI.out.lt
   have hg2j : g2 < wj.heap.size := by obtain ⟨cs, h, _⟩ := hp2; exact h.lt
   clear hb2 hp2 hptb hgs2
   have kpt : wj.cell? ⟨ptb, 0, none⟩ = some (.slice (some ⟨g1, 0, none⟩) len2 len2) := HPTJ.out.cell 0
   have hmk1 := mk_one
   go_upto_region 16 with (go_at_call 12; refine (len_any _ _ _ _).mono ?_; rintro e wz ⟨rfl, rfl⟩)
   obtain ⟨Z, hZ⟩ : ∃ Z, Z = wj.alloc (.cells #[.int .u32 a5] 24) := ⟨_, rfl⟩
   have HGZ : Hid (wj.grownBy Z none) := Lib.hid (by rw [hZ]; exact only_alloc (World.grownBy.refl _ _) _)
   have HSB : Hid (Blk Z wj.heap.size 24 #[.int .u32 a5]) := Lib.hid (by rw [hZ]; exact Blk.new _ _ _)
   have HZZ := Lib.hid hZ
   rw [← HZZ.out]
   clear hZ HZZ kpt hmk1
   go_wp2_with (go_at_call 14; refine (ref_any q _).mono ?_)
   rintro e wk ⟨rfl, hgk⟩
   have hgk2 := grown_tr HGZ.out hgk
   have hsk := hgk2.size
   have HRENK := Lib.hid (HRENJ.out.turned (Turned.of_grown hgk2 (S := fun _ => False) (fun _ h => by cases h)) (fun e => e) (fun _ _ e => e))
   have HOUTK : Hid (Out1 wk o g len0) := Lib.hid (Blk.grown HOUTJ.out hgk2 (by simp))
   have HLKK := Lib.hid (HTABJ.out.grown hgk2 (by simp))
   have HPTK := Lib.hid (HPTJ.out.grown hgk2 (by simp))
   have HSBK := Lib.hid (HSB.out.grown hgk (by simp))
   have HBK : Hid (Below w.heap.size w wk) := Lib.hid (HBJ.out.grown hgk2 HBJ.out.size (fun k hk => by cases hk))
   have HBDK : Hid (Below wd.heap.size wd wk) := Lib.hid (HBDJ.out.grown hgk2 HBDJ.out.size (fun k hk => by cases hk))
   obtain ⟨ys, hown, hyl, hys⟩ := pre_own (B := wd.heap.size) (HP1J.out.grown hgk2) (by omega) hnp
   have HOWN := Lib.hid hown; have HYS := Lib.hid hys; have HYL := Lib.hid hyl
   have HP2K := Lib.hid (HP2J.out.grown hgk2)
   clear hgk hgk2 hown hys hyl
   have lk0 : x0.length = len0 := by have := QD0.out.1; simpa using this
   have lk1 : x1.length = len0 := by have := QD1.out.1; simpa using this
   obtain ⟨y0, hy0⟩ : ∃ x, x0[q]? = some x := ⟨_, List.getElem?_eq_getElem (by omega)⟩
   obtain ⟨y1, hy1⟩ : ∃ x, x1[q]? = some x := ⟨_, List.getElem?_eq_getElem (by omega)⟩
   have q0 := HB0.out y0 (List.mem_of_getElem? hy0)
   have q1 := HB1.out y1 (List.mem_of_getElem? hy1)
   have d0' : x0.getD q 0 = y0 := by rw [List.getD_eq_getElem?_getD, hy0]; rfl
   have d1' : x1.getD q 0 = y1 := by rw [List.getD_eq_getElem?_getD, hy1]; rfl
   have hR0 := rootF_nil len0 q
   have HK1 := Lib.hid (sym_kd len0 x0 x1 q)
   have HK2 := Lib.hid (sym_ns len0 x0 x1 q (by rw [d1']; exact q1))
   have HK3 := Lib.hid (sym_rg len0 x0 x1 q c0 c1 c2 c3 (by rw [d1']; exact q1) (HNEST.out q hq'))
   have HY0 := Lib.hid hy0; have HY1 := Lib.hid hy1; have HD0 := Lib.hid d0'; have HD1 := Lib.hid d1'; have HR0 := Lib.hid hR0
   clear hy0 hy1 d0' d1' hR0 lk0 lk1
   go_wp2_with (go_at_call 13; refine (acc_all br o none gm gs (f4 c0 c1 c2 c3) (fun _ _ => 0) (fun _ _ => 0) g len0 (symF len0 [] x0 [] x1) (rootF len0 []) (fun m => len0 - m) q wk (by omega) hog (by omega) (rootF_roots len0 []) hq' (HI.out.below HBK.out hpos) HOUTK.out HLKK.out HRENK.out ptb wj.heap.size a4 a5 wd.heap.size len2 len2 (some ⟨g1, 0, none⟩) ys HK1.out.1 HK1.out.2 HK2.out HK3.out (f4_le (by omega) (by omega) (by omega) (by omega)) HPTK.out HSBK.out HOWN.out (by omega) HBDK.out.size).mono ?_)
   rintro e wl ⟨rfl, v', Lf, xs', cf', hptl, hownl, hlkl, hrsl, hturn, hout⟩
   rw [HR0.out] at hout
   have hout2 := out_law len0 x0 x1 q a4 HCT.out hout (by rw [HD1.out]; exact q1)
   rw [HD0.out, HD1.out] at hout2
   have hS : ∀ i, i < wk.heap.size → (i = g ∨ i = ptb ∨ (Value.slice (some (⟨g1, 0, none⟩ : Addr)) len2 len2).ownBlock = some i ∨ i = gs 0 ∨ i = gs 1) → wd.heap.size ≤ i ∧ i ≠ g2 := fun i _ hi => by
     rcases hi with rfl | rfl | hi | rfl | rfl
     · exact ⟨hg, by omega⟩
     · exact ⟨hptb3, by omega⟩
     · have : g1 = i := by simpa [Value.ownBlock] using hi
       omega
     · exact ⟨by have := HGS.out 0 (by omega); omega, by have := HGS2.out 0 (by omega); omega⟩
     · exact ⟨by have := HGS.out 1 (by omega); omega, by have := HGS2.out 1 (by omega); omega⟩
   have HBL : Hid (Below w.heap.size w wl) := Lib.hid (HBK.out.trans (hturn.below (fun i hi hs => by have := (hS i hi hs).1; omega) HBK.out.size))
   have HBDL : Hid (Below wd.heap.size wd wl) := Lib.hid (HBDK.out.trans (hturn.below (fun i hi hs => (hS i hi hs).1) HBDK.out.size))
   have HP2L : Hid (PreR wl g2 len2 len2 x2) := Lib.hid (by
     obtain ⟨cs, h, h'⟩ := HP2K.out
     exact ⟨cs, hturn.blk h (fun hs => (hS g2 (by have := hsk; omega) hs).2 rfl), h'⟩)
   obtain ⟨A', cp, rfl, hform⟩ := own_slice hownl
   have HFORM := Lib.hid hform; have HRSL := Lib.hid hrsl; have HOUT2 := Lib.hid hout2
   have kpt : wl.cell? ⟨ptb, 0, none⟩ = some (.slice A' Lf cp) := hptl.cell 0
   have KPT := Lib.hid kpt
   have hLf : len2 ≤ Lf ∧ Lf ≤ len2 + 1 := by rcases HOUT2.out with h | h | h <;> omega
   have hLf1 := hLf.1; have hLf2 := hLf.2
   have HXS : Hid (∀ j, j < len2 * 4 → xs'[j]? = ys[j]?) := Lib.hid (fun j hj => by
     rcases HOUT2.out with h | h | h
     · rw [h.2.2.1]
     · rw [h.2.2.2.1]
     · rw [h.2.2.2.1, List.getElem?_append_left (by have := HYL.out; omega)])
   clear hout hout2 hS hptl hownl hlkl hrsl hturn hform hLf
   clear HOWN HP1J HP2J HPTJ HTABJ HOUTJ HRENJ HRENK HOUTK HLKK HPTK HSBK HP2K HGZ HSB HBJ HBDJ HBP HBD1 HRENI HOUTI HTABI HP1 HGY HPT BH BDH HREN HGH HOUT HTAB HBE
   have LNX : Hid (∀ (A : Option Addr) (n c : Nat) (W : World), Calls Tryd.prog 12 #[.slice A n c] W fun e w' => e = .returned (.int .i64 n) ∧ w' = W) := Lib.hid (fun A n c W => (len_any A n c W).mono fun _ _ h => ⟨h.1, h.2.symm⟩)
   go_wp2_with (go_at_call 12; refine (len_any _ _ _ _).mono ?_; rintro e wz ⟨rfl, rfl⟩)
   clear kpt
   go_loopw [26] (fun c wr => ∃ k N : Nat, c = .int .i64 k ∧ k ≤ len2 ∧ wr = wl.drewN N) (fun c _ => len2 - (intOf c).toNat)
   case atStart => exact ⟨0, 0, rfl, by omega, rfl⟩
   case round =>
     obtain ⟨k, N, rfl, hk, hw⟩ := hrel
     have HW := Lib.hid hw
     clear hw
     have kpt : wr.cell? ⟨ptb, 0, none⟩ = some (.slice A' Lf cp) := by rw [HW.out]; exact KPT.out
     by_cases hlt : k < len2
     · obtain ⟨gl, hA', hgl, hcl⟩ := HFORM.out (by omega)
       subst hA'
       obtain ⟨z0, z1, z2, z3⟩ := HYS.out k hlt
       have c0' : wr.cell? ⟨gl, k * 4, none⟩ = some (.int .u32 k) := by rw [HW.out]; exact (hcl _ (by omega)).trans ((HXS.out _ (by omega)).trans z0)
       have c1' : wr.cell? ⟨gl, k * 4 + 1, none⟩ = some (.int .u32 0) := by rw [HW.out]; exact (hcl _ (by omega)).trans ((HXS.out _ (by omega)).trans z1)
       have c2' : wr.cell? ⟨gl, k * 4 + 2, none⟩ = some (.int .u32 k) := by rw [HW.out]; exact (hcl _ (by omega)).trans ((HXS.out _ (by omega)).trans z2)
       have c3' : wr.cell? ⟨gl, k * 4 + 3, none⟩ = some (.int .u32 (x2.getD k 0)) := by rw [HW.out]; exact (hcl _ (by omega)).trans ((HXS.out _ (by omega)).trans z3)
       obtain ⟨e0', e1', e2', e3'⟩ := pre_cells HP2L.out hlt
       have f0' : wr.cell? ⟨g2, k * 4, none⟩ = some (.int .u32 k) := by rw [HW.out]; exact e0'
       have f1' : wr.cell? ⟨g2, k * 4 + 1, none⟩ = some (.int .u32 0) := by rw [HW.out]; exact e1'
       have f2' : wr.cell? ⟨g2, k * 4 + 2, none⟩ = some (.int .u32 k) := by rw [HW.out]; exact e2'
       have f3' : wr.cell? ⟨g2, k * 4 + 3, none⟩ = some (.int .u32 (x2.getD k 0)) := by rw [HW.out]; exact e3'
       generalize x2.getD k 0 = u at c3' f3'
       clear hcl z0 z1 z2 z3 e0' e1' e2' e3'
       have i0 : (0 : Int) ≤ (k : Int) := by omega
       have i1 : (k : Int) < (len2 : Int) := by omega
       have i2 : (k : Int) < (Lf : Int) := by omega
       go_wp2
       go_quiet (fail)
       go_wp2
       go_roundw
       case rel => exact ⟨k + 1, N + nq, by go_num, by omega, by rw [HW.out, World.drewN_drewN]⟩
       case measure => simp [intOf]; omega
     · obtain rfl : len2 = k := by omega
       obtain ⟨b0, off0, e0, _, k0'⟩ := reads_any ((QD0.out.below HBDL.out).more HBDL.out.size) (show 0 < len0 by omega)
       subst e0
       obtain ⟨b1, off1, e1, _, k1'⟩ := reads_any ((QD1.out.below HBDL.out).more HBDL.out.size) (show 0 < len0 by omega)
       subst e1
       have k0 : wr.cell? ⟨b0, off0 + q, none⟩ = some (.int .u8 y0) := by rw [HW.out]; exact k0' q y0 HY0.out
       have k1 : wr.cell? ⟨b1, off1 + q, none⟩ = some (.int .u32 y1) := by rw [HW.out]; exact k1' q y1 HY1.out
       have HRSR : Hid (∀ N', RS o none br gm gs (f4 c0 c1 c2 c3) cf' (fun _ _ => 0) (wr.drewN N')) := Lib.hid (fun N' => by
         rw [HW.out]
         have t : Turned (fun _ => False) wl ((wl.drewN N).drewN N') := ⟨rfl, rfl, rfl, Nat.le_refl _, fun _ _ _ => rfl⟩
         exact HRSL.out.turned t (fun e => e) (fun _ _ e => e))
       have HBR : Hid (∀ N', Below w.heap.size w (wr.drewN N')) := Lib.hid (fun N' => by rw [HW.out]; exact below_drewN (below_drewN HBL.out _) _)
       clear k0' k1'
       have PI1 : Hid (∀ W, Calls Tryd.prog 15 #[.int .u8 y0] W fun e w' => e = .returned (.bool (pin y0)) ∧ w' = W) := Lib.hid (fun W => (pin_any y0 q0.1 q0.2 W).mono fun _ _ h => ⟨h.1, h.2.symm⟩)
       rcases HOUT2.out with h | h | h
       · obtain ⟨hp, rfl, _, rfl⟩ := h
         have HP : Hid (pin y0 = true) := Lib.hid (by unfold pin; simpa using hp)
         clear hp
         go_wp2_with (first | (go_at_call 12; refine (len_any _ _ _ _).mono ?_; rintro e wz ⟨rfl, rfl⟩) | (go_at_call 15; refine (pin_any y0 q0.1 q0.2 _).mono ?_; rw [HP.out]; rintro e wz ⟨rfl, rfl⟩) | (go_at_call 16; refine (allZero (f4_le (by omega) (by omega) (by omega) (by omega)) (fun _ _ _ _ => rfl) _ (HRSR.out 0)).mono ?_; rintro e wz ⟨rfl, rfl⟩))
         go_ret
         exact ⟨rfl, HBR.out 0⟩
       · obtain ⟨hp, hz, rfl, _, hcf⟩ := h
         have HP : Hid (pin y0 = false) := Lib.hid (by unfold pin; simpa using hp)
         have t3 : (y1 != 0) = true := by rw [bne_iff_ne]; exact hz
         obtain ⟨j, hj⟩ : ∃ j : Nat, nsI y0 = j := ⟨(nsI y0).toNat, by rcases nsI_01 y0 with e | e <;> rw [e] <;> rfl⟩
         obtain ⟨m, hm⟩ : ∃ m : Nat, y1 - 1 = m := ⟨(y1 - 1).toNat, by omega⟩
         rw [hj, hm, Int.toNat_natCast, Int.toNat_natCast] at hcf
         have hlt := nest_lt x0 x1 q c0 c1 c2 c3 (HNEST.out q hq') (by rw [HD0.out]; exact hp) (by rw [HD1.out]; exact hz) j (by rw [HD0.out]; exact hj) m (by rw [HD1.out]; exact hm)
         have PIX : Hid (∀ W, Calls Tryd.prog 15 #[.int .u8 y0] W fun e w' => e = .returned (.bool false) ∧ W = w') := Lib.hid (fun W => (pin_any y0 q0.1 q0.2 W).mono fun _ _ h => ⟨by rw [h.1, HP.out], h.2⟩)
         have NSX : Hid (∀ W, Calls Tryd.prog 18 #[.int .u8 y0] W fun e w' => e = .returned (.int .i64 (j : Nat)) ∧ w' = W) := Lib.hid (fun W => (ns_any y0 q0.1 q0.2 W).mono fun _ _ h => ⟨by rw [h.1, hj], h.2.symm⟩)
         have SLX : Hid (∀ N', Calls Tryd.prog 17 #[.pointer (some ⟨br, 0, none⟩), .int .i64 (j : Nat), .int .i64 (m : Nat)] (wr.drewN N') fun e w' => e = .returned (.int .u32 a4) ∧ w' = wr.drewN N') := Lib.hid (fun N' => (slotCount j m hlt.1 hlt.2 (f4_le (by omega) (by omega) (by omega) (by omega) j hlt.1) _ (HRSR.out N')).mono fun _ _ h => ⟨by rw [h.1, hcf], h.2.symm⟩)
         have hw2 : IntKind.u32.wrap (m : Int) = m := by rw [IntKind.wrap_u32]; omega
         have hw3 : IntKind.i64.wrap (m : Int) = m := IntWalk.i64_in _ (by omega)
         clear hp hz hj hcf hlt
         go_wp2_with (go_at_call 15; refine (PIX.out _).mono ?_; rintro e wz ⟨rfl, rfl⟩)
         go_quiet ((first | (go_at_call 12; exact Calls.quiet_of_same (LNX.out _ _ _ _)) | (go_at_call 18; exact Calls.quiet_of_same (NSX.out _)) | (go_at_call 17; exact Calls.quiet_of_same (SLX.out _))))
         go_wp2
         go_ret
         exact ⟨rfl, HBR.out _⟩
       · obtain ⟨hp, hz, rfl, hx, rfl⟩ := h
         have HP : Hid (pin y0 = false) := Lib.hid (by unfold pin; simpa using hp)
         have t3 : (y1 != 0) = false := by rw [hz]; rfl
         have PIX : Hid (∀ W, Calls Tryd.prog 15 #[.int .u8 y0] W fun e w' => e = .returned (.bool false) ∧ W = w') := Lib.hid (fun W => (pin_any y0 q0.1 q0.2 W).mono fun _ _ h => ⟨by rw [h.1, HP.out], h.2⟩)
         obtain ⟨gl, hA', hgl, hcl⟩ := HFORM.out (by omega)
         subst hA'
         have hyl := HYL.out
         have n0 : wr.cell? ⟨gl, len2 * 4, none⟩ = some (.int .u32 a5) := by rw [HW.out]; exact (hcl _ (by omega)).trans (by rw [hx, List.getElem?_append_right (by omega), show len2 * 4 - ys.length = 0 by omega]; rfl)
         have n1 : wr.cell? ⟨gl, len2 * 4 + 1, none⟩ = some (.int .u32 0) := by rw [HW.out]; exact (hcl _ (by omega)).trans (by rw [hx, List.getElem?_append_right (by omega), show len2 * 4 + 1 - ys.length = 1 by omega]; rfl)
         have n2 : wr.cell? ⟨gl, len2 * 4 + 2, none⟩ = some (.int .u32 q) := by rw [HW.out]; exact (hcl _ (by omega)).trans (by rw [hx, List.getElem?_append_right (by omega), show len2 * 4 + 2 - ys.length = 2 by omega]; rfl)
         have n3 : wr.cell? ⟨gl, len2 * 4 + 3, none⟩ = some (.int .u32 a4) := by rw [HW.out]; exact (hcl _ (by omega)).trans (by rw [hx, List.getElem?_append_right (by omega), show len2 * 4 + 3 - ys.length = 3 by omega]; rfl)
         have hglr : gl < wr.heap.size := by rw [HW.out]; exact hgl
         have hptr : ptb < wr.heap.size := World.block_lt_of_cell? wr _ kpt
         have KPR := Lib.hid kpt; have N0 := Lib.hid n0; have N1 := Lib.hid n1; have N2 := Lib.hid n2; have N3 := Lib.hid n3
         clear hp hz hx hcl n0 n1 n2 n3 kpt hyl
         go_wp2_with (first | (go_at_call 15; refine (PIX.out _).mono ?_; rintro e wz ⟨rfl, rfl⟩) | (go_at_call 14; refine (ref_any q _).mono ?_))
         rintro e wp ⟨rfl, hgp⟩
         have hsp := hgp.size
         obtain ⟨V, hV⟩ : ∃ V, V = wp.alloc (.cells #[.int .u32 a5, .int .u32 0, .int .u32 q, .int .u32 a4] 47) := ⟨_, rfl⟩
         have HGV : Hid (wp.grownBy V none) := Lib.hid (by rw [hV]; exact only_alloc (World.grownBy.refl _ _) _)
         have HNV : Hid (Blk V wp.heap.size 47 #[.int .u32 a5, .int .u32 0, .int .u32 q, .int .u32 a4]) := Lib.hid (by rw [hV]; exact Blk.new _ _ _)
         have HVV := Lib.hid hV
         clear hV
         go_upto_region 30 with fail
         rw [← HVV.out]
         clear HVV
         have hgv := grown_tr hgp HGV.out
         have kpt : V.cell? ⟨ptb, 0, none⟩ = some (.slice (some ⟨gl, 0, none⟩) (len2 + 1) cp) := hgv.cell KPR.out (by simp)
         have n0 : V.cell? ⟨gl, len2 * 4, none⟩ = some (.int .u32 a5) := hgv.cell N0.out (by simp)
         have n1 : V.cell? ⟨gl, len2 * 4 + 1, none⟩ = some (.int .u32 0) := hgv.cell N1.out (by simp)
         have n2 : V.cell? ⟨gl, len2 * 4 + 2, none⟩ = some (.int .u32 q) := hgv.cell N2.out (by simp)
         have n3 : V.cell? ⟨gl, len2 * 4 + 3, none⟩ = some (.int .u32 a4) := hgv.cell N3.out (by simp)
         have m0 : V.cell? ⟨wp.heap.size, 0, none⟩ = some (.int .u32 a5) := HNV.out.cell 0
         have m1 : V.cell? ⟨wp.heap.size, 1, none⟩ = some (.int .u32 0) := HNV.out.cell 1
         have m2 : V.cell? ⟨wp.heap.size, 2, none⟩ = some (.int .u32 q) := HNV.out.cell 2
         have m3 : V.cell? ⟨wp.heap.size, 3, none⟩ = some (.int .u32 a4) := HNV.out.cell 3
         have AZX : Hid (∀ N', Calls Tryd.prog 16 #[.pointer (some ⟨br, 0, none⟩)] (V.drewN N') fun e w' => e = .returned (.bool true) ∧ w' = V.drewN N') := Lib.hid (fun N' => (allZero (f4_le (by omega) (by omega) (by omega) (by omega)) (fun _ _ _ _ => rfl) (V.drewN N') ((HRSR.out 0).turned (S := fun _ => False) ⟨hgv.os, hgv.tape, hgv.output, hgv.size, fun i hi _ => hgv.block i hi (by simp)⟩ (fun e => e) (fun _ _ e => e))).mono fun _ _ h => ⟨h.1, h.2.symm⟩)
         have HBV : Hid (∀ N', Below w.heap.size w (V.drewN N')) := Lib.hid (fun N' => below_drewN ((HBR.out 0).grown hgv (HBR.out 0).size (fun k hk => by cases hk)) _)
         have i1 : (len2 : Int) < ((len2 + 1 : Nat) : Int) := by omega
         have i2 : (len2 : Int) < (len2 : Int) + 1 := by omega
         have hw2 : IntKind.i64.wrap ((len2 : Int) + 1) = (len2 : Int) + 1 := IntWalk.i64_in _ (by omega)
         clear hgv hgp HNV HGV
         go_quiet ((first | (go_at_call 12; exact Calls.quiet_of_same (LNX.out _ _ _ _)) | (go_at_call 16; exact Calls.quiet_of_same (AZX.out _))))
         go_wp2
         go_ret
         exact ⟨rfl, HBV.out _⟩

/-! ### THE ROW's STEP -/
set_option maxRecDepth 100000 in
theorem lifted (os : Os) (started : os.Started) (H : Type) (enc : TypeId × Value → H) :
    ReturnsInHanded {} Tryd.checked os 3 .any (fun w args => (Rows.fnLenAccumulateSymbolCountSpec.pre enc Tryd.prog Tryd.f3 [] false w args ∧ laidMetH Tryd.prog Rows.fnLenAccumulateSymbolCountRow.laid w) ∧ sizedMet enc Tryd.prog Tryd.f3 (OpenSpec.ofChange Rows.fnLenAccumulateSymbolCountSpec) false w args)
      (Rows.fnLenAccumulateSymbolCountSpec.post enc Tryd.prog Tryd.f3 false true false false) := by
  refine returnsInHanded_of_change_and (C := Tryd.checked) (X := fun w _ => laidMetH Tryd.prog Rows.fnLenAccumulateSymbolCountRow.laid w) (fun _ _ _ hh h => h.of_heap hh) own started (by kernel_rfl) Tryd.func3
    (ChangeSpec.witness_shaped (enc := enc) (C := Tryd.checked) (os := os) (X := fun w _ => laidMetH Tryd.prog Rows.fnLenAccumulateSymbolCountRow.laid w) false (World.laidAll Tryd.prog os Rows.fnLenAccumulateSymbolCountRow.laid) #[.slice none 0 0, .slice none 0 0, .slice none 0 0, .int .u32 0, .int .u32 0, .int .u32 0, .int .u32 0, .int .u32 0, .int .u32 0, .int .u32 0] 8 (World.laidAll_os _ _ _)
      (World.shaped_of_ZipB (by kernel_rfl) (by kernel_rfl)) (by kernel_rfl) (by kernel_rfl) (by kernel_rfl)
      (by rw [MakeChecks.laidMetH_plain _ _ _ (by kernel_rfl)]; exact laidMet_laidAll _ (by kernel_rfl) (by kernel_rfl))) ?_
  intro W base args ds gs before hval0 hW _ _ hL _
  have hval : ∀ (j : Nat) t v, Tryd.f3.params[j]? = some t → args[j]? = some v → Value.okWide Tryd.prog W .any base t v := hval0
  have hW' := hW
  obtain ⟨p, q, hA0, hV, rfl, hfz, hnd⟩ := hW
  have hA : DataW.TrodAll enc Tryd.prog W 0 (fun _ => true) true Tryd.f3.params.toList args.toList ds p := hA0
  rw [Tryd.params3] at hA hval
  obtain ⟨v0, vs0, d0, ds0, p0, q0, hargs, rfl, rfl, h0, r0⟩ := trodAll_cons hA
  obtain ⟨v1, vs1, d1, ds1, p1, q1, rfl, rfl, rfl, h1, r1⟩ := trodAll_cons r0
  obtain ⟨v2, vs2, d2, ds2, p2, q2, rfl, rfl, rfl, h2, r2⟩ := trodAll_cons r1
  obtain ⟨v3, vs3, d3, ds3, p3, q3, rfl, rfl, rfl, h3, r3⟩ := trodAll_cons r2
  obtain ⟨v4, vs4, d4, ds4, p4, q4, rfl, rfl, rfl, h4, r4⟩ := trodAll_cons r3
  obtain ⟨v5, vs5, d5, ds5, p5, q5, rfl, rfl, rfl, h5, r5⟩ := trodAll_cons r4
  obtain ⟨v6, vs6, d6, ds6, p6, q6, rfl, rfl, rfl, h6, r6⟩ := trodAll_cons r5
  obtain ⟨v7, vs7, d7, ds7, p7, q7, rfl, rfl, rfl, h7, r7⟩ := trodAll_cons r6
  obtain ⟨v8, vs8, d8, ds8, p8, q8, rfl, rfl, rfl, h8, r8⟩ := trodAll_cons r7
  obtain ⟨v9, vs9, d9, ds9, p9, q9, rfl, rfl, rfl, h9, r9⟩ := trodAll_cons r8
  obtain ⟨rfl, rfl, rfl⟩ := trodAll_nil r9
  obtain rfl : args = #[v0, v1, v2, v3, v4, v5, v6, v7, v8, v9] := by cases args; simp_all
  have hV1 : DataW.TrodVars enc Tryd.prog W (fun _ => true) ["github.com/evanw/esbuild/internal/ast.InvalidRef"] gs q := hV
  obtain ⟨g1, rfl⟩ : ∃ g, gs = [g] := by
    match gs, hV1 with
    | [g], _ => exact ⟨g, rfl⟩
    | [], h => exact h.elim
    | _ :: _ :: _, ⟨_, _, _, _, _, _, _, _, _, _, h, _⟩ => exact h.elim
  have k0 := h0
  have lt0 : ∀ x ∈ p0, x.block < W.heap.size := by obtain ⟨m, hm⟩ := k0; exact DataW.trod_lt m _ _ _ hm
  have k1 := h1
  have lt1 : ∀ x ∈ p1, x.block < W.heap.size := by obtain ⟨m, hm⟩ := k1; exact DataW.trod_lt m _ _ _ hm
  have k2 := h2
  have lt2 : ∀ x ∈ p2, x.block < W.heap.size := by obtain ⟨m, hm⟩ := k2; exact DataW.trod_lt m _ _ _ hm
  have k3 := h3
  have lt3 : ∀ x ∈ p3, x.block < W.heap.size := by obtain ⟨m, hm⟩ := k3; exact DataW.trod_lt m _ _ _ hm
  have k4 := h4
  have lt4 : ∀ x ∈ p4, x.block < W.heap.size := by obtain ⟨m, hm⟩ := k4; exact DataW.trod_lt m _ _ _ hm
  have k5 := h5
  have lt5 : ∀ x ∈ p5, x.block < W.heap.size := by obtain ⟨m, hm⟩ := k5; exact DataW.trod_lt m _ _ _ hm
  have k6 := h6
  have lt6 : ∀ x ∈ p6, x.block < W.heap.size := by obtain ⟨m, hm⟩ := k6; exact DataW.trod_lt m _ _ _ hm
  have k7 := h7
  have lt7 : ∀ x ∈ p7, x.block < W.heap.size := by obtain ⟨m, hm⟩ := k7; exact DataW.trod_lt m _ _ _ hm
  have k8 := h8
  have lt8 : ∀ x ∈ p8, x.block < W.heap.size := by obtain ⟨m, hm⟩ := k8; exact DataW.trod_lt m _ _ _ hm
  have k9 := h9
  have lt9 : ∀ x ∈ p9, x.block < W.heap.size := by obtain ⟨m, hm⟩ := k9; exact DataW.trod_lt m _ _ _ hm
  obtain ⟨a0, len0, cap0, rfl⟩ := okWide_slice Tryd.underlying22 (hval 0 22 v0 rfl rfl)
  obtain ⟨z0, w0⟩ : ∃ zs, IsRow .u8 W a0 len0 cap0 zs := by
    obtain ⟨fuel, hf⟩ := h0
    rcases open_ints Tryd.underlying22 Tryd.underlying5 (by kernel_rfl) hf with ⟨hcs, _⟩ | ⟨x, l, c, zs, hcs, _, hl, hm, hz, _, hcell, hwz⟩
    · simp [Value.cells] at hcs
      obtain ⟨rfl, rfl, rfl⟩ := hcs
      exact ⟨[], .inl ⟨rfl, rfl, rfl, rfl⟩⟩
    · simp [Value.cells] at hcs
      obtain ⟨rfl, rfl, rfl⟩ := hcs
      exact ⟨zs, .inr ⟨_, rfl, hl, hm, by simpa using hz, hcell, hwz⟩⟩
  obtain ⟨a1, len1, cap1, rfl⟩ := okWide_slice Tryd.underlying23 (hval 1 23 v1 rfl rfl)
  obtain ⟨z1, w1⟩ : ∃ zs, IsRow .u32 W a1 len1 cap1 zs := by
    obtain ⟨fuel, hf⟩ := h1
    rcases open_ints Tryd.underlying23 Tryd.underlying24 (by kernel_rfl) hf with ⟨hcs, _⟩ | ⟨x, l, c, zs, hcs, _, hl, hm, hz, _, hcell, hwz⟩
    · simp [Value.cells] at hcs
      obtain ⟨rfl, rfl, rfl⟩ := hcs
      exact ⟨[], .inl ⟨rfl, rfl, rfl, rfl⟩⟩
    · simp [Value.cells] at hcs
      obtain ⟨rfl, rfl, rfl⟩ := hcs
      exact ⟨zs, .inr ⟨_, rfl, hl, hm, by simpa using hz, hcell, hwz⟩⟩
  obtain ⟨a2, len2, cap2, rfl⟩ := okWide_slice Tryd.underlying23 (hval 2 23 v2 rfl rfl)
  obtain ⟨z2, w2⟩ : ∃ zs, IsRow .u32 W a2 len2 cap2 zs := by
    obtain ⟨fuel, hf⟩ := h2
    rcases open_ints Tryd.underlying23 Tryd.underlying24 (by kernel_rfl) hf with ⟨hcs, _⟩ | ⟨x, l, c, zs, hcs, _, hl, hm, hz, _, hcell, hwz⟩
    · simp [Value.cells] at hcs
      obtain ⟨rfl, rfl, rfl⟩ := hcs
      exact ⟨[], .inl ⟨rfl, rfl, rfl, rfl⟩⟩
    · simp [Value.cells] at hcs
      obtain ⟨rfl, rfl, rfl⟩ := hcs
      exact ⟨zs, .inr ⟨_, rfl, hl, hm, by simpa using hz, hcell, hwz⟩⟩
  obtain ⟨a3, rfl, rfl, rfl, w3⟩ := open_int Tryd.underlying24 (hval 3 24 v3 rfl rfl) h3
  obtain ⟨a4, rfl, rfl, rfl, w4⟩ := open_int Tryd.underlying24 (hval 4 24 v4 rfl rfl) h4
  obtain ⟨a5, rfl, rfl, rfl, w5⟩ := open_int Tryd.underlying24 (hval 5 24 v5 rfl rfl) h5
  obtain ⟨a6, rfl, rfl, rfl, w6⟩ := open_int Tryd.underlying24 (hval 6 24 v6 rfl rfl) h6
  obtain ⟨a7, rfl, rfl, rfl, w7⟩ := open_int Tryd.underlying24 (hval 7 24 v7 rfl rfl) h7
  obtain ⟨a8, rfl, rfl, rfl, w8⟩ := open_int Tryd.underlying24 (hval 8 24 v8 rfl rfl) h8
  obtain ⟨a9, rfl, rfl, rfl, w9⟩ := open_int Tryd.underlying24 (hval 9 24 v9 rfl rfl) h9
  clear hA0 hval0
  refine (walk a0 len0 cap0 z0 a1 len1 cap1 z1 a2 len2 cap2 z2 a3 a4 a5 a6 a7 a8 a9 W w0 w1 w2 w3 w4 w5 w6 w7 w8 w9 (inv_of hL) hL).mono fun e W' ⟨he, bel⟩ => ?_
  subst he
  exact ⟨_, rfl, _, _, _, [], _, q, hW', trodAll_mk1 (shut_bool Tryd.underlying4 _), (trodAll_cons_mk (Below.trod laidOut (by kernel_rfl) (of_decide_eq_true (by kernel_rfl)) k0 bel lt0) (trodAll_cons_mk (Below.trod laidOut (by kernel_rfl) (of_decide_eq_true (by kernel_rfl)) k1 bel lt1) (trodAll_cons_mk (Below.trod laidOut (by kernel_rfl) (of_decide_eq_true (by kernel_rfl)) k2 bel lt2) (trodAll_cons_mk (Below.trod laidOut (by kernel_rfl) (of_decide_eq_true (by kernel_rfl)) k3 bel lt3) (trodAll_cons_mk (Below.trod laidOut (by kernel_rfl) (of_decide_eq_true (by kernel_rfl)) k4 bel lt4) (trodAll_cons_mk (Below.trod laidOut (by kernel_rfl) (of_decide_eq_true (by kernel_rfl)) k5 bel lt5) (trodAll_cons_mk (Below.trod laidOut (by kernel_rfl) (of_decide_eq_true (by kernel_rfl)) k6 bel lt6) (trodAll_cons_mk (Below.trod laidOut (by kernel_rfl) (of_decide_eq_true (by kernel_rfl)) k7 bel lt7) (trodAll_cons_mk (Below.trod laidOut (by kernel_rfl) (of_decide_eq_true (by kernel_rfl)) k8 bel lt8) (trodAll_cons_mk (Below.trod laidOut (by kernel_rfl) (of_decide_eq_true (by kernel_rfl)) k9 bel lt9) trodAll_mk0)))))))))), Below.trodVars laidOut bel (by kernel_rfl) hV1, bel.frame _, fun h => by cases h⟩

theorem over : Rows.fnLenAccumulateSymbolCountRow.holds Tryd.pinned (OpenSpec.ofChange Rows.fnLenAccumulateSymbolCountSpec) :=
  OpenClaim.holds_of_wide 3 Tryd.f3 rfl rfl rfl rfl rfl rfl rfl ⟨rfl, rfl, rfl, rfl, rfl⟩ rfl rfl rfl rfl rfl (by kernel_rfl) Tryd.func3 (by kernel_rfl)
    (of_decide_eq_true (by kernel_rfl)) (by unfold Func.isWrapper; first | (rw [if_pos (by decide +kernel)]; kernel_rfl) | (rw [if_neg (by decide +kernel)]; exact ⟨rfl, rfl⟩))
    (fun os started H enc _ => lifted os started H enc)

theorem proved : Rows.FnLenAccumulateSymbolCountCardSaid :=
  Claim7.holds_tied_plain_at .later [] [.data] true (true, "b688206de9111f7c8e4b64af7793f922d02a379e47a7f56953d14d7f0a75a4de") false over (fun _ h => by cases h) (by kernel_rfl) (fun _ h => by cases h) fnLenAccumulateSymbolCount_row_tie rfl ⟨rfl, rfl⟩ (by kernel_rfl) rfl
    (fun f fn hf hfn => by
      obtain rfl : f = 3 := Option.some.inj ((show Tryd.prog.funcNamed "github.com/evanw/esbuild/n011_102.FnLenAccumulateSymbolCount" = some 3 by kernel_rfl).symm.trans hf) |>.symm
      obtain rfl : fn = Tryd.f3 := (Option.some.inj (Tryd.func3.symm.trans hfn)).symm
      exact ⟨by kernel_rfl, fun j t ht => by
        rw [Tryd.params3] at ht
        have hm : t ∈ [22, 23, 23, 24, 24, 24, 24, 24, 24, 24] := by simpa using Array.mem_of_getElem? ht
        have hall : ([22, 23, 23, 24, 24, 24, 24, 24, 24, 24].all fun u => !Tryd.prog.wantsStandIn u) = true := by kernel_rfl
        exact (show Tryd.prog.wantsStandIn t = false by simpa using List.all_eq_true.1 hall t hm)⟩)
    (by kernel_rfl)
#print axioms proved
end Go.Proofs.YtljgaldndgbcjaaDoor.fnLenAccumulateSymbolCount