/-
  PROVED: For every text, flag, output and script of steps that fits, a chunk builder that remaps through a source map without mappings gives a chunk of line breaks alone, and the law answers true. Conditions: none beyond the statement's own (the listed variable base64 reads as the program's text lays it).
-/
import Derived.Test.YtgdcpladehcegaaDoorRows
import Derived.Test.YtgdcpladehcegaaDoorCards
import Derived.Test.YtgdcpladehcegaaDoorTie
import Derived.WalkKit
import Derived.ProofKit
import Derived.Deep.WholeRow
import Derived.Laws.BytesArg
import Derived.Laws.Tables
import Derived.IntWalk
import Derived.Outline
import Derived.LoopTactic
import Derived.WalkSpells
import Derived.Deep.Light
import Derived.Test.YtgdcpladehcegaaDoorClb
import Derived.Test.YtgdcpladehcegaaDoorTbw
import Derived.Deep.Slices
import Derived.Test.YtgdcpladehcegaaDoorSzo
import Derived.Test.YtgdcpladehcegaaDoorScf
import Derived.Test.YtgdcpladehcegaaDoorOlb
import Derived.OpenShut
import Derived.ShutString
import Derived.ChangeOld
import Derived.Below
import Derived.Carry
import Derived.OpenVars
import Derived.Handy
import Derived.Lay
import Derived.SevenTiedAt
namespace Go.Proofs.YtgdcpladehcegaaDoor.fnEmptyInputMapEmitsNoSegments
open Go.ChangeShapes Go.WideShapes Go.ChangeAt Go.RowKit
open Go.ChangeMaps (open_string shut_string)
set_option linter.unusedVariables false
set_option linter.unusedSimpArgs false

theorem own : ownKnob Tryd.prog.godebug = none := by kernel_rfl
theorem laidOut : laidOutB Tryd.pinned.checked.prog = true := by kernel_rfl

/-- What the walk is told of a slice of integers that came in. -/
def IsRow (k : IntKind) (w : World) (a : Option Addr) (len cap : Nat) (zs : List Int) : Prop :=
  (a = none ∧ len = 0 ∧ cap = 0 ∧ zs = []) ∨
  ∃ x, a = some x ∧ len ≤ cap ∧ cap ≤ maxLen ∧ zs.length = cap ∧ (∀ i, i < zs.length → w.cell? (x.add i) = some (.int k (zs.getD i 0))) ∧ ∀ n ∈ zs, (Lit.int k n).wf = true
theorem isrow_reads {k : IntKind} {w : World} {a : Option Addr} {len cap : Nat} {zs : List Int} (h : IsRow k w a len cap zs) : Reads w w.heap.size 1 a len ((zs.take len).map (Value.int k)) ∧ (a = none → len = 0) ∧ len ≤ maxLen := by
  rcases h with ⟨rfl, rfl, rfl, rfl⟩ | ⟨x, rfl, hl, hm, hz, hc, _⟩
  · exact ⟨Reads.none_, fun _ => rfl, by unfold maxLen; omega⟩
  · refine ⟨⟨by simp; omega, fun hn => ⟨x, rfl, ?_, fun j u hu => ?_⟩⟩, (fun h => by cases h), by omega⟩
    · have := hc 0 (by omega)
      exact World.block_lt_of_cell? w x (by simpa [Addr.add] using this)
    · have hj : j < len := by
        have := (List.getElem?_eq_some_iff.1 hu).1
        simp at this; omega
      rw [hc j (by omega)]
      rw [List.getElem?_map, List.getElem?_take_of_lt hj, List.getElem?_eq_getElem (by omega)] at hu
      rw [List.getD_eq_getElem?_getD, List.getElem?_eq_getElem (by omega)]
      exact hu



theorem wpList_store_new {P : Program} (w : World) {ops : Array Oper} {rest : List Oper} {o : Oper} {a : Act} {Q : Exit → Act → World → Prop} (hgd : o.guard = none) (ty : TypeId) (x y : Operand) (ho : o.op = .store ty x y)
    (cells old : Array Value) (hx : a.eval x = .pointer (some ⟨w.heap.size, 0, none⟩)) (hy : a.eval y = .agg cells) (hi : (P.info? ty).map (·.size) = some cells.size)
    (hold : old.size = cells.size) (h1 : cells.all (·.oneCell') = true)
    (h : wpList P ops Q rest (a.put o.dst undef) (w.alloc (.cells cells ty))) : wpList P ops Q (o :: rest) a (w.alloc (.cells old ty)) :=
  wpList_plain hgd fun _ hK => by
    unfold Oper.wp execOp
    simp only [ho, hx, hy, Instr.storeAt, Instr.sureAddr, Sem.run_bind, Sem.run_pure, Result.andThen_ok, run_storeVar_new (P := P) w ty old cells hi hold h1]
    exact hK _ _ h
theorem bytes_of (zs : List Int) (h : ∀ z ∈ zs, 0 ≤ z ∧ z ≤ 255) : ∃ l : List UInt8, l.length = zs.length ∧ ∀ j, j < zs.length → ((l.getD j 0).toNat : Int) = zs.getD j 0 := by
  refine ⟨zs.map fun z => UInt8.ofNat z.toNat, by simp, fun j hj => ?_⟩
  have hz := h _ (List.getElem_mem hj)
  simp only [List.getD_eq_getElem?_getD, List.getElem?_map, List.getElem?_eq_getElem hj, Option.map_some, Option.getD_some]
  rw [UInt8.toNat_ofNat']
  omega
theorem get_l (l : List UInt8) (j : Nat) : (⟨l.toArray⟩ : ByteArray).get! j = l.getD j 0 := by
  show l.toArray[j]! = _
  simp [List.getD_eq_getElem?_getD]
  rfl
theorem genJ (s : ByteArray) (B g j : Nat) (a : Option Addr) (sm nm tb : Value) (pn : ByteArray) (pgl : Nat) (ploc : Int) (asc lsm : Bool) (A : Option Addr) (w : World) (hs : s.size ≤ 1048576)
    (hb : BS s B g (.pointer a) sm nm tb pn j (pos s j) pgl ploc asc lsm false w) (hgB : B ≤ g) (ho : Out w B A s.size s.size s) (hn : A = none → s.size = 0) :
    Calls Tryd.prog 9 #[.pointer (some ⟨g, 0, none⟩), .slice A s.size s.size] w fun e w' => ∃ (A' : Option Addr) (c : Nat), e = .returned (.agg (CH (.slice A' (lcEnd s).1 c) (lcEnd s).1 (lcEnd s).2)) ∧ w'.ownsRow B 5 1 (.slice A' (lcEnd s).1 c) (lcEnd s).1 (semis (lcEnd s).1) ∧ Below B w w' := by
  obtain ⟨m, hjm, hm⟩ := pos_up s j s.size (by rw [pos_end]; exact pos_le s j)
  rw [pos_end] at hm
  have h := gen_any s B g j m (.pointer a) sm nm tb pn pgl ploc asc lsm false A s.size w hs hjm hb hgB (by rw [hm]; exact ho) (by rw [hm]; exact clean_end s) (by rw [hm]; exact hn)
  rw [hm] at h
  refine h.mono ?_
  rintro e w' ⟨A', c, h1, h2, h3⟩
  rw [lc_end s m hm] at h1 h2
  exact ⟨A', c, h1, h2, h3⟩
theorem tabMore {w : World} {B B' : Nat} {s : ByteArray} {tb : Nat} {R : List (Value × Nat × Nat)} (h : TabIn w B s tb R) (hB : B ≤ B') : TabIn w B' s tb R :=
  ⟨Nat.lt_of_lt_of_le h.lt hB, h.cell, h.rows.keep hB (fun _ _ _ _ => rfl)⟩
theorem outMore {w : World} {B B' n cap : Nat} {A : Option Addr} {s : ByteArray} (h : Out w B A n cap s) (hB : B ≤ B') : Out w B' A n cap s := by
  obtain ⟨h1, h2, h3⟩ := h
  refine ⟨h1, h2, h3.imp id ?_⟩
  rintro ⟨ob, e, hob, hc⟩
  exact ⟨ob, e, Nat.lt_of_lt_of_le hob hB, hc⟩
section
open Go.Deep
variable {H : Type} {enc : TypeId × Value → H} {P : Program} {w : World} {spare : Nat → Bool} {held : Bool}
theorem stp_cap {t e : TypeId} {fuel : Nat} {A : Option Addr} {len cap : Nat} {x : DataW H × List MemPlace} (ht : P.underlying t = some (.slice e)) (h : DataW.trod enc P w 0 spare held fuel t [.slice A len cap] = some x) : len ≤ cap := by
  rcases open_slice ht h with ⟨h0, _⟩ | ⟨a, l, c, m, n, D, Pl, hcs, hb, hl, _⟩
  · simp at h0
    obtain ⟨_, rfl, rfl⟩ := h0
    exact Nat.le_refl _
  · simp at hcs
    obtain ⟨_, rfl, rfl⟩ := hcs
    exact hl
end
/-! ### STEP 1: THE WALK -/
set_option maxHeartbeats 4000000 in
set_option maxRecDepth 100000 in
theorem walk (a0 : ByteArray) (a1 : Bool) (a2 : Option Addr) (len2 cap2 : Nat) (z2 : List Int) (a3 : Option Addr) (len3 cap3 : Nat) (z3 : List Stp) (w : World) (w0 : a0.size ≤ maxLen) (w2 : IsRow .u8 w a2 len2 cap2 z2) (w3 : IsStps w a3 len3 z3 ∧ len3 ≤ cap3)  :
    Calls Tryd.prog 4 #[.string a0, .bool a1, .slice a2 len2 cap2, .slice a3 len3 cap3] w fun e w' => e = .returned (.bool true) ∧ Below w.heap.size w w' := by
  obtain ⟨hr2, hA2, hl2⟩ := isrow_reads w2
  have hwf : ∀ m ∈ z2.take len2, 0 ≤ m ∧ m ≤ 255 := fun m hm => by
    rcases w2 with ⟨_, _, _, rfl⟩ | ⟨_, _, _, _, _, _, hw⟩
    · simp at hm
    · have := hw m (List.mem_of_mem_take hm)
      simp [Lit.wf, IntKind.min, IntKind.max, IntKind.signed, IntKind.bits] at this
      omega
  generalize z2.take len2 = zs at hr2 hwf
  have hzl : zs.length = len2 := by have := hr2.1; simpa using this
  obtain ⟨l, hll, hlz⟩ := bytes_of zs hwf
  obtain ⟨s, hsl⟩ : ∃ s : ByteArray, s = ⟨l.toArray⟩ := ⟨_, rfl⟩
  have hsz : len2 = s.size := by rw [hsl]; show len2 = l.toArray.size; simp; omega
  have hget : ∀ j, j < len2 → ((s.get! j).toNat : Int) = zs.getD j 0 := fun j hj => by rw [hsl, get_l]; exact hlz j (by omega)
  subst hsz
  have HR2 := Lib.hid hr2; have HA2 := Lib.hid hA2; have HL2 := Lib.hid hl2; have HZL := Lib.hid hzl; have HGET := Lib.hid hget; have HLL := Lib.hid hll; have HSL := Lib.hid hsl
  have HW0 := Lib.hid w0; have HW3 := Lib.hid w3
  have hm0 : len3 ≤ maxLen := w3.1.2.2.1
  have HM0 := Lib.hid hm0
  have hcap3 := w3.2
  have hcv0 : ∀ W : World, Below w.heap.size w W → (convert 22 9 (.slice a2 s.size cap2)).run Tryd.prog W = .ok (.string s) W := fun W hW => by
    by_cases h0 : s.size = 0
    · have hs0 : s = ⟨#[]⟩ := by
        rw [hsl]
        have : l = [] := List.eq_nil_of_length_eq_zero (by omega)
        rw [this]
      cases ha : a2 with
      | none =>
        rw [run_convert_bytes_string W 22 9 5 none s.size cap2 Tryd.underlying22 Tryd.underlying5 Tryd.underlying9, h0, hs0]
        first | rfl | simp [Conv.bytesToString]
      | some ad =>
        have := run_convert_bytes_back W 22 9 5 ad cap2 [] Tryd.underlying22 Tryd.underlying5 Tryd.underlying9 (fun j hj => by simp at hj)
        rw [h0, hs0]
        exact this
    · obtain ⟨ad, rfl, hadb, hc⟩ := (hr2.below hW).2 (by omega)
      have hsl' : s.size = l.length := by omega
      have := run_convert_bytes_back W 22 9 5 ad cap2 l Tryd.underlying22 Tryd.underlying5 Tryd.underlying9 (fun j hj => by
        refine hc j _ ?_
        rw [List.getElem?_map, List.getElem?_eq_getElem (by omega)]
        have h1 := hlz j (by omega)
        rw [List.getD_eq_getElem?_getD, List.getElem?_eq_getElem hj, List.getD_eq_getElem?_getD, List.getElem?_eq_getElem (by omega)] at h1
        simp only [Option.getD_some] at h1
        rw [h1]; rfl)
      rw [← hsl', ← hsl] at this
      exact this
  have HCV0 := Lib.hid hcv0
  clear hr2 hA2 hzl hget hll hsl w2 w3 hwf hlz hcv0
  unfold maxLen at hl2 w0 hm0
  go_enter Tryd.func4, Tryd.ntmps4
  go_wp2_with (go_at_call 11; refine (zbe_any a0 a1 a2 s.size cap2 a3 len3 cap3 z3 _ HW0.out HL2.out HM0.out HW3.out.1).mono ?_)
  rintro e wz ⟨bz, rfl, rfl⟩
  cases bz
  · go_wp2
    go_ret
    exact ⟨rfl, Below.refl _ _⟩
  go_wp2_with (go_at_call 12; refine (szo_any a0 a2 s.size cap2 a3 len3 cap3 z3 _ HW0.out HL2.out HM0.out HW3.out.1).mono ?_)
  rintro e wz ⟨bz, rfl, rfl, hsz⟩
  cases bz
  · go_wp2
    go_ret
    exact ⟨rfl, Below.refl _ _⟩
  obtain ⟨hsum, hm⟩ := hsz rfl
  clear hsz
  have hs : s.size ≤ 1048576 := by omega
  have hs0 : a0.size ≤ 1048576 := by omega
  clear hl2 w0 hm0
  go_wp2_with (go_at_call 13; refine (scf_any a0 s a2 s.size cap2 a3 len3 cap3 z3 _ hs0 hs HCV0.out HW3.out.1 hm hcap3).mono ?_)
  rintro e w1 ⟨bz, rfl, hb1, hfit⟩
  cases bz
  · have HB1 := Lib.hid hb1
    clear hb1 hfit
    go_wp2
    go_ret
    exact ⟨rfl, HB1.out⟩
  have HFIT := Lib.hid (hfit rfl)
  have HB1 := Lib.hid hb1
  have hw1 := hb1.size
  have HR1 := Lib.hid ((HR2.out.below hb1).more hw1)
  have HS1 := Lib.hid ((HW3.out.1.1.below hb1).more hw1)
  clear hb1 hfit
  go_wp2_with (go_at_call 6; refine (cloneB a2 s.size cap2 zs _ HR1.out (by omega)).mono ?_)
  rintro e w3 hcl
  obtain ⟨A5, rfl, hO, hcv, hn5, hb3⟩ : ∃ (A5 : Option Addr), e = .returned (.slice A5 s.size s.size) ∧ (∀ W : World, Below w3.heap.size w3 W → Out W w3.heap.size A5 s.size s.size s) ∧ (∀ W : World, Below w3.heap.size w3 W → (convert 22 9 (.slice A5 s.size s.size)).run Tryd.prog W = .ok (.string s) W) ∧ (A5 = none → s.size = 0) ∧ Below w1.heap.size w1 w3 := by
    rcases hcl with ⟨hn0, he, hw⟩ | ⟨g, _, he, hge, hbk, hb1⟩
    · have h0 := HA2.out hn0
      refine ⟨none, by rw [he, h0], fun W hW => ⟨Nat.le_refl _, Nat.le_refl _, .inl ⟨rfl, h0⟩⟩, fun W _ => ?_, fun _ => h0, by rw [← hw]; exact Below.refl _ _⟩
      have hs0 : s = ⟨#[]⟩ := by
        rw [HSL.out]
        have : l = [] := List.eq_nil_of_length_eq_zero (by have := HLL.out; have := HZL.out; omega)
        rw [this]
      rw [run_convert_bytes_string W 22 9 5 none s.size s.size Tryd.underlying22 Tryd.underlying5 Tryd.underlying9, h0, hs0]
      first | rfl | simp [Conv.bytesToString]
    · have hcell : ∀ j, j < s.size → w3.cell? ⟨g, j, none⟩ = some (.int .u8 (s.get! j).toNat) := fun j hj => by
        rw [hbk.cell, List.getElem?_toArray, List.getElem?_map, List.getElem?_eq_getElem (by have := HZL.out; omega), HGET.out j hj, List.getD_eq_getElem?_getD, List.getElem?_eq_getElem (by have := HZL.out; omega)]
        rfl
      have hcW : ∀ W : World, Below w3.heap.size w3 W → ∀ j, j < s.size → W.cell? ⟨g, j, none⟩ = some (.int .u8 (s.get! j).toNat) := fun W hW j hj => (hW.cell (p := ⟨g, j, none⟩) hbk.lt).trans (hcell j hj)
      refine ⟨_, he, fun W hW => ⟨Nat.le_refl _, Nat.le_refl _, .inr ⟨g, rfl, hbk.lt, hcW W hW⟩⟩, fun W hW => ?_, (fun h => by cases h), hb1⟩
      have hsl' : s.size = l.length := by have := HLL.out; have := HZL.out; omega
      have := run_convert_bytes_back W 22 9 5 ⟨g, 0, none⟩ s.size l Tryd.underlying22 Tryd.underlying5 Tryd.underlying9 (fun j hj => by
        have h1 := hcW W hW j (by omega)
        rw [HSL.out, get_l, List.getD_eq_getElem?_getD, List.getElem?_eq_getElem hj] at h1
        rw [show ((⟨g, 0, none⟩ : Addr).add j) = ⟨g, j, none⟩ by unfold Addr.add; split; (rename_i h0; subst h0; rfl); (simp)]
        exact h1)
      rw [← hsl', ← HSL.out] at this
      exact this
  clear hcl
  have HO := Lib.hid hO; have HCV := Lib.hid hcv; have HN5 := Lib.hid hn5; have HB3 := Lib.hid hb3
  clear hO hcv hn5 hb3
  go_wp2_with (go_at_call 14; refine (cloneS a3 len3 cap3 z3 _ ((HS1.out.below HB3.out).more HB3.out.size) HW3.out.1.2.1 hm).mono ?_)
  rintro e w4 ⟨D4, mc4, rfl, hmc4, _, hrd4, hb4⟩
  have HRD4 := Lib.hid hrd4
  have HB4 : Hid (Below w3.heap.size w3 w4) := Lib.hid hb4
  clear hrd4 hb4
  go_wp2_with (go_at_call 7; refine (tab_any a0 _ hs0).mono ?_)
  rintro e w5 ⟨tA, tc, R, rfl, hR1, hR2, htown, htrows, hb5⟩
  obtain ⟨tbk, rfl, htc, htab⟩ := TabIn.make htown htrows hR1 rfl
  have HTAB := Lib.hid htab
  have HB5 : Hid (Below w4.heap.size w4 w5) := Lib.hid hb5
  clear htown htrows hb5 htab
  have heqp : ∀ W : World, (binOp .eql 27 (.pointer (some ⟨w5.heap.size, 0, none⟩)) (.pointer none)).run Tryd.prog W = .ok (.bool false) W := fun W => by rfl
  have HEQ := Lib.hid heqp
  clear heqp
  go_wp2_with (go_at_call 8; refine (mcb_any (some ⟨w5.heap.size, 0, none⟩) false (some ⟨tbk, 0, none⟩) R.length tc a1 _ HEQ.out).mono ?_)
  rintro e w8 ⟨⟨hmp, rfl⟩, hb8⟩
  have HB8 : Hid (Below w5.heap.size w5 w8) := Lib.hid (((Below.refl w5.heap.size w5).alloc (Nat.le_refl _) _).trans (hb8.mono (by simp)))
  have HSM : Hid (w8.cell? ⟨w5.heap.size, 2, none⟩ = some (.slice none 0 0)) := Lib.hid ((hb8.cell (p := ⟨w5.heap.size, 2, none⟩) (by simp)).trans ((Blk.new w5 55 _).cell 2))
  have hlt8 : w5.heap.size < w8.heap.size := by have := hb8.size; simp at this; omega
  have h34 := HB4.out.size
  have h45 := HB5.out.size
  clear hb8
  go_wp2_with (refine wpList_store_new w8 rfl 38 (.tmp 10) (.tmp 38) rfl (CB (.pointer (some ⟨w5.heap.size, 0, none⟩)) (.slice none 0 0) (.map (some hmp)) (.slice (some ⟨tbk, 0, none⟩) R.length tc) ByteArray.empty 0 0 0 0 (-1) a1 false false) _ rfl rfl cbI rfl (CB_one _ _ _ _ _ _ _ _ _ _ _ _ _ _) ?_)
  obtain ⟨w9, hw9⟩ : ∃ W, W = w8.alloc (.cells (CB (.pointer (some ⟨w5.heap.size, 0, none⟩)) (.slice none 0 0) (.map (some hmp)) (.slice (some ⟨tbk, 0, none⟩) R.length tc) ByteArray.empty 0 0 0 0 (-1) a1 false false) 38) := ⟨_, rfl⟩
  have h89 : Below w8.heap.size w8 w9 := by rw [hw9]; exact (Below.refl _ _).alloc (Nat.le_refl _) _
  have HB89 := Lib.hid h89
  have HB39 : Hid (Below w3.heap.size w3 w9) := Lib.hid (((HB4.out.trans (HB5.out.mono h34)).trans (HB8.out.mono (by omega))).trans (h89.mono (by omega)))
  have HBS : Hid (BS s w8.heap.size w8.heap.size (.pointer (some ⟨w5.heap.size, 0, none⟩)) (.slice none 0 0) (.map (some hmp)) (.slice (some ⟨tbk, 0, none⟩) R.length tc) ByteArray.empty 0 (pos s 0) 0 (-1) a1 false false w9) := Lib.hid ⟨by rw [hw9]; exact Blk.new _ _ _, World.ownsRow_nil w9 _ 5 1, fun h => by cases h⟩
  have h58 : Below w5.heap.size w5 w9 := HB8.out.trans (h89.mono (by omega))
  have HT9 : Hid (TabIn w9 w8.heap.size a0 tbk R) := Lib.hid (tabMore (HTAB.out.below h58) (by omega))
  have HO9 : Hid (Out w9 w8.heap.size A5 s.size s.size s) := Lib.hid (outMore (HO.out _ HB39.out) (by omega))
  have HRD9 : Hid (Reads w9 w8.heap.size 3 D4 len3 (row3 z3)) := Lib.hid ((HRD4.out.below (HB5.out.trans (h58.mono h45))).more (by omega))
  have HC9 : Hid (w9.cell? ⟨w5.heap.size, 2, none⟩ = some (.slice none 0 0)) := Lib.hid ((h89.cell (p := ⟨w5.heap.size, 2, none⟩) hlt8).trans HSM.out)
  rw [← hw9]
  clear hw9 h89 h58
  go_wp2_with (go_at_call 15; refine (run_any s a0 w8.heap.size w8.heap.size w5.heap.size tbk tc R (.slice none 0 0) (.map (some hmp)) ByteArray.empty 0 (-1) a1 false A5 s.size s.size D4 len3 mc4 z3 _ hs hs0 HBS.out (Nat.le_refl _) HO9.out HN5.out rfl HT9.out htc ⟨hR1, hR2⟩ hlt8 HC9.out HRD9.out hm HW3.out.1.2.2.2.1 hmc4 HFIT.out).mono ?_)
  rintro e w10 ⟨rfl, ⟨j, sm, lsm, pn, pgl, ploc, hbs10⟩, hb10⟩
  have HBS10 := Lib.hid hbs10; have HB10 := Lib.hid hb10
  have HO10 : Hid (Out w10 w8.heap.size A5 s.size s.size s) := Lib.hid (HO9.out.below hb10)
  have HB310 : Hid (Below w3.heap.size w3 w10) := Lib.hid (HB39.out.trans (hb10.mono (by omega)))
  clear hbs10 hb10
  go_wp2_with (go_at_call 9; refine (genJ s w8.heap.size w8.heap.size j (some ⟨w5.heap.size, 0, none⟩) sm (.map (some hmp)) (.slice (some ⟨tbk, 0, none⟩) R.length tc) pn pgl ploc a1 lsm A5 _ hs HBS10.out (Nat.le_refl _) HO10.out HN5.out).mono ?_)
  rintro e w11 ⟨A7, c7, rfl, hown7, hb11⟩
  have HB11 : Hid (Below w3.heap.size w3 w11) := Lib.hid (HB310.out.trans (hb11.mono (by omega)))
  have HOW7 := Lib.hid hown7
  have hs11 : w3.heap.size ≤ w11.heap.size := HB11.out.size
  clear hown7 hb11
  have HB12 : Hid (Below w3.heap.size w3 (w11.alloc (.cells (CH (.slice A7 (lcEnd s).1 c7) (lcEnd s).1 (lcEnd s).2) 43))) := Lib.hid (HB11.out.alloc hs11 _)
  have hcv12 := HCV.out _ HB12.out
  go_wp2_with (first | refine wpList_store_new w11 rfl 43 (.tmp 11) (.tmp 43) rfl (CH (.slice A7 (lcEnd s).1 c7) (lcEnd s).1 (lcEnd s).2) _ rfl rfl chI rfl (CH_one _ _ _ _ _) ?_ | refine wpList_load_row rfl 43 (.tmp 11) rfl w11.heap.size rfl 43 (CH (.slice A7 (lcEnd s).1 c7) (lcEnd s).1 (lcEnd s).2) (0, 0) _ (Blk.new w11 43 _) Tryd.underlying43 rfl chI ?_ | (go_at_call 10; refine (olb_any s w8.heap.size A7 c7 _ hs (HOW7.out.alloc _)).mono ?_))
  rintro e w13 ⟨rfl, hb13⟩
  have HB13 : Hid (Below w.heap.size w w13) := Lib.hid (HB1.out.trans ((HB3.out.trans ((HB12.out.trans (hb13.mono (by simp; omega))).mono HB3.out.size)).mono hw1))
  clear hb13
  go_wp2
  go_ret
  exact ⟨rfl, HB13.out⟩

/-! ### THE ROW's STEP -/
set_option maxRecDepth 100000 in
theorem lifted (os : Os) (started : os.Started) (H : Type) (enc : TypeId × Value → H) :
    ReturnsInHanded {} Tryd.checked os 4 .any (fun w args => (Rows.fnEmptyInputMapEmitsNoSegmentsSpec.pre enc Tryd.prog Tryd.f4 [] false w args ∧ laidMetH Tryd.prog Rows.fnEmptyInputMapEmitsNoSegmentsRow.laid w) ∧ sizedMet enc Tryd.prog Tryd.f4 (OpenSpec.ofChange Rows.fnEmptyInputMapEmitsNoSegmentsSpec) false w args)
      (Rows.fnEmptyInputMapEmitsNoSegmentsSpec.post enc Tryd.prog Tryd.f4 false true false false) := by
  refine returnsInHanded_of_change_and (C := Tryd.checked) (X := fun w _ => laidMetH Tryd.prog Rows.fnEmptyInputMapEmitsNoSegmentsRow.laid w) (fun _ _ _ hh h => h.of_heap hh) own started (by kernel_rfl) Tryd.func4
    (ChangeSpec.witness_shaped (enc := enc) (C := Tryd.checked) (os := os) (X := fun w _ => laidMetH Tryd.prog Rows.fnEmptyInputMapEmitsNoSegmentsRow.laid w) false (World.laidAll Tryd.prog os Rows.fnEmptyInputMapEmitsNoSegmentsRow.laid) #[.string ByteArray.empty, .bool false, .slice none 0 0, .slice none 0 0] 8 (World.laidAll_os _ _ _)
      (World.shaped_of_ZipB (by kernel_rfl) (by kernel_rfl)) (by kernel_rfl) (by kernel_rfl) (by kernel_rfl)
      (by rw [MakeChecks.laidMetH_plain _ _ _ (by kernel_rfl)]; exact laidMet_laidAll _ (by kernel_rfl) (by kernel_rfl))) ?_
  intro W base args ds gs before hval0 hW _ _ hL _
  have hval : ∀ (j : Nat) t v, Tryd.f4.params[j]? = some t → args[j]? = some v → Value.okWide Tryd.prog W .any base t v := hval0
  have hW' := hW
  obtain ⟨p, q, hA0, hV, rfl, hfz, hnd⟩ := hW
  have hA : DataW.TrodAll enc Tryd.prog W 0 (fun _ => true) true Tryd.f4.params.toList args.toList ds p := hA0
  rw [Tryd.params4] at hA hval
  obtain ⟨v0, vs0, d0, ds0, p0, q0, hargs, rfl, rfl, h0, r0⟩ := trodAll_cons hA
  obtain ⟨v1, vs1, d1, ds1, p1, q1, rfl, rfl, rfl, h1, r1⟩ := trodAll_cons r0
  obtain ⟨v2, vs2, d2, ds2, p2, q2, rfl, rfl, rfl, h2, r2⟩ := trodAll_cons r1
  obtain ⟨v3, vs3, d3, ds3, p3, q3, rfl, rfl, rfl, h3, r3⟩ := trodAll_cons r2
  obtain ⟨rfl, rfl, rfl⟩ := trodAll_nil r3
  obtain rfl : args = #[v0, v1, v2, v3] := by cases args; simp_all
  have hV1 : DataW.TrodVars enc Tryd.prog W (fun _ => true) ["github.com/evanw/esbuild/internal/sourcemap.base64"] gs q := hV
  obtain ⟨g1, rfl⟩ : ∃ g, gs = [g] := by
    match gs, hV1 with
    | [g], _ => exact ⟨g, rfl⟩
    | [], h => exact h.elim
    | _ :: _ :: _, ⟨_, _, _, _, _, _, _, _, _, _, h, _⟩ => exact h.elim
  have k0 := h0
  have lt0 : ∀ x ∈ p0, x.block < W.heap.size := by obtain ⟨m, hm⟩ := k0; exact DataW.trod_lt m _ _ _ hm
  have k1 := h1
  have lt1 : ∀ x ∈ p1, x.block < W.heap.size := by obtain ⟨m, hm⟩ := k1; exact DataW.trod_lt m _ _ _ hm
  have k2 := h2
  have lt2 : ∀ x ∈ p2, x.block < W.heap.size := by obtain ⟨m, hm⟩ := k2; exact DataW.trod_lt m _ _ _ hm
  have k3 := h3
  have lt3 : ∀ x ∈ p3, x.block < W.heap.size := by obtain ⟨m, hm⟩ := k3; exact DataW.trod_lt m _ _ _ hm
  obtain ⟨a0, rfl, rfl, rfl, w0⟩ := open_string Tryd.underlying9 (hval 0 9 v0 rfl rfl) h0
  obtain ⟨a1, rfl, rfl, rfl⟩ := open_bool Tryd.underlying4 (hval 1 4 v1 rfl rfl) h1
  obtain ⟨a2, len2, cap2, rfl⟩ := okWide_slice Tryd.underlying22 (hval 2 22 v2 rfl rfl)
  obtain ⟨z2, w2⟩ : ∃ zs, IsRow .u8 W a2 len2 cap2 zs := by
    obtain ⟨fuel, hf⟩ := h2
    rcases open_ints Tryd.underlying22 Tryd.underlying5 (by kernel_rfl) hf with ⟨hcs, _⟩ | ⟨x, l, c, zs, hcs, _, hl, hm, hz, _, hcell, hwz⟩
    · simp [Value.cells] at hcs
      obtain ⟨rfl, rfl, rfl⟩ := hcs
      exact ⟨[], .inl ⟨rfl, rfl, rfl, rfl⟩⟩
    · simp [Value.cells] at hcs
      obtain ⟨rfl, rfl, rfl⟩ := hcs
      exact ⟨zs, .inr ⟨_, rfl, hl, hm, by simpa using hz, hcell, hwz⟩⟩
  obtain ⟨a3, len3, cap3, rfl⟩ := okWide_slice Tryd.underlying46 (hval 3 46 v3 rfl rfl)
  obtain ⟨z3, w3⟩ : ∃ zs, IsStps W a3 len3 zs ∧ len3 ≤ cap3 := by
    obtain ⟨fuel, hf⟩ := h3
    obtain ⟨Z, hZ⟩ := open_stps Tryd.underlying46 Tryd.underlying65 (by kernel_rfl) (by kernel_rfl) Tryd.underlying21 Tryd.underlying21 Tryd.underlying9 hf
    exact ⟨Z, hZ, stp_cap Tryd.underlying46 hf⟩
  clear hA0 hval0
  refine (walk a0 a1 a2 len2 cap2 z2 a3 len3 cap3 z3 W w0 w2 w3 ).mono fun e W' ⟨he, bel⟩ => ?_
  subst he
  exact ⟨_, rfl, _, _, _, [], _, q, hW', trodAll_mk1 (shut_bool Tryd.underlying4 _), (trodAll_cons_mk (Below.trod laidOut (by kernel_rfl) (of_decide_eq_true (by kernel_rfl)) k0 bel lt0) (trodAll_cons_mk (Below.trod laidOut (by kernel_rfl) (of_decide_eq_true (by kernel_rfl)) k1 bel lt1) (trodAll_cons_mk (Below.trod laidOut (by kernel_rfl) (of_decide_eq_true (by kernel_rfl)) k2 bel lt2) (trodAll_cons_mk (Below.trod laidOut (by kernel_rfl) (of_decide_eq_true (by kernel_rfl)) k3 bel lt3) trodAll_mk0)))), Below.trodVars laidOut bel (by kernel_rfl) hV1, bel.frame _, fun h => by cases h⟩

theorem over : Rows.fnEmptyInputMapEmitsNoSegmentsRow.holds Tryd.pinned (OpenSpec.ofChange Rows.fnEmptyInputMapEmitsNoSegmentsSpec) :=
  OpenClaim.holds_of_wide 4 Tryd.f4 rfl rfl rfl rfl rfl rfl rfl ⟨rfl, rfl, rfl, rfl, rfl⟩ rfl rfl rfl rfl rfl (by kernel_rfl) Tryd.func4 (by kernel_rfl)
    (of_decide_eq_true (by kernel_rfl)) (by unfold Func.isWrapper; first | (rw [if_pos (by decide +kernel)]; kernel_rfl) | (rw [if_neg (by decide +kernel)]; exact ⟨rfl, rfl⟩))
    (fun os started H enc _ => lifted os started H enc)

theorem proved : Rows.FnEmptyInputMapEmitsNoSegmentsCardSaid :=
  Claim7.holds_tied_plain_at .later [] [.widerDeep] true (true, "190939292ed858e844c4e75e0d150a77152623d6fb3837a80aa61b9d91ad0ae8") false over (fun _ h => by cases h) (by kernel_rfl) (fun _ h => by cases h) fnEmptyInputMapEmitsNoSegments_row_tie rfl ⟨rfl, rfl⟩ (by kernel_rfl) rfl
    (fun f fn hf hfn => by
      obtain rfl : f = 4 := Option.some.inj ((show Tryd.prog.funcNamed "github.com/evanw/esbuild/n011_313.FnEmptyInputMapEmitsNoSegments" = some 4 by kernel_rfl).symm.trans hf) |>.symm
      obtain rfl : fn = Tryd.f4 := (Option.some.inj (Tryd.func4.symm.trans hfn)).symm
      exact ⟨by kernel_rfl, fun j t ht => by
        rw [Tryd.params4] at ht
        have hm : t ∈ [9, 4, 22, 46] := by simpa using Array.mem_of_getElem? ht
        have hall : ([9, 4, 22, 46].all fun u => !Tryd.prog.wantsStandIn u) = true := by kernel_rfl
        exact (show Tryd.prog.wantsStandIn t = false by simpa using List.all_eq_true.1 hall t hm)⟩)
    (by kernel_rfl)
#print axioms proved
end Go.Proofs.YtgdcpladehcegaaDoor.fnEmptyInputMapEmitsNoSegments