/- n011_64: ExportRenamer.NextRenamedName. -/
import Derived.Test.YtlcdpccalaccjaaDoorNrm
import Derived.Test.YtlcdpccalaccjaaDoorWords
import Derived.Test.YtlcdpccalaccjaaDoorShelf
import Derived.Maps.OwnSet
import Derived.Maps.Views
import Derived.Lib.SmallJoins
import Derived.WalkKit
import Derived.WalkSpells
import Derived.LoopTactic
import Derived.Outline
import Derived.Deep.Light
import Derived.IntWalk
namespace Go.Proofs.YtlcdpccalaccjaaDoor
open Go.RowKit Go.Maps Go.WideMaps
set_option linter.unusedVariables false
set_option linter.unusedSimpArgs false

/-- Only the blocks of S, and what is new, may have turned. -/
structure Turned (S : Nat → Prop) (w w' : World) : Prop where
  os : w'.os = w.os
  tape : w'.tape = w.tape
  output : w'.output = w.output
  size : w.heap.size ≤ w'.heap.size
  block : ∀ k, k < w.heap.size → ¬ S k → w'.heap[k]? = w.heap[k]?
theorem Turned.below {S : Nat → Prop} {w w' : World} (h : Turned S w w') {B : Nat} (hB : ∀ i, i < w.heap.size → S i → B ≤ i) (hs : B ≤ w.heap.size) : Below B w w' :=
  ⟨h.os, h.tape, h.output, h.size, fun i hi => h.block i (by omega) (fun e => by have := hB i (by omega) e; omega)⟩
theorem Turned.blk {S : Nat → Prop} {w w' : World} (h : Turned S w w') {g : Nat} {t : TypeId} {cs : Array Value} (hb : Blk w g t cs) (hn : ¬ S g) : Blk w' g t cs := (h.block g hb.lt hn).trans hb
theorem Turned.step {S : Nat → Prop} {w w1 w2 : World} (h : Turned S w w1) (hb : w1.heap.size ≤ w2.heap.size) (ho : w2.os = w1.os) (ht : w2.tape = w1.tape) (hp : w2.output = w1.output) (hk : ∀ k, k < w.heap.size → ¬ S k → w2.heap[k]? = w1.heap[k]?) : Turned S w w2 :=
  ⟨ho.trans h.os, ht.trans h.tape, hp.trans h.output, Nat.le_trans h.size hb, fun k hk1 hn => (hk k hk1 hn).trans (h.block k hk1 hn)⟩
theorem law9 : Keyed Tryd.prog 9 := string_keyed Tryd.underlying9
theorem zeroU (w : World) : (zeroValue 32).run Tryd.prog w = .ok (.int .u32 0) w := by kernel_rfl
abbrev MapIs (w : World) (b n : Nat) (D : DataW Unit) : Prop := w.ownsMap (H := Unit) Tryd.prog 9 (plainElem Tryd.prog 32) b n D
/-- The map of used names: its keys are just these, its numbers are at most V. -/
def UsedIs (w : World) (B : Nat) (v : Value) (ss : List ByteArray) (V : Nat) : Prop :=
  (v = .map none ∧ ss = []) ∨
  ∃ b D, v = .map (some b) ∧ B ≤ b ∧ MapIs w b ss.length D ∧ (∀ s : ByteArray, has D (.string s.data.toList) = hasS s ss) ∧
    ∀ (s : ByteArray), hasS s ss = true → ∃ c : Nat, D.atKey (.string s.data.toList) (.lit (.int .u32 0)) = .lit (.int .u32 c) ∧ 1 ≤ c ∧ c ≤ V
theorem MapIs.lt {w : World} {b n : Nat} {D : DataW Unit} (h : MapIs w b n D) : b < w.heap.size := World.ownsMap.lt h
theorem MapIs.not_cells {w : World} {b n : Nat} {D : DataW Unit} (h : MapIs w b n D) {g : Nat} {t : TypeId} {cs : Array Value} (hg : Blk w g t cs) : b ≠ g := by
  rintro rfl
  obtain ⟨es, cl, h1, _⟩ := h
  unfold Blk at hg
  rw [hg] at h1
  cases h1
theorem MapIs.turned {S : Nat → Prop} {w w' : World} {b n : Nat} {D : DataW Unit} (h : MapIs w b n D) (ht : Turned S w w') (hn : ¬ S b) : MapIs w' b n D := by
  obtain ⟨es, cl, k1, k2⟩ := h
  exact ⟨es, cl, (ht.block b (Array.getElem?_eq_some_iff.1 k1).1 hn).trans k1, k2⟩
theorem used_put {D : DataW Unit} (hD : IsMap D) (x : ByteArray) (c : Nat) {ss : List ByteArray} {V : Nat} (hc : 1 ≤ c ∧ c ≤ V) (h : ∀ s : ByteArray, has D (.string s.data.toList) = hasS s ss)
    (hv : ∀ (s : ByteArray), hasS s ss = true → ∃ c : Nat, D.atKey (.string s.data.toList) (.lit (.int .u32 0)) = .lit (.int .u32 c) ∧ 1 ≤ c ∧ c ≤ V) :
    (∀ s : ByteArray, has (D.put (.string x.data.toList) (.lit (.int .u32 c))) (.string s.data.toList) = hasS s (ss ++ [x])) ∧
    ∀ (s : ByteArray), hasS s (ss ++ [x]) = true → ∃ c' : Nat, (D.put (.string x.data.toList) (.lit (.int .u32 c))).atKey (.string s.data.toList) (.lit (.int .u32 0)) = .lit (.int .u32 c') ∧ 1 ≤ c' ∧ c' ≤ V := by
  constructor
  · intro s
    rw [hasS_snoc]
    by_cases e : x = s
    · subst e
      rw [has_put_same hD (by simp [WideAt.IsKeyLit])]; simp
    · have e1 : x.data.toList ≠ s.data.toList := fun h => e (ba_ext h)
      rw [has_put_other (fun h => e1 (by injection h with h; exact h.symm)), h]
      have : (x.toList == s.toList) = false := by
        rw [beq_eq_false_iff_ne, ByteArray.toList_eq, ByteArray.toList_eq]; exact e1
      rw [this, Bool.or_false]
  · intro s hs
    by_cases e : x = s
    · subst e
      exact ⟨c, atKey_put_same hD (by simp [WideAt.IsKeyLit]) _ _, hc⟩
    · have e1 : x.data.toList ≠ s.data.toList := fun h => e (ba_ext h)
      rw [atKey_put_other (fun h => e1 (by injection h with h; exact h.symm))]
      refine hv s ?_
      rw [hasS_snoc] at hs
      have : (x.toList == s.toList) = false := by
        rw [beq_eq_false_iff_ne, ByteArray.toList_eq, ByteArray.toList_eq]; exact e1
      rwa [this, Bool.or_false] at hs
/-- A look into the map. -/
theorem used_look {w : World} {b n V : Nat} {D : DataW Unit} {ss : List ByteArray} (h3 : MapIs w b n D) (h4 : ∀ s : ByteArray, has D (.string s.data.toList) = hasS s ss)
    (h5 : ∀ (s : ByteArray), hasS s ss = true → ∃ c : Nat, D.atKey (.string s.data.toList) (.lit (.int .u32 0)) = .lit (.int .u32 c) ∧ 1 ≤ c ∧ c ≤ V) (s : ByteArray) (hs : s.size ≤ maxLen) :
    ∃ c : Nat, (Instr.lookup 26 (.map (some b)) (.string s) true).run Tryd.prog w = .ok (.tuple #[.int .u32 c, .bool (hasS s ss)]) w ∧ (hasS s ss = true → 1 ≤ c ∧ c ≤ V) := by
  obtain ⟨x, ps, hrun, hx⟩ := h3.look_ok law9 Tryd.underlying26 (zeroU w) (plainElem_int Tryd.underlying32 (by decide)) (keyOf_string_mk Tryd.underlying9 hs)
  obtain ⟨c, rfl, hz, hwf⟩ := plainElem_int_inv Tryd.underlying32 hx
  rw [h4] at hrun
  cases hh : hasS s ss
  · simp [Lit.wf, IntKind.min, IntKind.max, IntKind.signed, IntKind.bits] at hwf
    obtain ⟨c, rfl⟩ := Int.eq_ofNat_of_zero_le hwf.1
    rw [hh] at hrun
    exact ⟨c, hrun, fun h => by cases h⟩
  · obtain ⟨c', e, h1, h2⟩ := h5 s hh
    rw [e] at hz
    have hz' : (DataW.lit (.int .u32 (c' : Int)) : DataW Unit) = .lit (.int .u32 c) := congrArg Prod.fst hz
    have hz2 : (Lit.int .u32 (c' : Int)) = .int .u32 c := by injection hz'
    have hz3 : (c' : Int) = c := by injection hz2
    subst hz3
    rw [hh] at hrun
    exact ⟨c', hrun, fun _ => ⟨h1, h2⟩⟩
abbrev Tab (w : World) : Prop := Lib.TabIs Tryd.prog w "internal/strconv.uint64pow10" .u64 Lib.pow10Tab
theorem gTab : Tryd.prog.globalNamed "internal/strconv.uint64pow10" = some 0 := by kernel_rfl
theorem tab_turned {S : Nat → Prop} {w w' : World} (h : Tab w) (ht : Turned S w w') (hn : ¬ S 0) : Tab w' := by
  unfold Tab Lib.TabIs World.var? at h ⊢
  rw [gTab] at h ⊢
  simp only [Option.bind_some] at h ⊢
  have hlt : 0 < w.heap.size := by
    rcases Nat.lt_or_ge 0 w.heap.size with h' | h'
    · exact h'
    · rw [Array.getElem?_eq_none h'] at h; cases h
  rw [ht.block _ hlt hn]
  exact h
def ItoaPost (t : Nat) (w : World) (e : Ending) (w' : World) : Prop := e = .returned (.string (numS t)) ∧ Turned (fun _ => False) w w'
theorem itoa_any (t : Nat) (ht : t ≤ 4294967295) (w : World) (hT : Tab w) : Calls Tryd.prog 9 #[.int .i64 (t : Int)] w (ItoaPost t w) := by
  refine (Tryd.strconv_Itoa (t : Int) (by omega) (by omega) w hT).mono ?_
  rintro e w' ⟨rfl, k, os, rfl⟩
  refine ⟨?_, ⟨rfl, rfl, rfl, by rw [Go.Sort.size_grow]; show w.heap.size ≤ w.heap.size + _; omega, fun i hi _ => Go.Sort.heap_grow_old (w.drewN k) os hi⟩⟩
  unfold numS Lib.itoa
  rw [if_neg (by omega), Int.toNat_natCast]
theorem itoa_int (n : Int) (t : Nat) (h : n = t) (ht : t ≤ 4294967295) (w : World) (hT : Tab w) : Calls Tryd.prog 9 #[.int .i64 n] w (ItoaPost t w) := by subst h; exact itoa_any t ht w hT
/-- What NextRenamedName leaves. -/
def NextPost (B br : Nat) (cnt : Value) (nm : ByteArray) (ss : List ByteArray) (V : Nat) (mp : Value) (w : World) (e : Ending) (w' : World) : Prop :=
  ∃ got mp', e = .returned (.string got) ∧ Blk w' br 28 #[mp', cnt] ∧ UsedIs w' B mp' (ss ++ [got]) (V + 1026) ∧ hasS got ss = false ∧
    (hasS nm ss = false → got = nm) ∧ (hasS nm ss = true → ∃ t, 2 ≤ t ∧ t ≤ 4294967295 ∧ got = nm ++ numS t) ∧ Turned (fun i => i = br ∨ mp = .map (some i)) w w'
set_option maxHeartbeats 2000000 in
set_option maxRecDepth 100000 in
theorem next_any (B br : Nat) (mp cnt : Value) (ss : List ByteArray) (V : Nat) (nm : ByteArray) (w : World) (hb : Blk w br 28 #[mp, cnt]) (hu : UsedIs w B mp ss V) (hT : Tab w) (hBr : 0 < B ∧ B ≤ br ∧ B ≤ w.heap.size) (hnm : nm.size ≤ 1048576) (hss : ss.length ≤ 1024) (hV : V ≤ 2000000) :
    Calls Tryd.prog 6 #[.pointer (some ⟨br, 0, none⟩), .string nm] w (NextPost B br cnt nm ss V mp w) := by
  have qT : ∀ (w : World) (r : Option Nat), (binOp .eql 26 (.map r) (.map none)).run Tryd.prog w = .ok (.bool r.isNone) w := fun w r => run_eql_map_nil w _ _ _ r Tryd.underlying26
  have hbr := hb.lt
  rcases hu with ⟨rfl, rfl⟩ | ⟨b, D, rfl, hBb, hmap, hhas, hval⟩
  · have hmm := @run_makeMap Tryd.prog
    have c0 : w.cell? ⟨br, 0, none⟩ = some (.map none) := hb.cell 0
    have z0 : w.frozen? ⟨br, 0, none⟩ = false := hb.frozen 0
    obtain ⟨W1, hW1⟩ : ∃ W1, W1 = (w.setCell ⟨br, 0, none⟩ (.map (some w.heap.size))).alloc (.map #[] 0) := ⟨_, rfl⟩
    have hblk1 : Blk W1 br 28 #[.map (some w.heap.size), cnt] := by rw [hW1]; exact (hb.set_ 0 _).alloc _
    have hm1 : MapIs W1 w.heap.size 0 (.map []) := by
      rw [hW1]
      have := World.ownsMap_made (H := Unit) (w.setCell ⟨br, 0, none⟩ (.map (some w.heap.size))) Tryd.prog 9 (plainElem Tryd.prog 32)
      rwa [size_setCell] at this
    have ht1 : Turned (fun i => i = br) w W1 := by
      rw [hW1]
      refine ⟨rfl, rfl, rfl, by simp [World.setCell], fun k hk hn => ?_⟩
      exact (Below.heap_alloc _ _ k (by rw [size_setCell]; exact hk)).trans (Below.heap_setCell _ _ _ k (by show k ≠ br; exact hn))
    have hlook : ∃ c : Nat, (Instr.lookup 26 (.map (some w.heap.size)) (.string nm) true).run Tryd.prog W1 = .ok (.tuple #[.int .u32 c, .bool (hasS nm [])]) W1 ∧ (hasS nm [] = true → 1 ≤ c ∧ c ≤ V) :=
      used_look (V := V) hm1 (fun s => rfl) (fun s h => by cases h) nm (by unfold maxLen; omega)
    obtain ⟨c, hrun, _⟩ := hlook
    rw [show hasS nm [] = false from rfl] at hrun
    have c1 : W1.cell? ⟨br, 0, none⟩ = some (.map (some w.heap.size)) := hblk1.cell 0
    have z1 : W1.frozen? ⟨br, 0, none⟩ = false := hblk1.frozen 0
    have hkey := keyOf_string_mk Tryd.underlying9 (show nm.size ≤ maxLen by unfold maxLen; omega)
    have HW1 := Lib.hid hW1; have HB1 := Lib.hid hblk1; have HM1 := Lib.hid hm1; have HT1 := Lib.hid ht1
    have HP := Lib.hid (used_put (V := V + 1026) hm1.isMap nm 1 (by omega) (ss := []) (fun s => rfl) (fun s h => by cases h))
    clear hb hT hW1 hblk1 ht1
    go_enter Tryd.func6, Tryd.ntmps6
    go_upto_region 3 with fail
    rw [← HW1.out]
    clear HW1 c0 z0 hmm qT
    go_wp2_with (at_mapUpdate; refine wpList_mapUpdate_own _ rfl _ _ _ 26 rfl 9 32 law9 Tryd.underlying26 (plainElem (H := Unit) Tryd.prog 32) w.heap.size 0 _ rfl hm1 (by unfold maxLen; omega) _ _ _ rfl rfl hkey _ [] (plainElem_int Tryd.underlying32 (by decide)) ?_; intro w1 hown1 hgrow1)
    go_ret
    refine ⟨nm, _, rfl, HB1.out.grown hgrow1 (by simp; omega), .inr ⟨w.heap.size, _, rfl, hBr.2.2, hown1, HP.out.1, HP.out.2⟩, rfl, fun _ => rfl, (fun h => by cases h), ?_⟩
    refine ⟨hgrow1.os.trans HT1.out.os, hgrow1.tape.trans HT1.out.tape, hgrow1.output.trans HT1.out.output, Nat.le_trans HT1.out.size hgrow1.size, fun k hk hn => ?_⟩
    exact (hgrow1.block k (Nat.lt_of_lt_of_le hk HT1.out.size) (fun e => by cases e; omega)).trans (HT1.out.block k hk (fun e => hn (.inl e)))
  · have hbb := hmap.not_cells hb
    have c0 : w.cell? ⟨br, 0, none⟩ = some (.map (some b)) := hb.cell 0
    obtain ⟨c, hrun, hcv⟩ := used_look hmap hhas hval nm (by unfold maxLen; omega)
    have hkey := keyOf_string_mk Tryd.underlying9 (show nm.size ≤ maxLen by unfold maxLen; omega)
    have HB := Lib.hid hb; have HT := Lib.hid hT; have HM := Lib.hid hmap; have HH := Lib.hid hhas; have HV := Lib.hid hval
    cases hin : hasS nm ss
    · have HIN := Lib.hid hin
      rw [hin] at hrun
      have HP := Lib.hid (used_put (V := V + 1026) hmap.isMap nm 1 (by omega) hhas (fun s h => by obtain ⟨c, h1, h2, h3⟩ := hval s h; exact ⟨c, h1, h2, by omega⟩))
      clear hb hT hhas hval hin hcv
      go_enter Tryd.func6, Tryd.ntmps6
      go_wp2_with (at_mapUpdate; refine wpList_mapUpdate_own _ rfl _ _ _ 26 rfl 9 32 law9 Tryd.underlying26 (plainElem (H := Unit) Tryd.prog 32) b ss.length _ rfl hmap (by unfold maxLen; omega) _ _ _ rfl rfl hkey _ [] (plainElem_int Tryd.underlying32 (by decide)) ?_; intro w1 hown1 hgrow1)
      go_ret
      refine ⟨nm, _, rfl, HB.out.grown hgrow1 (fun e => by cases e; omega), .inr ⟨b, _, rfl, hBb, by rw [List.length_append]; exact hown1, HP.out.1, HP.out.2⟩, HIN.out, fun _ => rfl, (fun h => by rw [HIN.out] at h; cases h), ?_⟩
      exact ⟨hgrow1.os, hgrow1.tape, hgrow1.output, hgrow1.size, fun k hk hn => hgrow1.block k hk (fun e => by cases e; exact hn (.inr rfl))⟩
    · have HIN := Lib.hid hin
      obtain ⟨hc1, hc2⟩ := hcv hin
      rw [hin] at hrun
      clear hb hT hhas hval hin hcv hkey
      go_enter Tryd.func6, Tryd.ntmps6
      go_wp2_with fail
      clear hrun
      go_loopw [1, 5, 8, 9] (fun a t u v wr => ∃ k : Nat, t = .int .u32 ((c + k : Nat) : Int) ∧ k ≤ ss.length ∧ (∀ j, j < k → nm ++ numS (c + 1 + j) ∈ ss) ∧ Turned (fun _ => False) w wr) (fun a t u v _ => c + ss.length - (intOf t).toNat)
      case atStart => exact ⟨0, by simp, by omega, fun j hj => by omega, ⟨rfl, rfl, rfl, Nat.le_refl _, fun _ _ _ => rfl⟩⟩
      case round =>
        obtain ⟨k, rfl, hk, hks, htr⟩ := hrel
        have HKS := Lib.hid hks; have HTR := Lib.hid htr
        have hTr := tab_turned HT.out htr (fun e => e)
        have HTT := Lib.hid hTr
        clear hks htr hTr
        have hb1 : (0 : Int) ≤ ((c + k : Nat) : Int) := by omega
        have hb2 : ((c + k : Nat) : Int) ≤ 4000000 := by omega
        go_wp2_with (go_at_call 9; refine (itoa_int _ (c + k + 1) (by first | rfl | (push_cast; omega) | omega) (by omega) wr HTT.out).mono ?_)
        rintro e w1 ⟨rfl, ht1⟩
        have ht2 : Turned (fun _ => False) w w1 := ⟨ht1.os.trans HTR.out.os, ht1.tape.trans HTR.out.tape, ht1.output.trans HTR.out.output, Nat.le_trans HTR.out.size ht1.size, fun i hi hn => (ht1.block i (Nat.lt_of_lt_of_le hi HTR.out.size) hn).trans (HTR.out.block i hi hn)⟩
        have hm1 := HM.out.turned ht2 (fun e => e)
        have hbk1 := ht2.blk HB.out (fun e => e)
        have c1 : w1.cell? ⟨br, 0, none⟩ = some (.map (some b)) := hbk1.cell 0
        have hns := numS_size (c + k + 1) (by omega)
        obtain ⟨x, hx⟩ : ∃ x, x = nm ++ numS (c + k + 1) := ⟨_, rfl⟩
        have hxs : x.size ≤ 1048586 := by
          rw [hx, ByteArray.size_append]
          have := numS_size (c + k + 1) (by omega)
          omega
        obtain ⟨d, hrun1, _⟩ := used_look hm1 HH.out HV.out x (by unfold maxLen; omega)
        have HX := Lib.hid hx; have HT2 := Lib.hid ht2; have HM1 := Lib.hid hm1; have HB1 := Lib.hid hbk1
        clear ht1 ht2 hbk1 hx
        cases hin1 : hasS x ss
        · have HIN1 := Lib.hid hin1
          rw [hin1] at hrun1
          have hkey := keyOf_string_mk Tryd.underlying9 (show x.size ≤ maxLen by unfold maxLen; omega)
          have HP := Lib.hid (used_put (V := V + 1026) HM.out.isMap x (c + k + 1) (by omega) HH.out (fun s h => by obtain ⟨c, h1, h2, h3⟩ := HV.out s h; exact ⟨c, h1, h2, by omega⟩))
          have hwf : (Lit.int .u32 ((c + k + 1 : Nat) : Int)).wf = true := by simp [Lit.wf, IntKind.min, IntKind.max, IntKind.signed, IntKind.bits]; omega
          have hpe := plainElem_int (H := Unit) Tryd.underlying32 hwf
          have HPE := Lib.hid hpe
          have hm2 := hm1
          rw [HX.out] at hrun1 hkey
          clear hin1 hwf hpe
          go_wp2_with (at_mapUpdate; refine wpList_mapUpdate_own _ rfl _ _ _ 26 rfl 9 32 law9 Tryd.underlying26 (plainElem (H := Unit) Tryd.prog 32) b ss.length _ rfl hm2 (by unfold maxLen; omega) _ _ _ rfl rfl hkey _ [] HPE.out ?_; intro w2 hown1 hgrow1)
          go_ret
          rw [← HX.out]
          rw [← HX.out] at hown1
          refine ⟨x, _, rfl, HB1.out.grown hgrow1 (fun e => by cases e; omega), .inr ⟨b, _, rfl, hBb, by rw [List.length_append]; exact hown1, HP.out.1, HP.out.2⟩, HIN1.out, (fun h => by rw [HIN.out] at h; cases h), fun _ => ⟨c + k + 1, by omega, by omega, HX.out⟩, ?_⟩
          exact ⟨hgrow1.os.trans HT2.out.os, hgrow1.tape.trans HT2.out.tape, hgrow1.output.trans HT2.out.output, Nat.le_trans HT2.out.size hgrow1.size, fun i hi hn => (hgrow1.block i (Nat.lt_of_lt_of_le hi HT2.out.size) (fun e => by cases e; exact hn (.inr rfl))).trans (HT2.out.block i hi (fun e => e))⟩
        · have HIN1 := Lib.hid hin1
          rw [hin1, HX.out] at hrun1
          have hkl : k + 1 ≤ ss.length := pigeon (fun j => nm ++ numS (c + 1 + j)) (fun i j h => cat_inj nm (c + 1) i j h) ss (k + 1) (fun j hj => by
            rcases Nat.lt_or_ge j k with h | h
            · exact HKS.out j h
            · obtain rfl : j = k := by omega
              show nm ++ numS (c + 1 + j) ∈ ss
              rw [show c + 1 + j = c + j + 1 by omega, ← HX.out]
              exact hasS_iff.1 HIN1.out)
          clear hin1 hm1
          go_wp2_with fail
          go_roundw
          case rel => exact ⟨k + 1, by go_num, hkl, fun j hj => by
            rcases Nat.lt_or_ge j k with h | h
            · exact HKS.out j h
            · obtain rfl : j = k := by omega
              rw [show c + 1 + j = c + j + 1 by omega, ← HX.out]
              exact hasS_iff.1 HIN1.out, HT2.out⟩
          case measure => simp [intOf]; omega
end Go.Proofs.YtlcdpccalaccjaaDoor
