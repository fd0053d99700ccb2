/-
  PROVED: A fresh ExportRenamer that is given any names answers pairwise distinct texts; a request is answered by itself exactly when it was no earlier answer, else by itself followed by a decimal number of at least two without a leading zero; the law answers true at all inputs. Conditions: the card's own (the tables of strconv and math/bits as the program's text lays them).
-/
import Derived.Test.YtlcdpccalaccjaaDoorRows
import Derived.Test.YtlcdpccalaccjaaDoorCards
import Derived.Test.YtlcdpccalaccjaaDoorTie
import Derived.WalkKit
import Derived.ProofKit
import Derived.IntWalk
import Derived.Outline
import Derived.LoopTactic
import Derived.WalkSpells
import Derived.Deep.Light
import Derived.Test.YtlcdpccalaccjaaDoorNrl
import Derived.OpenShut
import Derived.ShutString
import Derived.ChangeOld
import Derived.Below
import Derived.Carry
import Derived.SliceStrings
import Derived.Handy
import Derived.Lay
import Derived.SevenTiedAt
namespace Go.Proofs.YtlcdpccalaccjaaDoor.fnNextRenamedNameFreshAndKeepsUnseenNames
open Go.Maps Go.ChangeShapes Go.WideShapes Go.ChangeAt Go.RowKit
open Go.ChangeMaps (open_string shut_string)
set_option linter.unusedVariables false
set_option linter.unusedSimpArgs false

theorem own : ownKnob Tryd.prog.godebug = none := by kernel_rfl
theorem laidOut : laidOutB Tryd.pinned.checked.prog = true := by kernel_rfl

/-- What the walk is told of a slice of strings that came in. -/
def IsStrs (w : World) (a : Option Addr) (len cap : Nat) (ss : List ByteArray) : Prop :=
  (a = none ∧ len = 0 ∧ cap = 0 ∧ ss = []) ∨
  ∃ x, a = some x ∧ len ≤ cap ∧ cap ≤ maxLen ∧ ss.length = cap ∧ (∀ i, i < ss.length → w.cell? (x.add i) = some (.string (ss.getD i ByteArray.empty))) ∧ ∀ s ∈ ss, s.size ≤ maxLen
theorem isstrs_reads {w : World} {a : Option Addr} {len cap : Nat} {ss : List ByteArray} (h : IsStrs w a len cap ss) : Reads w w.heap.size 1 a len ((ss.take len).map Value.string) ∧ (a = none → len = 0) ∧ len ≤ maxLen ∧ ∀ s ∈ ss.take len, s.size ≤ maxLen := by
  rcases h with ⟨rfl, rfl, rfl, rfl⟩ | ⟨x, rfl, hl, hm, hz, hc, hs⟩
  · exact ⟨Reads.none_, fun _ => rfl, by unfold maxLen; omega, fun s h => by simp at h⟩
  · refine ⟨⟨by simp; omega, fun hn => ⟨x, rfl, ?_, fun j u hu => ?_⟩⟩, (fun h => by cases h), by omega, fun s h => hs s (List.mem_of_mem_take h)⟩
    · have := hc 0 (by omega)
      exact World.block_lt_of_cell? w x (by simpa [Addr.add] using this)
    · have hj : j < len := by
        have := (List.getElem?_eq_some_iff.1 hu).1
        simp at this; omega
      rw [hc j (by omega)]
      rw [List.getElem?_map, List.getElem?_take_of_lt hj, List.getElem?_eq_getElem (by omega)] at hu
      rw [List.getD_eq_getElem?_getD, List.getElem?_eq_getElem (by omega)]
      exact hu



theorem str_info : (Tryd.prog.info? 9).map (fun i => (i.zero, i.size, i.bytes)) = some (some (.string ⟨#[]⟩), 1, 16) := by kernel_rfl
theorem own_slice {w : World} {B e s n : Nat} {v : Value} {xs : List Value} (h : w.ownsRow B e s v n xs) : ∃ A c, v = .slice A n c := by
  rcases h.2 with ⟨rfl, rfl⟩ | ⟨g, cap, cur, rfl, _⟩
  · exact ⟨none, 0, rfl⟩
  · exact ⟨_, _, rfl⟩
theorem own_map_ne {w : World} {B e s n m b : Nat} {v : Value} {xs : List Value} {D : DataW Unit} (h : w.ownsRow B e s v n xs) (hm : MapIs w b m D) : v.ownBlock ≠ some b := by
  rcases h.2 with ⟨rfl, _⟩ | ⟨g, cap, cur, rfl, _, hg, _⟩
  · simp [Value.ownBlock]
  · intro he
    have : g = b := by simpa [Value.ownBlock] using he
    exact hm.not_cells hg this.symm
theorem own_kept {w w' : World} {B e s n : Nat} {v : Value} {xs : List Value} (h : w.ownsRow B e s v n xs) (hk : ∀ g, v.ownBlock = some g → g < w.heap.size → w'.heap[g]? = w.heap[g]?) : w'.ownsRow B e s v n xs := by
  refine ⟨h.1, ?_⟩
  rcases h.2 with hn | ⟨g, cap, cur, rfl, hb, hgg, rest⟩
  · exact .inl hn
  · exact .inr ⟨g, cap, cur, rfl, hb, (hk g rfl (Array.getElem?_eq_some_iff.1 hgg).1).trans hgg, rest⟩
theorem UsedIs.grown {w w' : World} {B V : Nat} {v : Value} {ss : List ByteArray} {row : Option Nat} (h : UsedIs w B v ss V) (hg : w.grownBy w' row) (hne : ∀ b m D, MapIs w b m D → some b ≠ row) : UsedIs w' B v ss V := by
  rcases h with h | ⟨b, D, h1, h2, h3, h4⟩
  · exact .inl h
  · exact .inr ⟨b, D, h1, h2, World.ownsMap.kept h3 hg (hne b _ D h3), h4⟩
theorem UsedIs.more {w : World} {B V V' : Nat} {v : Value} {ss : List ByteArray} (h : UsedIs w B v ss V) (hV : V ≤ V') : UsedIs w B v ss V' := by
  rcases h with h | ⟨b, D, h1, h2, h3, h4, h5⟩
  · exact .inl h
  · exact .inr ⟨b, D, h1, h2, h3, h4, fun s hs => by obtain ⟨c, e, c1, c2⟩ := h5 s hs; exact ⟨c, e, c1, by omega⟩⟩
theorem UsedIs.blk {w : World} {B V : Nat} {v : Value} {ss : List ByteArray} (h : UsedIs w B v ss V) {i : Nat} (hv : v = .map (some i)) : B ≤ i ∧ ∃ m D, MapIs w i m D := by
  rcases h with ⟨h, _⟩ | ⟨b, D, h1, h2, h3, _⟩
  · rw [hv] at h; cases h
  · rw [hv] at h1
    obtain rfl : i = b := by injection h1 with h1; injection h1
    exact ⟨h2, _, D, h3⟩
theorem tab_below {w w' : World} {B : Nat} (h : Tab w) (hb : Below B w w') (hB : 0 < B) : Tab w' := by
  unfold Tab Lib.TabIs World.var? at h ⊢
  rw [gTab] at h ⊢
  simp only [Option.bind_some] at h ⊢
  rw [hb.block 0 hB]
  exact h
/-! ### STEP 1: THE WALK -/
set_option maxHeartbeats 8000000 in
set_option maxRecDepth 100000 in
theorem walk (a0 : Option Addr) (len0 cap0 : Nat) (z0 : List ByteArray) (w : World) (w0 : IsStrs w a0 len0 cap0 z0) (hT : Tab w) :
    Calls Tryd.prog 3 #[.slice a0 len0 cap0] w fun e w' => e = .returned (.bool true) ∧ Below w.heap.size w w' := by
  obtain ⟨hr, hA, hln, hss⟩ := isstrs_reads w0
  generalize z0.take len0 = ss at hr hss
  have HR := Lib.hid hr; have HS := Lib.hid hss; have HT := Lib.hid hT
  have hlen : ss.length = len0 := by have := hr.1; simpa using this
  have HL := Lib.hid hlen
  unfold maxLen at hln
  have hpos : 0 < w.heap.size := by
    unfold Tab Lib.TabIs World.var? at hT
    rw [gTab] at hT
    simp only [Option.bind_some] at hT
    rcases Nat.lt_or_ge 0 w.heap.size with h | h
    · exact h
    · rw [Array.getElem?_eq_none h] at hT; cases hT
  clear w0 hA hr hss hT hlen
  go_enter Tryd.func3, Tryd.ntmps3
  go_wp2_with (go_at_call 4; refine (zbytes a0 len0 cap0 ss _ HR.out hln HS.out).mono ?_)
  rintro e wz ⟨bz, rfl, hz, rfl⟩
  have HZ := Lib.hid hz
  clear hz
  cases bz
  · go_wp2
    go_ret
    exact ⟨rfl, Below.refl _ _⟩
  by_cases hbig : 1024 < len0
  · go_wp2
    go_ret
    exact ⟨rfl, Below.refl _ _⟩
  go_wp2_with (go_at_call 5; refine (zsum a0 len0 cap0 ss _ HR.out (by omega) (fun s hs => by have := HZ.out (by first | rfl | trivial) s hs; omega)).mono ?_)
  rintro e wz ⟨r, rfl, hsum, rfl⟩
  have HSUM := Lib.hid hsum
  clear hsum
  by_cases hr : 1048576 < r
  · go_wp2
    go_ret
    exact ⟨rfl, Below.refl _ _⟩
  have HSZ := Lib.hid (HZ.out (by first | rfl | trivial))
  obtain ⟨i0, hi, hz0, hz1, hz2⟩ := info_parts str_info
  have hmk : ∀ W : World, (Instr.makeSlice 22 (.int .i64 0) (.int .i64 (len0 : Int))).run Tryd.prog W = .ok (.slice (some ⟨W.heap.size, 0, none⟩) 0 len0) (W.alloc (.cells (madeCells #[.string ⟨#[]⟩] len0) 9)) := fun W => by
    have := run_make (P := Tryd.prog) W 22 9 i0 (.string ⟨#[]⟩) Tryd.underlying22 hi hz0 .i64 .i64 (0 : Nat) len0 (by omega) (by omega) (by rw [hz2]; omega) (by omega)
    simpa [hz1, Value.cells] using this
  obtain ⟨W0, hW0⟩ : ∃ W0, W0 = (w.alloc (.cells #[.map none, .int .i64 0] 28)).alloc (.cells (madeCells #[.string ⟨#[]⟩] len0) 9) := ⟨_, rfl⟩
  have HB0 : Hid (Blk W0 w.heap.size 28 #[.map none, .int .i64 0]) := Lib.hid (by rw [hW0]; exact (Blk.new _ _ _).alloc _)
  have HO0 : Hid (W0.ownsRow w.heap.size 9 1 (.slice (some ⟨w.heap.size + 1, 0, none⟩) 0 len0) 0 []) := Lib.hid (by
    rw [hW0]
    have := World.ownsRow_made (base := w.heap.size) (e := 9) (size := 1) (w.alloc (.cells #[.map none, .int .i64 0] 28)) (madeCells #[.string ⟨#[]⟩] len0) len0 (by simp) (by unfold maxLen; omega) (by simp [madeCells])
    simpa using this)
  have HBE0 : Hid (Below w.heap.size w W0) := Lib.hid (by rw [hW0]; exact ((Below.refl _ _).alloc (Nat.le_refl _) _).alloc (by simp) _)
  have HW0 := Lib.hid hW0
  clear hW0
  go_upto_region 9 with fail
  rw [← HW0.out]
  clear HW0 hmk
  go_wp2_with fail
  go_loopw [4, 5, 6, 7] (fun v t g s wr => ∃ (k : Nat) (rs : List ByteArray) (mp : Value), t = .int .i64 k ∧ k ≤ len0 ∧ rs.length = k ∧ Blk wr w.heap.size 28 #[mp, .int .i64 0] ∧ UsedIs wr w.heap.size mp rs (k * 1026) ∧ wr.ownsRow w.heap.size 9 1 v k (rs.map Value.string) ∧ Below w.heap.size w wr) (fun v t g s _ => len0 - (intOf t).toNat)
  case atStart => exact ⟨0, [], .map none, rfl, by omega, rfl, HB0.out, .inl ⟨rfl, rfl⟩, HO0.out, HBE0.out⟩
  case round =>
    obtain ⟨k, rs, mp, rfl, hk, hrs, hbk, hus, hown, hbe⟩ := hrel
    obtain ⟨A, c, rfl⟩ := own_slice hown
    have hws := hbe.size
    have HBK := Lib.hid hbk; have HUS := Lib.hid hus; have HOWN := Lib.hid hown; have HBE := Lib.hid hbe; have HRS := Lib.hid hrs
    clear hbk hus hown hbe hrs
    by_cases hlt : k < len0
    · obtain ⟨b2, off2, rfl, hb2, hc2⟩ := reads_any HR.out (show 0 < len0 by omega)
      obtain ⟨x, hx⟩ : ∃ x, ss[k]? = some x := ⟨_, List.getElem?_eq_getElem (by have := HL.out; omega)⟩
      have c2 : wr.cell? ⟨b2, off2 + k, none⟩ = some (.string x) := (HBE.out.cell (p := ⟨b2, off2 + k, none⟩) hb2).trans (hc2 k x hx)
      have hxs := HSZ.out x (List.mem_of_getElem? hx)
      have HC2 := Lib.hid (hc2 k x hx)
      clear hc2 hx
      go_wp2_with (go_at_call 6; refine (next_any w.heap.size w.heap.size mp (.int .i64 0) rs (k * 1026) x wr HBK.out HUS.out (tab_below HT.out HBE.out hpos) ⟨hpos, Nat.le_refl _, hws⟩ hxs (by have := HRS.out; omega) (by omega)).mono ?_)
      rintro e w1 ⟨got, mp', rfl, hbk1, hus1, hno, hyes1, hyes2, ht1⟩
      have hbe1 : Below w.heap.size w w1 := HBE.out.trans (ht1.below (fun i _ hi => by
        rcases hi with rfl | hi
        · exact Nat.le_refl _
        · exact (UsedIs.blk HUS.out hi).1) hws)
      have hown1 : w1.ownsRow w.heap.size 9 1 (.slice A k c) k (rs.map Value.string) := own_kept HOWN.out (fun g hg hlt => ht1.block g hlt (by
        rintro (rfl | hi)
        · exact own_blk_ne HOWN.out HBK.out (by decide) hg
        · obtain ⟨_, m, D, hm⟩ := UsedIs.blk HUS.out hi
          exact own_map_ne HOWN.out hm hg))
      have HBK1 := Lib.hid hbk1; have HUS1 := Lib.hid hus1; have HY1 := Lib.hid hyes1; have HY2 := Lib.hid hyes2; have HNO := Lib.hid hno; have HBE1 := Lib.hid hbe1; have HOWN1 := Lib.hid hown1
      have hws1 := hbe1.size
      have HR1 : Hid (Reads w1 w1.heap.size 1 A k (rs.map Value.string)) := Lib.hid (Reads.of_own hown1)
      have c3 : w1.cell? ⟨b2, off2 + k, none⟩ = some (.string x) := (hbe1.cell (p := ⟨b2, off2 + k, none⟩) hb2).trans HC2.out
      clear hbk1 hus1 hno hyes1 hyes2 ht1 hbe1 hown1 c2
      have fin : ∀ v' w2, w2.ownsRow w.heap.size 9 1 v' (k + 1) (rs.map Value.string ++ [.string got]) → (w1.alloc (.cells #[.string got] 9)).grownBy w2 (Value.ownBlock (.slice A k c)) → ∃ (k' : Nat) (rs' : List ByteArray) (mp'' : Value), (Value.int .i64 ((k : Int) + 1)) = .int .i64 k' ∧ k' ≤ len0 ∧ rs'.length = k' ∧ Blk w2 w.heap.size 28 #[mp'', .int .i64 0] ∧ UsedIs w2 w.heap.size mp'' rs' (k' * 1026) ∧ w2.ownsRow w.heap.size 9 1 v' k' (rs'.map Value.string) ∧ Below w.heap.size w w2 := fun v' w2 ho hg => by
        have hoA := HOWN1.out.alloc (.cells #[.string got] 9)
        refine ⟨k + 1, rs ++ [got], mp', by go_num, by omega, by rw [List.length_append, HRS.out]; rfl, ?_, ?_, by rw [List.map_append]; exact ho, ?_⟩
        · exact (HBK1.out.alloc _).grown hg (fun e => own_blk_ne HOWN1.out HBK1.out (by decide) e.symm)
        · have h1 := UsedIs.grown (UsedIs.grown HUS1.out (only_alloc (World.grownBy.refl w1 none) (.cells #[.string got] 9)) (fun _ _ _ _ e => by cases e)) hg (fun b m D hm e => own_map_ne hoA hm e.symm)
          exact UsedIs.more h1 (by omega)
        · exact (HBE1.out.alloc hws1 _).grown hg (by simp; omega) (fun g hg' => (HOWN1.out.lt g hg').1)
      have FIN := Lib.hid fin
      clear fin
      cases hseen : hasS x rs
      · have hgx := HY1.out hseen
        subst hgx
        clear hseen
        go_wp2_with (first | (go_at_call 7; (with_reducible refine (zin A k c rs got _ HR1.out (by omega) false HNO.out).mono ?_); rintro e wz ⟨rfl, rfl⟩) | (at_builtin; refine wpList_append_own _ rfl _ _ 22 rfl w.heap.size 9 i0 (.string ⟨#[]⟩) 1 16 Tryd.underlying22 hi hz0 hz1 hz2 rfl (by decide) _ _ _ rfl (HOWN1.out.alloc _) ⟨w1.heap.size, 0, none⟩ 1 1 [.string got] rfl rfl ?c1 ?c2 ?c3 ?c4 ?c5 ?_))
        case c1 => exact cell_one_new _ _ _
        case c2 => intro u hu; obtain rfl := List.mem_singleton.1 hu; rfl
        case c3 => unfold maxLen; omega
        case c4 => omega
        case c5 => simp; omega
        intro v2 w2 hown2 hgrow2 _
        have fin2 := FIN.out v2 w2 hown2 hgrow2
        have FIN2 := Lib.hid fin2
        clear hown2 hgrow2 fin2
        go_wp2_with fail
        go_roundw
        case rel => exact FIN2.out
        case measure => simp [intOf]; omega
      · obtain ⟨t, ht1, ht2, hgt⟩ := HY2.out hseen
        have HSEEN := Lib.hid hseen
        have HGT := Lib.hid hgt
        clear hseen hgt
        go_wp2_with (first | (go_at_call 7; (with_reducible refine (zin A k c rs got _ HR1.out (by omega) false HNO.out).mono ?_); rintro e wz ⟨rfl, rfl⟩) | (go_at_call 7; (with_reducible refine (zin A k c rs x _ HR1.out (by omega) true HSEEN.out).mono ?_); rintro e wz ⟨rfl, rfl⟩) | (go_at_call 8; refine (zpp x got t ht1 ht2 hxs HGT.out _).mono ?_; rintro e wz ⟨rfl, rfl⟩) | (at_builtin; refine wpList_append_own _ rfl _ _ 22 rfl w.heap.size 9 i0 (.string ⟨#[]⟩) 1 16 Tryd.underlying22 hi hz0 hz1 hz2 rfl (by decide) _ _ _ rfl (HOWN1.out.alloc _) ⟨w1.heap.size, 0, none⟩ 1 1 [.string got] rfl rfl ?c1 ?c2 ?c3 ?c4 ?c5 ?_))
        case c1 => exact cell_one_new _ _ _
        case c2 => intro u hu; obtain rfl := List.mem_singleton.1 hu; rfl
        case c3 => unfold maxLen; omega
        case c4 => omega
        case c5 => simp; omega
        intro v2 w2 hown2 hgrow2 _
        have fin2 := FIN.out v2 w2 hown2 hgrow2
        have FIN2 := Lib.hid fin2
        clear hown2 hgrow2 fin2
        go_wp2_with fail
        go_roundw
        case rel => exact FIN2.out
        case measure => simp [intOf]; omega
    · obtain rfl : k = len0 := by omega
      go_wp2_with fail
      go_ret
      exact ⟨rfl, HBE.out⟩

/-! ### THE ROW's STEP -/
set_option maxRecDepth 100000 in
theorem lifted (os : Os) (started : os.Started) (H : Type) (enc : TypeId × Value → H) :
    ReturnsInHanded {} Tryd.checked os 3 .any (fun w args => (Rows.fnNextRenamedNameFreshAndKeepsUnseenNamesSpec.pre enc Tryd.prog Tryd.f3 [] false w args ∧ laidMetH Tryd.prog Rows.fnNextRenamedNameFreshAndKeepsUnseenNamesRow.laid w) ∧ sizedMet enc Tryd.prog Tryd.f3 (OpenSpec.ofChange Rows.fnNextRenamedNameFreshAndKeepsUnseenNamesSpec) false w args)
      (Rows.fnNextRenamedNameFreshAndKeepsUnseenNamesSpec.post enc Tryd.prog Tryd.f3 false true false false) := by
  refine returnsInHanded_of_change_and (C := Tryd.checked) (X := fun w _ => laidMetH Tryd.prog Rows.fnNextRenamedNameFreshAndKeepsUnseenNamesRow.laid w) (fun _ _ _ hh h => h.of_heap hh) own started (by kernel_rfl) Tryd.func3
    (ChangeSpec.witness_shaped (enc := enc) (C := Tryd.checked) (os := os) (X := fun w _ => laidMetH Tryd.prog Rows.fnNextRenamedNameFreshAndKeepsUnseenNamesRow.laid w) false (World.laidAll Tryd.prog os Rows.fnNextRenamedNameFreshAndKeepsUnseenNamesRow.laid) #[.slice none 0 0] 8 (World.laidAll_os _ _ _)
      (World.shaped_of_ZipB (by kernel_rfl) (by kernel_rfl)) (by kernel_rfl) (by kernel_rfl) (by kernel_rfl)
      (by rw [MakeChecks.laidMetH_plain _ _ _ (by kernel_rfl)]; exact laidMet_laidAll _ (by kernel_rfl) (by kernel_rfl))) ?_
  intro W base args ds gs before hval0 hW _ _ hL _
  have hval : ∀ (j : Nat) t v, Tryd.f3.params[j]? = some t → args[j]? = some v → Value.okWide Tryd.prog W .any base t v := hval0
  have hW' := hW
  obtain ⟨p, q, hA0, hV, rfl, hfz, hnd⟩ := hW
  have hA : DataW.TrodAll enc Tryd.prog W 0 (fun _ => true) true Tryd.f3.params.toList args.toList ds p := hA0
  rw [Tryd.params3] at hA hval
  obtain ⟨v0, vs0, d0, ds0, p0, q0, hargs, rfl, rfl, h0, r0⟩ := trodAll_cons hA
  obtain ⟨rfl, rfl, rfl⟩ := trodAll_nil r0
  obtain rfl : args = #[v0] := by cases args; simp_all
  obtain ⟨rfl, rfl⟩ := trodVars_none hV
  have k0 := h0
  have lt0 : ∀ x ∈ p0, x.block < W.heap.size := by obtain ⟨m, hm⟩ := k0; exact DataW.trod_lt m _ _ _ hm
  obtain ⟨a0, len0, cap0, rfl⟩ := okWide_slice Tryd.underlying22 (hval 0 22 v0 rfl rfl)
  obtain ⟨z0, w0⟩ : ∃ zs, IsStrs W a0 len0 cap0 zs := by
    obtain ⟨fuel, hf⟩ := h0
    rcases open_strings Tryd.underlying22 Tryd.underlying9 (by kernel_rfl) hf with ⟨hcs, _⟩ | ⟨x, l, c, zs, hcs, _, hl, hm, hz, _, hcell, hwz⟩
    · simp [Value.cells] at hcs
      obtain ⟨rfl, rfl, rfl⟩ := hcs
      exact ⟨[], .inl ⟨rfl, rfl, rfl, rfl⟩⟩
    · simp [Value.cells] at hcs
      obtain ⟨rfl, rfl, rfl⟩ := hcs
      exact ⟨zs, .inr ⟨_, rfl, hl, hm, by simpa using hz, hcell, hwz⟩⟩
  clear hA0 hval0
  refine (walk a0 len0 cap0 z0 W w0 (tab_of hL)).mono fun e W' ⟨he, bel⟩ => ?_
  subst he
  exact ⟨_, rfl, _, _, _, [], _, [], hW', trodAll_mk1 (shut_bool Tryd.underlying4 _), (trodAll_cons_mk (Below.trod laidOut (by kernel_rfl) (of_decide_eq_true (by kernel_rfl)) k0 bel lt0) trodAll_mk0), rfl, bel.frame _, fun h => by cases h⟩

theorem over : Rows.fnNextRenamedNameFreshAndKeepsUnseenNamesRow.holds Tryd.pinned (OpenSpec.ofChange Rows.fnNextRenamedNameFreshAndKeepsUnseenNamesSpec) :=
  OpenClaim.holds_of_wide 3 Tryd.f3 rfl rfl rfl rfl rfl rfl rfl ⟨rfl, rfl, rfl, rfl, rfl⟩ rfl rfl rfl rfl rfl (by kernel_rfl) Tryd.func3 (by kernel_rfl)
    (of_decide_eq_true (by kernel_rfl)) (by unfold Func.isWrapper; first | (rw [if_pos (by decide +kernel)]; kernel_rfl) | (rw [if_neg (by decide +kernel)]; exact ⟨rfl, rfl⟩))
    (fun os started H enc _ => lifted os started H enc)

theorem proved : Rows.FnNextRenamedNameFreshAndKeepsUnseenNamesCardSaid :=
  Claim7.holds_tied_plain_at .later [] [.data, .data, .data] true (true, "e02395c649aaf8d1b6085cae8003c9c20a94e818d1f19f41d2dffd242a4e8aaf") false over (fun _ h => by cases h) (by kernel_rfl) (fun _ h => by cases h) fnNextRenamedNameFreshAndKeepsUnseenNames_row_tie rfl ⟨rfl, rfl⟩ (by kernel_rfl) rfl
    (fun f fn hf hfn => by
      obtain rfl : f = 3 := Option.some.inj ((show Tryd.prog.funcNamed "github.com/evanw/esbuild/n011_64.FnNextRenamedNameFreshAndKeepsUnseenNames" = some 3 by kernel_rfl).symm.trans hf) |>.symm
      obtain rfl : fn = Tryd.f3 := (Option.some.inj (Tryd.func3.symm.trans hfn)).symm
      exact ⟨by kernel_rfl, fun j t ht => by
        rw [Tryd.params3] at ht
        have hm : t ∈ [22] := by simpa using Array.mem_of_getElem? ht
        have hall : ([22].all fun u => !Tryd.prog.wantsStandIn u) = true := by kernel_rfl
        exact (show Tryd.prog.wantsStandIn t = false by simpa using List.all_eq_true.1 hall t hm)⟩)
    (by kernel_rfl)
#print axioms proved
end Go.Proofs.YtlcdpccalaccjaaDoor.fnNextRenamedNameFreshAndKeepsUnseenNames