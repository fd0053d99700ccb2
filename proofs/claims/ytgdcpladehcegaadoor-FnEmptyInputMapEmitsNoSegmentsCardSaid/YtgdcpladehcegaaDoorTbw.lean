/- GenerateLineOffsetTables. -/
import Derived.Test.YtgdcpladehcegaaDoorTbp
import Derived.Test.YtgdcpladehcegaaDoorApp
import Derived.Test.YtgdcpladehcegaaDoorUpd
import Derived.Test.YtgdcpladehcegaaDoorZl0
import Derived.WalkKit
import Derived.WalkSpells
import Derived.LoopTactic
import Derived.WalkMore
import Derived.Deep.Light
import Derived.Outline
import Derived.IntWalk
import Derived.ProofKit
import Derived.BigCall
import Derived.Laws.IdiomStrings
import Derived.Lib.BufferRead
import Derived.Deep.Cut
import Derived.Deep.CutRange
import Derived.Deep.DeepCutAuto
namespace Go.Proofs.YtgdcpladehcegaaDoor
open Go.RowKit
set_option linter.unusedVariables false
set_option linter.unusedSimpArgs false
theorem i32I : (Tryd.prog.info? 21).map (fun i => (i.zero, i.size, i.bytes)) = some (some (.int .i32 0), 1, 4) := by kernel_rfl
def zLot : Value := .agg #[.slice none 0 0, .int .i32 0, .int .i32 0]
theorem lotI : (Tryd.prog.info? 60).map (fun i => (i.zero, i.size, i.bytes)) = some (some zLot, 3, 32) := by kernel_rfl
theorem srcI (W : World) (p : Nat) (z : Int) (hp : p = W.heap.size) : Src Tryd.prog 1 58 (.slice (some ⟨p, 0, none⟩) 1 1) 1 [.int .i32 z] (W.alloc (.cells #[.int .i32 z] 21)) :=
  Src.ofSlice _ Tryd.underlying58 _ 1 1 _ rfl (fun j u hu => by
    have hj : j < 1 := (List.getElem?_eq_some_iff.1 hu).1
    obtain rfl : j = 0 := by omega
    subst hp
    rw [← hu]
    exact (Blk.new W 21 #[.int .i32 z]).cell 0) (fun u hu => by
    obtain rfl : u = .int .i32 z := by simpa using hu
    rfl)
theorem srcL (W : World) (p : Nat) (A : Option Addr) (n c : Nat) (x y : Int) (hp : p = W.heap.size) : Src Tryd.prog 3 25 (.slice (some ⟨p, 0, none⟩) 1 1) 1 [.slice A n c, .int .i32 x, .int .i32 y] (W.alloc (.cells #[.slice A n c, .int .i32 x, .int .i32 y] 60)) :=
  Src.ofSlice _ Tryd.underlying25 _ 1 1 _ rfl (fun j u hu => by
    subst hp
    have hc := (Blk.new W 60 #[.slice A n c, .int .i32 x, .int .i32 y]).cell j
    rw [← hu]
    rcases (by have := (List.getElem?_eq_some_iff.1 hu).1; simp at this; omega : j = 0 ∨ j = 1 ∨ j = 2) with rfl | rfl | rfl <;> exact hc) (fun u hu => by
    simp only [List.mem_cons, List.not_mem_nil, or_false] at hu
    rcases hu with rfl | rfl | rfl <;> rfl)
def Mid (s : ByteArray) (B q p : Nat) (w : World) (tv : Value) (R : List (Value × Nat × Nat)) (LS lim : Nat) (CA : Option Addr) (cn cc f cbo Bc : Nat) (wx : World) : Prop :=
  TM s B q p w wx tv R LS Bc ∧ ((CA = none ∧ cn = 0 ∧ cc = 0 ∧ f = 0 ∧ cbo = 0) ∨ CS wx Bc f cbo (.slice CA cn cc)) ∧ LS + cbo ≤ lim
def Mid1 (s : ByteArray) (B q p : Nat) (w : World) (tv : Value) (R : List (Value × Nat × Nat)) (LS lim : Nat) (CA : Option Addr) (cn cc f cbo Bc : Nat) (wx : World) : Prop :=
  TM s B q p w wx tv R LS Bc ∧ ((CA = none ∧ cn = 0 ∧ cc = 0 ∧ f = 0 ∧ cbo = 0) ∨ (CS wx Bc f cbo (.slice CA cn cc) ∧ LS + cbo = lim))
structure TL (s : ByteArray) (B q j : Nat) (w : World) (TA : Option Addr) (tc : Nat) (R : List (Value × Nat × Nat)) (LS : Nat) (CA : Option Addr) (cn cc f lbo cbo col Bc : Nat) (wr : World) : Prop where
  mid : Mid s B q (pos s j) w (.slice TA R.length tc) R LS (pos s j) CA cn cc f cbo Bc wr
  ln : (col = 0 ∧ pos s j = LS) ∨ (1 ≤ col ∧ lbo = LS)
  bd : col ≤ 2 * pos s j ∧ R.length ≤ LS ∧ LS ≤ pos s j
theorem Mid1.row_ {s : ByteArray} {B q p : Nat} {w wx : World} {tv v' : Value} {R : List (Value × Nat × Nat)} {LS lim nx : Nat} {CA : Option Addr} {cn cc f cbo Bc : Nat} (h : Mid1 s B q p w tv R LS lim CA cn cc f cbo Bc wx) (hlim : lim ≤ s.size + 1) (hk : ∀ k, LS ≤ pos s k → pos s k < nx → pos s k < lim) (o : Obj) (w2 : World)
    (hg : (wx.alloc o).grownBy w2 tv.ownBlock) (ho : w2.ownsRow B 60 3 v' (R.length + 1) (rowsC R ++ rowC (.slice CA cn cc, f, LS))) : TM s B q p w w2 v' (R ++ [(.slice CA cn cc, f, LS)]) nx w2.heap.size := by
  refine h.1.row (cbo := cbo) ?_ o w2 hg ho
  rcases h.2 with ⟨rfl, rfl, rfl, rfl, rfl⟩ | ⟨h1, h2⟩
  · exact .inl rfl
  · exact .inr ⟨h1, by omega, fun k k1 k2 => by rw [h2]; exact hk k k1 k2⟩
def TabPost (s : ByteArray) (w : World) (e : Ending) (w' : World) : Prop :=
  ∃ (A : Option Addr) (c : Nat) (R : List (Value × Nat × Nat)), e = .returned (.slice A R.length c) ∧ 1 ≤ R.length ∧ R.length ≤ s.size + 1 ∧ w'.ownsRow w.heap.size 60 3 (.slice A R.length c) R.length (rowsC R) ∧ RowsOK w' w'.heap.size s R (s.size + 1) ∧ Below w.heap.size w w'
set_option maxHeartbeats 8000000 in
set_option maxRecDepth 100000 in
theorem tab_any (s : ByteArray) (w : World) (hs : s.size ≤ 1048576) : Calls Tryd.prog 7 #[.string s, .int .i32 0] w (TabPost s w) := by
  obtain ⟨i0, hi0, hz0, hz1, hz2⟩ := info_parts i32I
  obtain ⟨i1, hi1, hy0, hy1, hy2⟩ := info_parts lotI
  have heq : ∀ (W : World) (a : Option Addr) (l c : Nat), (binOp .eql 58 (.slice a l c) (.slice none 0 0)).run Tryd.prog W = .ok (.bool a.isNone) W := fun W a l c => Lib.run_eql_slice_nil W 58 21 a l c 0 0 Tryd.underlying58
  have hmk : ∀ W : World, (Instr.makeSlice 25 (.int .i64 0) (.int .i32 0)).run Tryd.prog W = .ok (.slice (some ⟨W.heap.size, 0, none⟩) 0 0) (W.alloc (.cells #[] 60)) := fun W => by
    have h := run_make (P := Tryd.prog) W 25 60 i1 zLot Tryd.underlying25 hi1 hy0 .i64 .i32 0 0 (by omega) (by omega) (by omega) (by omega)
    have e : madeCells zLot.cells ((0 : Int).toNat * i1.size) = #[] := by rw [show (0 : Int).toNat * i1.size = 0 by simp]; simp [madeCells]
    rw [e] at h
    exact h
  have HSz := Lib.hid hs
  have HST : Hid (TL s w.heap.size (w.heap.size + 1) 0 w (some ⟨w.heap.size, 0, none⟩) 0 [] 0 none 0 0 0 0 0 0 (w.heap.size + 1) ((w.alloc (.cells #[] 60)).iter s 0)) := Lib.hid (by
    refine ⟨⟨⟨?_, ((Below.refl _ _).alloc (Nat.le_refl _) _).alloc (by simp) _, ?_, RowsOK.nil_ _ _ _, by omega, by omega, by simp [World.iter]⟩, .inl ⟨rfl, rfl, rfl, rfl, rfl⟩, Nat.le_refl _⟩, .inl ⟨rfl, rfl⟩, by simp [pos]⟩
    · have := World.iter_heap (w.alloc (.cells #[] 60)) s 0
      simpa [pos] using this
    · exact World.ownsRow.alloc (w := w.alloc (.cells #[] 60)) ⟨rfl, .inr ⟨_, _, #[], rfl, Nat.le_refl _, heap_alloc_new w _, Nat.le_refl _, by unfold maxLen; simp, rfl, rfl⟩⟩ _)
  go_enter Tryd.func7, Tryd.ntmps7
  go_wp2
  go_loopw [5, 6, 7, 8, 9, 10] (fun cvv fv lv cb co tv wr => ∃ (j : Nat) (TA : Option Addr) (tc : Nat) (R : List (Value × Nat × Nat)) (LS : Nat) (CA : Option Addr) (cn cc f lbo cbo col Bc : Nat), cvv = .slice CA cn cc ∧ fv = .int .i32 (f : Int) ∧ lv = .int .i64 (lbo : Int) ∧ cb = .int .i64 (cbo : Int) ∧ co = .int .i32 (col : Int) ∧ tv = .slice TA R.length tc ∧ TL s w.heap.size (w.heap.size + 1) j w TA tc R LS CA cn cc f lbo cbo col Bc wr) (fun _ _ _ _ _ _ wr => s.size - wr.iterPos (w.heap.size + 1))
  case atStart => exact ⟨0, _, _, [], 0, none, 0, 0, 0, 0, 0, 0, _, rfl, rfl, rfl, rfl, rfl, rfl, HST.out⟩
  case round =>
    obtain ⟨j, TA, tc, R, LS, CA, cn, cc, f, lbo, cbo, col, Bc, rfl, rfl, rfl, rfl, rfl, rfl, htl⟩ := hrel
    obtain ⟨B, hB⟩ : ∃ B, B = w.heap.size := ⟨_, rfl⟩
    obtain ⟨q, hq⟩ : ∃ q, q = w.heap.size + 1 := ⟨_, rfl⟩
    rw [← hq, ← hB] at htl
    obtain ⟨P, hP⟩ : ∃ P, P = pos s j := ⟨_, rfl⟩
    have hit : wr.heap[q]? = some (.stringIter s P) := by rw [hP]; exact htl.mid.1.it
    have hbd := htl.bd
    have hln := htl.ln
    have hcb := htl.mid.2.2
    have hPs : P ≤ s.size := by rw [hP]; exact pos_le s j
    rw [← hP] at hbd hln hcb
    have HTL := Lib.hid htl
    have HP := Lib.hid hP; have HB := Lib.hid hB; have HQ := Lib.hid hq
    clear htl hP
    by_cases hlt : P < s.size
    · obtain ⟨c, wd, hd⟩ : ∃ c wd, Utf8.decode s P = (c, wd) := ⟨_, _, rfl⟩
      have hf := dec_facts s P c wd (by omega) hd
      have hps : pos s (j + 1) = P + wd := by
        have := pos_step s j c wd (by rw [← HP.out]; omega) (by rw [← HP.out]; exact hd)
        rw [this, HP.out]
      have hnx : ∀ ty, (Instr.next (.pointer (some ⟨w.heap.size + 1, 0, none⟩)) true ty).run Tryd.prog wr = .ok (.tuple #[.bool true, .int .i64 P, .int .i32 c]) (wr.iterAt q s (P + wd)) := fun ty => by
        rw [← hq, Lib.run_next_any_at wr q s P ty hit hlt, hd]
      obtain ⟨W1, hW1⟩ : ∃ W, W = wr.iterAt q s (P + wd) := ⟨_, rfl⟩
      have hmid : Mid s B q (P + wd) w (.slice TA R.length tc) R LS P CA cn cc f cbo Bc W1 := by
        rw [hW1]
        obtain ⟨h1, h2, h3⟩ := HTL.out.mid
        refine ⟨h1.iter_ _, h2.imp id (fun h => h.iter_ h1.it _), by rw [HP.out]; exact h3⟩
      rw [← hW1] at hnx
      have HME : Hid (∀ W : World, W.heap[q]? = some (.stringIter s (P + wd)) → s.size - W.iterPos (w.heap.size + 1) < s.size - wr.iterPos (w.heap.size + 1)) := Lib.hid (fun W hW => by
        rw [← HQ.out]
        simp only [World.iterPos, hW, hit]
        omega)
      have HMID := Lib.hid hmid
      have hK : ∀ k, pos s k < P + wd → pos s k ≤ P := fun k hk => by
        rw [← hps] at hk
        rw [HP.out]
        rcases Nat.lt_or_ge j k with h1 | h1
        · have := pos_mono s (show j + 1 ≤ k by omega)
          omega
        · exact pos_mono s h1
      have HK := Lib.hid hK; have HPS := Lib.hid hps; have HHD := Lib.hid hd; have HLN := Lib.hid hln
      obtain ⟨X, hX⟩ : ∃ X, X = P - LS := ⟨_, rfl⟩
      have hXL : X + LS = P := by omega
      have hwx : IntKind.i64.wrap ((P : Int) - (LS : Int)) = (X : Int) := by rw [IntKind.wrap_i64]; omega
      have hwx2 : IntKind.i32.wrap (X : Int) = (X : Int) := by rw [IntKind.wrap_i32]; omega
      have hwl2 : IntKind.i32.wrap (LS : Int) = (LS : Int) := by rw [IntKind.wrap_i32]; omega
      obtain ⟨col1, hcol1⟩ : ∃ x, x = col + 1 := ⟨_, rfl⟩
      obtain ⟨col2, hcol2⟩ : ∃ x, x = col + 2 := ⟨_, rfl⟩
      have hwc1 : IntKind.i32.wrap ((col : Int) + 1) = (col1 : Int) := by rw [IntKind.wrap_i32]; omega
      have hwc2 : IntKind.i32.wrap ((col : Int) + 2) = (col2 : Int) := by rw [IntKind.wrap_i32]; omega
      have HC1 := Lib.hid hcol1; have HC2 := Lib.hid hcol2; have HX := Lib.hid hXL
      clear hd hit hmid hW1 hK hps hln hcol1 hcol2 hX hXL hB hq
      go_upto_if 24 with fail
      go_cut [7] from 19 to 89 (fun v wx => v = .int .i64 (LS : Int) ∧ W1 = wx)
      case first =>
        rcases HLN.out with ⟨h0, h1⟩ | ⟨h0, h1⟩
        · have t0 : ((col : Int) == 0) = true := by rw [h0]; rfl
          have H1 := Lib.hid h1
          clear h0 h1
          go_wp2
          go_meet
          case rel => exact ⟨by rw [H1.out], rfl⟩
        · have t0 : ((col : Int) == 0) = false := beq_eq_false_iff_ne.2 (by omega)
          have H1 := Lib.hid h1
          clear h0 h1
          go_wp2
          go_meet
          case rel => exact ⟨by rw [H1.out], rfl⟩
      case rest =>
      obtain ⟨rfl, rfl⟩ := hcut
      obtain ⟨bb, hbb⟩ : ∃ b, b = (decide (127 < c) && CA.isNone) := ⟨_, rfl⟩
      have HBB := Lib.hid hbb
      clear hbb
      go_upto_region 12 with fail
      go_cut [31] from 19 to 89 (fun v wx => v = .bool bb ∧ W1 = wx)
      case first =>
        by_cases hc : c ≤ 127
        · have t1 : ¬ (127 < (c : Int)) := by omega
          have HB1 := Lib.hid (show bb = false by rw [HBB.out, show decide (127 < c) = false by simp; omega]; rfl)
          clear HBB hc
          go_wp2
          go_meet
          case rel => exact ⟨by rw [HB1.out], rfl⟩
        · have t1 : 127 < (c : Int) := by omega
          have HB1 := Lib.hid (show bb = CA.isNone by rw [HBB.out, show decide (127 < c) = true by simp; omega]; rfl)
          clear HBB hc
          go_wp2
          go_meet
          case rel => exact ⟨by rw [HB1.out], rfl⟩
      case rest =>
      obtain ⟨rfl, rfl⟩ := hcut
      go_upto_if 31 with fail
      go_cut [5, 6, 8] from 19 to 89 (fun cvv fv cb wx => ∃ (CA : Option Addr) (cn cc f cbo Bc : Nat), cvv = .slice CA cn cc ∧ fv = .int .i32 (f : Int) ∧ cb = .int .i64 (cbo : Int) ∧ Mid s B q (P + wd) w (.slice TA R.length tc) R LS P CA cn cc f cbo Bc wx)
      case first =>
        cases bb with
        | false =>
          go_wp2
          go_meet
          case rel => exact ⟨_, _, _, _, _, _, rfl, rfl, rfl, HMID.out⟩
        | true =>
          have hnone : CA = none := by
            have h := HBB.out
            cases CA with
            | none => rfl
            | some a => simp at h
          rcases HMID.out.2.1 with ⟨rfl, rfl, rfl, rfl, rfl⟩ | ⟨xs, g, cap, hcv, _⟩
          · have hfr := HMID.out.1.fresh
            have HFR := Lib.hid hfr
            clear hfr hnone
            go_wp2
            go_meet
            case rel => exact ⟨_, _, _, _, _, _, rfl, rfl, rfl, HFR.out.1, .inr (HFR.out.2 X), by have := HX.out; omega⟩
          · injection hcv with e1
            rw [hnone] at e1
            cases e1
      case rest =>
      clear HMID hcb
      obtain ⟨CA, cn, cc, f, cbo, Bc, rfl, rfl, rfl, hmid⟩ := hcut
      have HMID := Lib.hid hmid
      have hcb := hmid.2.2
      clear hmid
      obtain ⟨mm, hmm⟩ : ∃ m, m = !CA.isNone := ⟨_, rfl⟩
      have hne : ∀ W : World, (binOp .neq 58 (.slice CA cn cc) (.slice none 0 0)).run Tryd.prog W = .ok (.bool mm) W := fun W => by rw [hmm]; exact run_neq_slice_nil_any W 58 21 CA cn cc 0 0 Tryd.underlying58
      have HMM := Lib.hid hmm
      clear hmm
      go_upto_if 39 with fail
      go_cut [5, 8, 13] from 19 to 89 (fun cvv cb x wx => ∃ (CA : Option Addr) (cn cc cbo : Nat), cvv = .slice CA cn cc ∧ cb = .int .i64 (cbo : Int) ∧ Mid1 s B q (P + wd) w (.slice TA R.length tc) R LS (P + 1) CA cn cc f cbo Bc wx)
      case first =>
        rcases HMID.out.2.1 with ⟨rfl, rfl, rfl, rfl, rfl⟩ | hcs
        · obtain rfl : mm = false := HMM.out
          go_wp2
          go_meet
          case rel => exact ⟨none, 0, 0, 0, rfl, rfl, HMID.out.1, .inl ⟨rfl, rfl, rfl, rfl, rfl⟩⟩
        · have HCS := Lib.hid hcs
          obtain ⟨xs, g, cap, hcv, _⟩ := hcs
          injection hcv with e1 e2 e3
          subst e1; subst e3
          obtain rfl : mm = true := HMM.out
          have H2 := Lib.hid e2
          clear e2
          have hcX : cbo ≤ X + 1 := by have := HX.out; omega
          have hX20 : X ≤ 1048576 := by have := HX.out; omega
          go_wp2
          go_loopw [5, 8] (fun cvv cb wr => ∃ (g cn cc cbo : Nat), cvv = .slice (some ⟨g, 0, none⟩) cn cc ∧ cb = .int .i64 (cbo : Int) ∧ TM s B q (P + wd) w wr (.slice TA R.length tc) R LS Bc ∧ CS wr Bc f cbo (.slice (some ⟨g, 0, none⟩) cn cc) ∧ cbo ≤ X + 1) (fun _ cb _ => X + 1 - (intOf cb).toNat)
          case atStart => exact ⟨g, _, _, cbo, rfl, rfl, HMID.out.1, HCS.out, hcX⟩
          case round =>
            obtain ⟨g1, n1, cc1, cb1, rfl, rfl, htm, hcs1, hle⟩ := hrel
            by_cases hl1 : cb1 ≤ X
            · obtain ⟨ys, g2, cap2, hcv2, hown2, hys, hfl⟩ := hcs1
              injection hcv2 with e1 e2 e3
              injection e1 with e1
              injection e1 with e1
              subst e1; subst e3
              obtain ⟨n2, hn2⟩ : ∃ n2, n2 = ys.length := ⟨_, rfl⟩
              rw [← hn2] at hown2 hfl
              rw [e2, ← hn2] at hown2 ⊢
              have hn20 : n2 ≤ 1048577 := by omega
              have HO := Lib.hid hown2; have HY := Lib.hid hys; have HFL := Lib.hid hfl; have HTM := Lib.hid htm; have HN2 := Lib.hid hn2
              have hlo := htm.lo.2.2
              have hl1' : (cb1 : Int) ≤ (X : Int) := by omega
              obtain ⟨cb2, hcb2⟩ : ∃ x, x = cb1 + 1 := ⟨_, rfl⟩
              have hwc : IntKind.i64.wrap ((cb1 : Int) + 1) = (cb2 : Int) := by rw [IntKind.wrap_i64]; omega
              have HCB2 := Lib.hid hcb2
              clear hown2 hys hfl htm hn2 e2 hcb2
              go_wp2_with (at_builtin; refine wpList_append_own_src _ rfl (.tmp 48) (.tmp 50) 58 58 rfl Bc 21 i0 (.int .i32 0) 1 4 Tryd.underlying58 hi0 hz0 hz1 hz2 rfl _ _ _ rfl (HO.out.alloc _) (.slice (some ⟨wr.heap.size, 0, none⟩) 1 1) 1 [.int .i32 (col : Int)] rfl (srcI wr wr.heap.size (col : Int) rfl) (by unfold maxLen; omega) (by omega) (by simp; omega) ?_)
              intro v' w2 hown' hgrow _
              have hcol := HTM.out.col_ ⟨_, _, rfl⟩ HN2.out.symm HO.out HY.out HFL.out (col : Int) _ w2 hgrow hown'
              obtain ⟨g3, c3, rfl⟩ : ∃ g3 c3, v' = .slice (some ⟨g3, 0, none⟩) (n2 + 1) c3 := by
                rcases hown'.2 with ⟨_, h0⟩ | ⟨g, cap, cur, hv, _⟩
                · omega
                · exact ⟨g, cap, hv⟩
              have HCOL := Lib.hid hcol
              clear hown' hgrow hcol
              go_wp2
              go_roundw
              case rel => exact ⟨_, _, _, cb2, rfl, rfl, HCOL.out.1, by rw [HCB2.out]; exact HCOL.out.2, by have := HCB2.out; omega⟩
              case measure => have := HCB2.out; simp [intOf]; omega
            · have hl1' : ¬ ((cb1 : Int) ≤ (X : Int)) := by omega
              have hcbe : LS + cb1 = P + 1 := by have := HX.out; omega
              have HM1 := Lib.hid (show Mid1 s B q (P + wd) w (.slice TA R.length tc) R LS (P + 1) (some ⟨g1, 0, none⟩) n1 cc1 f cb1 Bc wr from ⟨htm, .inr ⟨hcs1, hcbe⟩⟩)
              clear htm hcs1 hcbe hle hl1
              go_wp2
              go_meet
              case rel => exact ⟨_, _, _, _, rfl, rfl, HM1.out⟩
      case rest =>
      clear HMID hcb
      obtain ⟨CA, cn, cc, cbo, rfl, rfl, hmid⟩ := hcut
      have HMID := Lib.hid hmid
      clear hmid
      have HTB := Lib.hid HMID.out.1.tb
      have hBW : w.heap.size ≤ wc.heap.size := by have := HMID.out.1.lo; rw [← HB.out]; omega
      have HLO := Lib.hid (show B ≤ wc.heap.size by rw [HB.out]; exact hBW)
      by_cases ht : isTerm s P c
      · have HROW := Lib.hid (fun (o : Obj) (w2 : World) (v' : Value) (hg : (wc.alloc o).grownBy w2 (Value.ownBlock (.slice TA R.length tc))) (ho : w2.ownsRow B 60 3 v' (R.length + 1) (rowsC R ++ rowC (.slice CA cn cc, f, LS))) => HMID.out.row_ (nx := P + wd) (by omega) (fun k _ k2 => by have := HK.out k k2; omega) o w2 hg ho)
        by_cases h13 : c = 13
        · have hnl : ¬ (P + 1 < s.size ∧ byteAt s (P + 1) = 10) := by
            rcases ht with h | h | h | h
            · omega
            · omega
            · omega
            · exact h.2
          have h13' : (c : Int) = 13 := by omega
          obtain ⟨P1, hP1⟩ : ∃ P1, P1 = P + 1 := ⟨_, rfl⟩
          have hw1 : IntKind.i64.wrap ((P : Int) + 1) = (P1 : Int) := by rw [IntKind.wrap_i64]; omega
          rw [← hP1] at hnl
          by_cases h1 : P1 < s.size
          · obtain ⟨b1, hb1⟩ : ∃ b, b = byteAt s P1 := ⟨_, rfl⟩
            have hg := get_nat s P1 h1
            rw [← hb1] at hg hnl
            have hb10 : ((b1 : Int) == 10) = false := beq_eq_false_iff_ne.2 (fun e => hnl ⟨h1, by omega⟩)
            have g1 : (P1 : Int) < (s.size : Int) := by omega
            clear hb1 hnl ht h13 hP1
            go_wp2_with (at_builtin; refine wpList_append_own_src _ rfl (.tmp 82) (.tmp 88) 25 25 rfl B 60 i1 zLot 3 32 Tryd.underlying25 hi1 hy0 hy1 hy2 rfl _ _ _ rfl (HTB.out.alloc _) (.slice (some ⟨wc.heap.size, 0, none⟩) 1 1) 1 [.slice CA cn cc, .int .i32 (f : Int), .int .i32 (LS : Int)] rfl (srcL wc wc.heap.size CA cn cc (f : Int) (LS : Int) rfl) (by unfold maxLen; omega) (by omega) (by have := HLO.out; simp; omega) ?_)
            intro v' w2 hown' hgrow _
            have hrw := HROW.out _ w2 v' hgrow hown'
            obtain ⟨A2, c2, rfl⟩ := own_slice hown'
            have HR := Lib.hid hrw
            clear hown' hgrow hrw
            go_wp2
            go_roundw
            case rel =>
              refine ⟨j + 1, A2, c2, R ++ [(.slice CA cn cc, f, LS)], P + wd, none, 0, 0, 0, LS, 0, 0, w2.heap.size, rfl, rfl, rfl, rfl, rfl, by simp, ?_⟩
              have e := HPS.out
              rw [← HQ.out, ← HB.out]
              refine ⟨⟨?_, .inl ⟨rfl, rfl, rfl, rfl, rfl⟩, by rw [e]; exact Nat.le_refl _⟩, .inl ⟨rfl, e⟩, by rw [e]; simp; omega⟩
              rw [e]
              have h := HR.out
              simp only [List.length_append, List.length_singleton] at h ⊢
              exact h
            case measure => exact HME.out _ HR.out.it
          · have g1 : ¬ ((P1 : Int) < (s.size : Int)) := by omega
            clear hnl ht h13 h1 hP1
            go_wp2_with (at_builtin; refine wpList_append_own_src _ rfl (.tmp 82) (.tmp 88) 25 25 rfl B 60 i1 zLot 3 32 Tryd.underlying25 hi1 hy0 hy1 hy2 rfl _ _ _ rfl (HTB.out.alloc _) (.slice (some ⟨wc.heap.size, 0, none⟩) 1 1) 1 [.slice CA cn cc, .int .i32 (f : Int), .int .i32 (LS : Int)] rfl (srcL wc wc.heap.size CA cn cc (f : Int) (LS : Int) rfl) (by unfold maxLen; omega) (by omega) (by have := HLO.out; simp; omega) ?_)
            intro v' w2 hown' hgrow _
            have hrw := HROW.out _ w2 v' hgrow hown'
            obtain ⟨A2, c2, rfl⟩ := own_slice hown'
            have HR := Lib.hid hrw
            clear hown' hgrow hrw
            go_wp2
            go_roundw
            case rel =>
              refine ⟨j + 1, A2, c2, R ++ [(.slice CA cn cc, f, LS)], P + wd, none, 0, 0, 0, LS, 0, 0, w2.heap.size, rfl, rfl, rfl, rfl, rfl, by simp, ?_⟩
              have e := HPS.out
              rw [← HQ.out, ← HB.out]
              refine ⟨⟨?_, .inl ⟨rfl, rfl, rfl, rfl, rfl⟩, by rw [e]; exact Nat.le_refl _⟩, .inl ⟨rfl, e⟩, by rw [e]; simp; omega⟩
              rw [e]
              have h := HR.out
              simp only [List.length_append, List.length_singleton] at h ⊢
              exact h
            case measure => exact HME.out _ HR.out.it
        · have h4 : c = 10 ∨ c = 8232 ∨ c = 8233 := by
            rcases ht with h | h | h | h
            · exact .inl h
            · exact .inr (.inl h)
            · exact .inr (.inr h)
            · exact absurd h.1 h13
          clear ht h13
          rcases h4 with h4 | h4 | h4
          · have h4' : (c : Int) = 10 := by omega
            clear h4
            go_wp2_with (at_builtin; refine wpList_append_own_src _ rfl (.tmp 82) (.tmp 88) 25 25 rfl B 60 i1 zLot 3 32 Tryd.underlying25 hi1 hy0 hy1 hy2 rfl _ _ _ rfl (HTB.out.alloc _) (.slice (some ⟨wc.heap.size, 0, none⟩) 1 1) 1 [.slice CA cn cc, .int .i32 (f : Int), .int .i32 (LS : Int)] rfl (srcL wc wc.heap.size CA cn cc (f : Int) (LS : Int) rfl) (by unfold maxLen; omega) (by omega) (by have := HLO.out; simp; omega) ?_)
            intro v' w2 hown' hgrow _
            have hrw := HROW.out _ w2 v' hgrow hown'
            obtain ⟨A2, c2, rfl⟩ := own_slice hown'
            have HR := Lib.hid hrw
            clear hown' hgrow hrw
            go_wp2
            go_roundw
            case rel =>
              refine ⟨j + 1, A2, c2, R ++ [(.slice CA cn cc, f, LS)], P + wd, none, 0, 0, 0, LS, 0, 0, w2.heap.size, rfl, rfl, rfl, rfl, rfl, by simp, ?_⟩
              have e := HPS.out
              rw [← HQ.out, ← HB.out]
              refine ⟨⟨?_, .inl ⟨rfl, rfl, rfl, rfl, rfl⟩, by rw [e]; exact Nat.le_refl _⟩, .inl ⟨rfl, e⟩, by rw [e]; simp; omega⟩
              rw [e]
              have h := HR.out
              simp only [List.length_append, List.length_singleton] at h ⊢
              exact h
            case measure => exact HME.out _ HR.out.it
          · have h4' : (c : Int) = 8232 := by omega
            clear h4
            go_wp2_with (at_builtin; refine wpList_append_own_src _ rfl (.tmp 82) (.tmp 88) 25 25 rfl B 60 i1 zLot 3 32 Tryd.underlying25 hi1 hy0 hy1 hy2 rfl _ _ _ rfl (HTB.out.alloc _) (.slice (some ⟨wc.heap.size, 0, none⟩) 1 1) 1 [.slice CA cn cc, .int .i32 (f : Int), .int .i32 (LS : Int)] rfl (srcL wc wc.heap.size CA cn cc (f : Int) (LS : Int) rfl) (by unfold maxLen; omega) (by omega) (by have := HLO.out; simp; omega) ?_)
            intro v' w2 hown' hgrow _
            have hrw := HROW.out _ w2 v' hgrow hown'
            obtain ⟨A2, c2, rfl⟩ := own_slice hown'
            have HR := Lib.hid hrw
            clear hown' hgrow hrw
            go_wp2
            go_roundw
            case rel =>
              refine ⟨j + 1, A2, c2, R ++ [(.slice CA cn cc, f, LS)], P + wd, none, 0, 0, 0, LS, 0, 0, w2.heap.size, rfl, rfl, rfl, rfl, rfl, by simp, ?_⟩
              have e := HPS.out
              rw [← HQ.out, ← HB.out]
              refine ⟨⟨?_, .inl ⟨rfl, rfl, rfl, rfl, rfl⟩, by rw [e]; exact Nat.le_refl _⟩, .inl ⟨rfl, e⟩, by rw [e]; simp; omega⟩
              rw [e]
              have h := HR.out
              simp only [List.length_append, List.length_singleton] at h ⊢
              exact h
            case measure => exact HME.out _ HR.out.it
          · have h4' : (c : Int) = 8233 := by omega
            clear h4
            go_wp2_with (at_builtin; refine wpList_append_own_src _ rfl (.tmp 82) (.tmp 88) 25 25 rfl B 60 i1 zLot 3 32 Tryd.underlying25 hi1 hy0 hy1 hy2 rfl _ _ _ rfl (HTB.out.alloc _) (.slice (some ⟨wc.heap.size, 0, none⟩) 1 1) 1 [.slice CA cn cc, .int .i32 (f : Int), .int .i32 (LS : Int)] rfl (srcL wc wc.heap.size CA cn cc (f : Int) (LS : Int) rfl) (by unfold maxLen; omega) (by omega) (by have := HLO.out; simp; omega) ?_)
            intro v' w2 hown' hgrow _
            have hrw := HROW.out _ w2 v' hgrow hown'
            obtain ⟨A2, c2, rfl⟩ := own_slice hown'
            have HR := Lib.hid hrw
            clear hown' hgrow hrw
            go_wp2
            go_roundw
            case rel =>
              refine ⟨j + 1, A2, c2, R ++ [(.slice CA cn cc, f, LS)], P + wd, none, 0, 0, 0, LS, 0, 0, w2.heap.size, rfl, rfl, rfl, rfl, rfl, by simp, ?_⟩
              have e := HPS.out
              rw [← HQ.out, ← HB.out]
              refine ⟨⟨?_, .inl ⟨rfl, rfl, rfl, rfl, rfl⟩, by rw [e]; exact Nat.le_refl _⟩, .inl ⟨rfl, e⟩, by rw [e]; simp; omega⟩
              rw [e]
              have h := HR.out
              simp only [List.length_append, List.length_singleton] at h ⊢
              exact h
            case measure => exact HME.out _ HR.out.it
      · have HNX : Hid (∀ x : Nat, 1 ≤ x → x ≤ col + 2 → (x = col + 1 ∨ x = col + 2) → TL s B q (j + 1) w TA tc R LS CA cn cc f LS cbo x Bc wc) := Lib.hid (fun x h1 h2 _ => by
          obtain ⟨m1, m2⟩ := HMID.out
          have e := HPS.out
          refine ⟨⟨by rw [e]; exact m1, m2.imp id (fun h => h.1), ?_⟩, .inr ⟨h1, rfl⟩, ?_⟩
          · rw [e]
            rcases m2 with ⟨_, _, _, _, h0⟩ | ⟨_, h0⟩ <;> omega
          · rw [e]; omega)
        by_cases h13 : c = 13
        · have hnl : P + 1 < s.size ∧ byteAt s (P + 1) = 10 := Classical.byContradiction fun hc => ht (.inr (.inr (.inr ⟨h13, hc⟩)))
          have h13' : (c : Int) = 13 := by omega
          obtain ⟨P1, hP1⟩ : ∃ P1, P1 = P + 1 := ⟨_, rfl⟩
          have hw1 : IntKind.i64.wrap ((P : Int) + 1) = (P1 : Int) := by rw [IntKind.wrap_i64]; omega
          rw [← hP1] at hnl
          obtain ⟨h1, h10⟩ := hnl
          have hg := get_nat s P1 h1
          rw [h10] at hg
          have hg' : (s[P1].toNat : Int) = 10 := hg
          have g1 : (P1 : Int) < (s.size : Int) := by omega
          have HN1 := Lib.hid (HNX.out col1 (by have := HC1.out; omega) (by have := HC1.out; omega) (.inl HC1.out))
          clear h10 ht h13 hP1 hg
          go_wp2
          go_roundw
          case rel => exact ⟨j + 1, TA, tc, R, LS, CA, cn, cc, f, LS, cbo, col1, Bc, rfl, rfl, rfl, rfl, rfl, rfl, by rw [← HQ.out, ← HB.out]; exact HN1.out⟩
          case measure => exact HME.out _ (by rw [← HPS.out]; exact HN1.out.mid.1.it)
        · have t13 : ((c : Int) == 13) = false := beq_eq_false_iff_ne.2 (by omega)
          have t10 : ((c : Int) == 10) = false := beq_eq_false_iff_ne.2 (fun e => ht (.inl (by omega)))
          have t28 : ((c : Int) == 8232) = false := beq_eq_false_iff_ne.2 (fun e => ht (.inr (.inl (by omega))))
          have t29 : ((c : Int) == 8233) = false := beq_eq_false_iff_ne.2 (fun e => ht (.inr (.inr (.inl (by omega)))))
          by_cases hu : c ≤ 65535
          · have HN1 := Lib.hid (HNX.out col1 (by have := HC1.out; omega) (by have := HC1.out; omega) (.inl HC1.out))
            have hu' : (c : Int) ≤ 65535 := by omega
            clear ht h13 hu
            go_wp2
            go_roundw
            case rel => exact ⟨j + 1, TA, tc, R, LS, CA, cn, cc, f, LS, cbo, col1, Bc, rfl, rfl, rfl, rfl, rfl, rfl, by rw [← HQ.out, ← HB.out]; exact HN1.out⟩
            case measure => exact HME.out _ (by rw [← HPS.out]; exact HN1.out.mid.1.it)
          · have HN1 := Lib.hid (HNX.out col2 (by have := HC2.out; omega) (by have := HC2.out; omega) (.inr HC2.out))
            have hu' : ¬ (c : Int) ≤ 65535 := by omega
            clear ht h13 hu
            go_wp2
            go_roundw
            case rel => exact ⟨j + 1, TA, tc, R, LS, CA, cn, cc, f, LS, cbo, col2, Bc, rfl, rfl, rfl, rfl, rfl, rfl, by rw [← HQ.out, ← HB.out]; exact HN1.out⟩
            case measure => exact HME.out _ (by rw [← HPS.out]; exact HN1.out.mid.1.it)
    · have hnx : ∀ ty, (Instr.next (.pointer (some ⟨w.heap.size + 1, 0, none⟩)) true ty).run Tryd.prog wr = .ok (.tuple #[.bool false]) wr := fun ty => by rw [← hq]; exact Lib.run_next_end_at wr q s P ty hit hlt
      have hPn : P = s.size := by omega
      have hmid : Mid s B q P w (.slice TA R.length tc) R LS P CA cn cc f cbo Bc wr := by rw [HP.out]; exact HTL.out.mid
      have HMID := Lib.hid hmid; have HLN := Lib.hid hln; have HPN := Lib.hid hPn
      obtain ⟨X, hX⟩ : ∃ X, X = P - LS := ⟨_, rfl⟩
      have hXL : X + LS = P := by omega
      have hwx : IntKind.i64.wrap ((s.size : Int) - (LS : Int)) = (X : Int) := by rw [IntKind.wrap_i64]; omega
      have hwl2 : IntKind.i32.wrap (LS : Int) = (LS : Int) := by rw [IntKind.wrap_i32]; omega
      have hP20 : P ≤ 1048576 := by omega
      have HX := Lib.hid hXL
      clear hit hmid hln hPn hlt hX hXL hB hq
      go_upto_if 91 with fail
      go_cut [7] from 90 to 117 (fun v wx => v = .int .i64 (LS : Int) ∧ wr = wx)
      case first =>
        rcases HLN.out with ⟨h0, h1⟩ | ⟨h0, h1⟩
        · have t0 : ((col : Int) == 0) = true := by rw [h0]; rfl
          have H1 := Lib.hid (show LS = s.size by rw [← h1, HPN.out])
          clear h0 h1
          go_wp2
          go_meet
          case rel => exact ⟨by rw [H1.out], rfl⟩
        · have t0 : ((col : Int) == 0) = false := beq_eq_false_iff_ne.2 (by omega)
          have H1 := Lib.hid h1
          clear h0 h1
          go_wp2
          go_meet
          case rel => exact ⟨by rw [H1.out], rfl⟩
      case rest =>
      obtain ⟨rfl, rfl⟩ := hcut
      obtain ⟨mm, hmm⟩ : ∃ m, m = !CA.isNone := ⟨_, rfl⟩
      have hne : ∀ W : World, (binOp .neq 58 (.slice CA cn cc) (.slice none 0 0)).run Tryd.prog W = .ok (.bool mm) W := fun W => by rw [hmm]; exact run_neq_slice_nil_any W 58 21 CA cn cc 0 0 Tryd.underlying58
      have HMM := Lib.hid hmm
      clear hmm
      go_upto_if 95 with fail
      go_cut [5, 8, 14] from 90 to 117 (fun cvv cb x wx => ∃ (CA : Option Addr) (cn cc cbo : Nat), cvv = .slice CA cn cc ∧ cb = .int .i64 (cbo : Int) ∧ Mid1 s B q P w (.slice TA R.length tc) R LS (P + 1) CA cn cc f cbo Bc wx)
      case first =>
        rcases HMID.out.2.1 with ⟨rfl, rfl, rfl, rfl, rfl⟩ | hcs
        · obtain rfl : mm = false := HMM.out
          go_wp2
          go_meet
          case rel => exact ⟨none, 0, 0, 0, rfl, rfl, HMID.out.1, .inl ⟨rfl, rfl, rfl, rfl, rfl⟩⟩
        · have HCS := Lib.hid hcs
          obtain ⟨xs, g, cap, hcv, _⟩ := hcs
          injection hcv with e1 e2 e3
          subst e1; subst e3
          obtain rfl : mm = true := HMM.out
          have H2 := Lib.hid e2
          clear e2
          have hcX : cbo ≤ X + 1 := by have := HX.out; omega
          have hX20 : X ≤ 1048576 := by have := HX.out; omega
          go_wp2
          go_loopw [5, 8] (fun cvv cb wr => ∃ (g cn cc cbo : Nat), cvv = .slice (some ⟨g, 0, none⟩) cn cc ∧ cb = .int .i64 (cbo : Int) ∧ TM s B q P w wr (.slice TA R.length tc) R LS Bc ∧ CS wr Bc f cbo (.slice (some ⟨g, 0, none⟩) cn cc) ∧ cbo ≤ X + 1) (fun _ cb _ => X + 1 - (intOf cb).toNat)
          case atStart => exact ⟨g, _, _, cbo, rfl, rfl, HMID.out.1, HCS.out, hcX⟩
          case round =>
            obtain ⟨g1, n1, cc1, cb1, rfl, rfl, htm, hcs1, hle⟩ := hrel
            by_cases hl1 : cb1 ≤ X
            · obtain ⟨ys, g2, cap2, hcv2, hown2, hys, hfl⟩ := hcs1
              injection hcv2 with e1 e2 e3
              injection e1 with e1
              injection e1 with e1
              subst e1; subst e3
              obtain ⟨n2, hn2⟩ : ∃ n2, n2 = ys.length := ⟨_, rfl⟩
              rw [← hn2] at hown2 hfl
              rw [e2, ← hn2] at hown2 ⊢
              have hn20 : n2 ≤ 1048577 := by omega
              have HO := Lib.hid hown2; have HY := Lib.hid hys; have HFL := Lib.hid hfl; have HTM := Lib.hid htm; have HN2 := Lib.hid hn2
              have hlo := htm.lo.2.2
              have hl1' : (cb1 : Int) ≤ (X : Int) := by omega
              obtain ⟨cb2, hcb2⟩ : ∃ x, x = cb1 + 1 := ⟨_, rfl⟩
              have hwc : IntKind.i64.wrap ((cb1 : Int) + 1) = (cb2 : Int) := by rw [IntKind.wrap_i64]; omega
              have HCB2 := Lib.hid hcb2
              clear hown2 hys hfl htm hn2 e2 hcb2
              go_wp2_with (at_builtin; refine wpList_append_own_src _ rfl (.tmp 105) (.tmp 107) 58 58 rfl Bc 21 i0 (.int .i32 0) 1 4 Tryd.underlying58 hi0 hz0 hz1 hz2 rfl _ _ _ rfl (HO.out.alloc _) (.slice (some ⟨wr.heap.size, 0, none⟩) 1 1) 1 [.int .i32 (col : Int)] rfl (srcI wr wr.heap.size (col : Int) rfl) (by unfold maxLen; omega) (by omega) (by simp; omega) ?_)
              intro v' w2 hown' hgrow _
              have hcol := HTM.out.col_ ⟨_, _, rfl⟩ HN2.out.symm HO.out HY.out HFL.out (col : Int) _ w2 hgrow hown'
              obtain ⟨g3, c3, rfl⟩ : ∃ g3 c3, v' = .slice (some ⟨g3, 0, none⟩) (n2 + 1) c3 := by
                rcases hown'.2 with ⟨_, h0⟩ | ⟨g, cap, cur, hv, _⟩
                · omega
                · exact ⟨g, cap, hv⟩
              have HCOL := Lib.hid hcol
              clear hown' hgrow hcol
              go_wp2
              go_roundw
              case rel => exact ⟨_, _, _, cb2, rfl, rfl, HCOL.out.1, by rw [HCB2.out]; exact HCOL.out.2, by have := HCB2.out; omega⟩
              case measure => have := HCB2.out; simp [intOf]; omega
            · have hl1' : ¬ ((cb1 : Int) ≤ (X : Int)) := by omega
              have hcbe : LS + cb1 = P + 1 := by have := HX.out; omega
              have HM1 := Lib.hid (show Mid1 s B q P w (.slice TA R.length tc) R LS (P + 1) (some ⟨g1, 0, none⟩) n1 cc1 f cb1 Bc wr from ⟨htm, .inr ⟨hcs1, hcbe⟩⟩)
              clear htm hcs1 hcbe hle hl1
              go_wp2
              go_meet
              case rel => exact ⟨_, _, _, _, rfl, rfl, HM1.out⟩
      case rest =>
      clear HMID hcb
      obtain ⟨CA, cn, cc, cbo, rfl, rfl, hmid⟩ := hcut
      have HMID := Lib.hid hmid
      clear hmid
      have HTB := Lib.hid HMID.out.1.tb
      have hBW : w.heap.size ≤ wc.heap.size := by have := HMID.out.1.lo; rw [← HB.out]; omega
      have HLO := Lib.hid (show B ≤ wc.heap.size by rw [HB.out]; exact hBW)
      go_wp2_with (at_builtin; refine wpList_append_own_src _ rfl (.tmp 109) (.tmp 115) 25 25 rfl B 60 i1 zLot 3 32 Tryd.underlying25 hi1 hy0 hy1 hy2 rfl _ _ _ rfl (HTB.out.alloc _) (.slice (some ⟨wc.heap.size, 0, none⟩) 1 1) 1 [.slice CA cn cc, .int .i32 (f : Int), .int .i32 (LS : Int)] rfl (srcL wc wc.heap.size CA cn cc (f : Int) (LS : Int) rfl) (by unfold maxLen; omega) (by omega) (by have := HLO.out; simp; omega) ?_)
      intro v' w2 hown' hgrow _
      have hrw := HMID.out.row_ (nx := s.size + 1) (by have := HPN.out; omega) (fun k _ k2 => by have := HPN.out; omega) _ w2 hgrow hown'
      obtain ⟨A2, c2, rfl⟩ := own_slice hown'
      have HR := Lib.hid hrw
      clear hown' hgrow hrw
      go_wp2
      go_ret
      refine ⟨A2, c2, R ++ [(.slice CA cn cc, f, LS)], by simp, by simp, by simp; have := HPN.out; omega, ?_, HR.out.rows, ?_⟩
      · rw [← HB.out]
        have h := HR.out.tb
        simp only [List.length_append, List.length_singleton] at h ⊢
        exact h
      · rw [← HB.out]; exact HR.out.bel
end Go.Proofs.YtgdcpladehcegaaDoor
