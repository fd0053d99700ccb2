/-
  PROVED: for every output text, every line limit, every text and flags, with the quote 34 or 39, the law FnPrintQuotedWithQuoteWrappedRoundTrip returns true. Conditions: none beyond the form's own reach; told and tied (the tables of unicode and unicode/utf8 as they are laid).
-/
import Derived.Test.YtachkgmngahpoaaFmtRows
import Derived.Test.YtachkgmngahpoaaFmtCards
import Derived.Test.YtachkgmngahpoaaFmtTie
import Derived.WalkKit
import Derived.ProofKit
import Derived.Outline
import Derived.LoopTactic
import Derived.WalkSpells
import Derived.Deep.Light
import Derived.Test.YtachkgmngahpoaaFmtFta
import Derived.Test.YtachkgmngahpoaaFmtQh3
import Derived.Test.YtachkgmngahpoaaFmtRdb
import Derived.Test.YtachkgmngahpoaaFmtCst
import Derived.Test.YtachkgmngahpoaaFmtPwe
import Derived.Test.YtachkgmngahpoaaFmtPv2
import Derived.Test.YtachkgmngahpoaaFmtPv1
import Derived.OpenShut
import Derived.ShutString
import Derived.ChangeOld
import Derived.Below
import Derived.Carry
import Derived.Stop.JoinedAt
import Derived.Stop.Texts
import Derived.Stop.JoinedTold
import Derived.SevenToldRow
import Derived.Handy
import Derived.Lay
import Derived.SevenTiedAt
namespace Go.Proofs.YtachkgmngahpoaaFmt.fnPrintQuotedWithQuoteWrappedRoundTrip
open Go.ChangeShapes Go.WideShapes Go.ChangeAt Go.RowKit
open Go.ChangeMaps (open_string shut_string)
open Go.Extern.Stop Go.Stop Go.Extern
set_option linter.unusedVariables false
set_option linter.unusedSimpArgs false

theorem own : ownKnob Tryf.prog.godebug = none := by kernel_rfl
theorem laidOut : laidOutB Tryf.pinned.checked.prog = true := by kernel_rfl

/-- What the walk is told of a slice of integers that came in. -/
def IsRow (k : IntKind) (w : World) (a : Option Addr) (len cap : Nat) (zs : List Int) : Prop :=
  (a = none ∧ len = 0 ∧ cap = 0 ∧ zs = []) ∨
  ∃ x, a = some x ∧ len ≤ cap ∧ cap ≤ maxLen ∧ zs.length = cap ∧ (∀ i, i < zs.length → w.cell? (x.add i) = some (.int k (zs.getD i 0))) ∧ ∀ n ∈ zs, (Lit.int k n).wf = true
theorem isrow_reads {k : IntKind} {w : World} {a : Option Addr} {len cap : Nat} {zs : List Int} (h : IsRow k w a len cap zs) : Reads w w.heap.size 1 a len ((zs.take len).map (Value.int k)) ∧ (a = none → len = 0) ∧ len ≤ maxLen := by
  rcases h with ⟨rfl, rfl, rfl, rfl⟩ | ⟨x, rfl, hl, hm, hz, hc, _⟩
  · exact ⟨Reads.none_, fun _ => rfl, by unfold maxLen; omega⟩
  · refine ⟨⟨by simp; omega, fun hn => ⟨x, rfl, ?_, fun j u hu => ?_⟩⟩, (fun h => by cases h), by omega⟩
    · have := hc 0 (by omega)
      exact World.block_lt_of_cell? w x (by simpa [Addr.add] using this)
    · have hj : j < len := by
        have := (List.getElem?_eq_some_iff.1 hu).1
        simp at this; omega
      rw [hc j (by omega)]
      rw [List.getElem?_map, List.getElem?_take_of_lt hj, List.getElem?_eq_getElem (by omega)] at hu
      rw [List.getD_eq_getElem?_getD, List.getElem?_eq_getElem (by omega)]
      exact hu



set_option maxRecDepth 100000 in
theorem zb (A : Option Addr) (n c : Nat) (lim q fl : Int) (s : ByteArray) (w : World) (hn : n ≤ maxLen) (hm : s.size ≤ maxLen) :
    Calls Tryf.prog 11 #[.slice A n c, .int .i64 lim, .string s, .int .u8 q, .int .u8 fl] w fun e w' => e = .returned (.bool (decide (n + s.size ≤ 1048576))) ∧ w = w' := by
  unfold maxLen at hn hm
  by_cases h1 : 1048576 < n
  · go_enter Tryf.func11, Tryf.ntmps11
    go_wp2
    go_ret
    exact ⟨ret_bool (by symm; simp; omega), rfl⟩
  · by_cases h2 : n + s.size ≤ 1048576
    · go_enter Tryf.func11, Tryf.ntmps11
      go_wp2
      go_ret
      exact ⟨ret_bool (by symm; simpa using h2), rfl⟩
    · by_cases h3 : 1048576 < s.size
      · go_enter Tryf.func11, Tryf.ntmps11
        go_wp2
        go_ret
        exact ⟨ret_bool (by symm; simp; omega), rfl⟩
      · go_enter Tryf.func11, Tryf.ntmps11
        go_wp2
        go_ret
        exact ⟨ret_bool (by symm; simp; omega), rfl⟩
theorem tabs_keep {w w' : World} (hT : Lib.Utf8Tabs 0 1 w) (hF : FoldTabs w) (hb : Below w.heap.size w w') : Lib.Utf8Tabs 0 1 w' ∧ FoldTabs w' := by
  refine ⟨?_, hF.below hb⟩
  have key : ∀ p u, w.cell? p = some u → w'.cell? p = some u := fun p u hp => (hb.cell (World.block_lt_of_cell? _ _ hp)).trans hp
  exact ⟨fun c hc => key _ _ (hT.1 c hc), fun i hi => ⟨key _ _ (hT.2 i hi).1, key _ _ (hT.2 i hi).2⟩⟩
theorem q_ints (X : List Int) (q : Nat) (t : List UInt8) : ∃ Y : List Int, X.map (Value.int .u8) ++ qAll q t = Y.map (Value.int .u8) := by
  refine ⟨X ++ ((if q = 0 then [] else [(q : Int)]) ++ (outW noW q t t.length).map (fun b => (b.toNat : Int)) ++ (if q = 0 then [] else [(q : Int)])), ?_⟩
  unfold qAll qCells cells
  by_cases h : q = 0
  · simp [h]
  · simp [h]
theorem qAll_le (q : Nat) (t : List UInt8) : (qAll q t).length ≤ 4 * t.length + 2 := by
  unfold qAll qCells
  have := outW_le noW q t t.length
  simp only [List.length_append, cells_len]
  split <;> simp <;> omega

theorem row_split (X : List Int) (qb : UInt8) (wr : Nat → Bool) (t : List UInt8) (hq : qb.toNat ≠ 0) : X.map (Value.int .u8) ++ (qCells qb.toNat ++ cells (outW wr qb.toNat t t.length) ++ qCells qb.toNat) = (X ++ (quoted wr qb t).map (fun b => (b.toNat : Int))).map (Value.int .u8) := by
  unfold qCells quoted cells
  rw [if_neg hq]
  simp
theorem getD_left (X : List Int) (Q : List UInt8) (i : Nat) (h : i < X.length) : (X ++ Q.map (fun b => (b.toNat : Int))).getD i 0 = X.getD i 0 := by
  rw [List.getD_eq_getElem?_getD, List.getD_eq_getElem?_getD, List.getElem?_append_left h]
theorem getD_right (X : List Int) (Q : List UInt8) (p : Nat) (h : p < Q.length) : (X ++ Q.map (fun b => (b.toNat : Int))).getD (X.length + p) 0 = (tb Q p : Nat) := by
  rw [List.getD_eq_getElem?_getD, List.getElem?_append_right (by omega), Nat.add_sub_cancel_left, List.getElem?_map, List.getElem?_eq_getElem h]
  unfold tb
  rw [List.getD_eq_getElem?_getD, List.getElem?_eq_getElem h]
  rfl
theorem q_first (wr : Nat → Bool) (qb : UInt8) (t : List UInt8) : tb (quoted wr qb t) 0 = qb.toNat := rfl
theorem q_len (wr : Nat → Bool) (qb : UInt8) (t : List UInt8) : (quoted wr qb t).length = (outW wr qb.toNat t t.length).length + 2 := by unfold quoted; simp
theorem q_last (wr : Nat → Bool) (qb : UInt8) (t : List UInt8) : tb (quoted wr qb t) ((outW wr qb.toNat t t.length).length + 1) = qb.toNat := by
  unfold tb quoted
  rw [List.getD_eq_getElem?_getD, List.getElem?_cons_succ, List.getElem?_append_right (Nat.le_refl _), Nat.sub_self]
  rfl
theorem q_mid (wr : Nat → Bool) (qb : UInt8) (t : List UInt8) (p : Nat) (h : p < (outW wr qb.toNat t t.length).length) : tb (quoted wr qb t) (p + 1) = tb (outW wr qb.toNat t t.length) p := by
  unfold tb quoted
  rw [List.getD_eq_getElem?_getD, List.getD_eq_getElem?_getD, List.getElem?_cons_succ, List.getElem?_append_left h]
theorem cells_take (t : List UInt8) (k : Nat) (hk : k < t.length) : cells (t.take (k + 1)) = cells (t.take k) ++ [.int .u8 (tb t k : Nat)] := by
  rw [List.take_succ_eq_append_getElem hk]
  unfold cells tb
  rw [List.map_append, List.getD_eq_getElem?_getD, List.getElem?_eq_getElem hk]
  rfl
theorem cells_ints (l : List UInt8) : cells l = (l.map (fun b => (b.toNat : Int))).map (Value.int .u8) := by unfold cells; rw [List.map_map]; rfl
theorem zs_get (t : List UInt8) (k x : Nat) (hx : x < k) (hk : k ≤ t.length) : ((t.take k).map (fun b => (b.toNat : Int))).getD x 0 = ((t.getD x 0).toNat : Int) := by
  rw [List.getD_eq_getElem?_getD, List.getElem?_map, List.getElem?_take_of_lt hx, List.getElem?_eq_getElem (by omega), List.getD_eq_getElem?_getD, List.getElem?_eq_getElem (by omega)]
  rfl
theorem reads_of {w : World} {B b off n : Nat} {zs : List Int} (hb : b < B) (hl : zs.length = n) (h : ∀ i, i < n → w.cell? ⟨b, off + i, none⟩ = some (.int .u8 (zs.getD i 0))) : Reads w B 1 (some ⟨b, off, none⟩) n (zs.map (Value.int .u8)) := by
  refine ⟨by simp; omega, fun hn => ⟨⟨b, off, none⟩, rfl, hb, fun j u hu => ?_⟩⟩
  have hj : j < n := by
    have := (List.getElem?_eq_some_iff.1 hu).1
    simp at this; omega
  rw [List.getElem?_map, List.getElem?_eq_getElem (by omega)] at hu
  have h1 := h j hj
  rw [List.getD_eq_getElem?_getD, List.getElem?_eq_getElem (by omega)] at h1
  have e : (⟨b, off, none⟩ : Addr).add j = ⟨b, off + j, none⟩ := by unfold Addr.add; split <;> simp_all
  rw [e, h1]
  exact hu
/-! ### STEP 1: THE WALK -/
set_option maxHeartbeats 4000000 in
set_option maxRecDepth 100000 in
theorem walk (a0 : Option Addr) (len0 cap0 : Nat) (z0 : List Int) (a1 : Int) (a2 : ByteArray) (a3 : Int) (a4 : Int) (w : World) (w0 : IsRow .u8 w a0 len0 cap0 z0) (w1 : (Lit.int .i64 a1).wf = true) (w2 : a2.size ≤ maxLen) (w3 : (Lit.int .u8 a3).wf = true) (w4 : (Lit.int .u8 a4).wf = true) (hT : Lib.Utf8Tabs 0 1 w) (hF : FoldTabs w) :
    Calls Tryf.prog 4 #[.slice a0 len0 cap0, .int .i64 a1, .string a2, .int .u8 a3, .int .u8 a4] w fun e w' => e = .returned (.bool true) ∧ Below w.heap.size w w' := by
  simp [Lit.wf, IntKind.min, IntKind.max, IntKind.signed, IntKind.bits] at w1 w3 w4
  obtain ⟨w1l, w1h⟩ := w1
  obtain ⟨w4l, w4h⟩ := w4
  obtain ⟨i0, hi0, hz0, hz1, hz2⟩ := info_parts u8I
  obtain ⟨hr, hA, hln⟩ := isrow_reads w0
  obtain ⟨X, hX⟩ : ∃ X, X = z0.take len0 := ⟨_, rfl⟩
  rw [← hX] at hr
  have HX := Lib.hid (show X.length = len0 by have := hr.1; simpa using this)
  have HR := Lib.hid hr; have HA := Lib.hid hA; have HLN := Lib.hid hln; have HW3 := Lib.hid w2
  have HT := Lib.hid hT; have HF := Lib.hid hF
  clear hr hX w0 hA w2 hT hF
  unfold maxLen at hln
  have hw3 : a2.size ≤ 9223372036854775807 := by have := HW3.out; unfold maxLen at this; omega
  by_cases hbig : len0 + a2.size ≤ 1048576
  case neg =>
    have HB := Lib.hid (show decide (len0 + a2.size ≤ 1048576) = false by simpa using hbig)
    go_enter Tryf.func4, Tryf.ntmps4
    go_wp2_with (go_at_call 11; refine (zb a0 len0 cap0 a1 a3 a4 a2 _ HLN.out HW3.out).mono ?_; rw [HB.out]; rintro e wz ⟨rfl, rfl⟩)
    go_ret
    exact ⟨rfl, Below.refl _ _⟩
  have HB := Lib.hid (show decide (len0 + a2.size ≤ 1048576) = true by simpa using hbig)
  by_cases q34 : a3 = 34
  · subst q34
    go_enter Tryf.func4, Tryf.ntmps4
    go_wp2_with (go_at_call 11; refine (zb a0 len0 cap0 a1 34 a4 a2 _ HLN.out HW3.out).mono ?_; rw [HB.out]; rintro e wz ⟨rfl, rfl⟩)
    refine (rh_any a2 (by omega) w).mono ?_
    rintro e wz ⟨hb, rfl, hfree, hq⟩
    have hq := hq.symm
    subst hq
    by_cases hbt : hb = true
    · subst hbt
      go_wp2
      go_ret
      exact ⟨rfl, Below.refl _ _⟩
    obtain rfl : hb = false := by simpa using hbt
    have HFREE := Lib.hid (hfree rfl)
    clear hfree
    go_wp2_with (go_at_call 7; refine (copyRow a0 len0 cap0 X w HR.out (by omega) HA.out).mono ?_)
    rintro e w1 ⟨A1, n1, c1, rfl, hl1, ho1, hb1⟩
    have O1w := Lib.hid ho1; have L1 := Lib.hid hl1; have B1 := Lib.hid hb1
    have hn1 : n1 ≤ 1048576 := by have := HX.out; simp at hl1; omega
    have R1 : Hid (Reads w1 w1.heap.size 1 A1 n1 (X.map (Value.int .u8))) := Lib.hid (Reads.of_own ho1)
    have HA1 : Hid (A1 = none → n1 = 0) := Lib.hid (fun h => by
      rcases ho1.2 with ⟨hv, h0⟩ | ⟨g, cap, cur, hv, _⟩
      · exact h0
      · injection hv with a; rw [h] at a; cases a)
    clear hl1 ho1 hb1
    go_wp2_with (go_at_call 7; refine (copyRow A1 n1 c1 X w1 R1.out (by omega) HA1.out).mono ?_)
    rintro e w2 ⟨A2, n2, c2, rfl, hl2, ho2, hb2⟩
    have hn2 : n2 ≤ 1048576 := by have := HX.out; simp at hl2; omega
    have O2 := Lib.hid ho2; have L2 := Lib.hid hl2; have B2 := Lib.hid hb2
    have hn12 : n2 = len0 := by have := HX.out; simp at hl2; omega
    have B3 := Lib.hid (B1.out.trans (hb2.mono B1.out.size))
    have O1 : Hid (w2.ownsRow w.heap.size 5 1 (.slice A1 n1 c1) n1 (X.map (Value.int .u8))) := Lib.hid (own_below O1w.out hb2)
    have SEP : Hid (∀ g, rb A2 = some g → rb A1 ≠ some g) := Lib.hid (fun g h3 h1 => by
      have q3 := (O2.out.lt g (by rw [ownBlock_slice]; exact h3)).1
      have q1 := (O1w.out.lt g (by rw [ownBlock_slice]; exact h1)).2
      omega)
    have HT1 : Hid (∀ W, Below w.heap.size w2 W → Lib.Utf8Tabs 0 1 W ∧ FoldTabs W) := Lib.hid (fun W hb => tabs_keep HT.out HF.out (B3.out.trans hb))
    clear hl2 ho2 hb2
    go_wp2_with (go_at_call 9; refine (zzpw_any w.heap.size A1 n1 c1 (X.map (Value.int .u8)) 34 a1 a4 a2 w2 O1.out L1.out B3.out.size (fun W h hB hb => pv_34 X rfl a2 a4 a1 w1l w1h w4l w4h W h hB n1 L1.out (by omega) (by omega) HFREE.out rfl rfl rfl rfl rfl (fun W' hb' => HT1.out W' (hb.trans hb')))).mono ?_)
    rintro e w4 ⟨⟨wf, hp4⟩, hg4⟩
    obtain ⟨A4, n4, c4, rfl, hl4, ho4, hb4⟩ := hp4
    obtain ⟨t, ht⟩ : ∃ t, t = a2.data.toList := ⟨_, rfl⟩
    rw [← ht] at hl4 ho4 HFREE
    have HTT := Lib.hid ht
    have hts : t.length = a2.size := by rw [ht]; exact qsize a2
    rw [show (34 : Nat) = ((34 : UInt8)).toNat from rfl, row_split X 34 wf t (by decide)] at hl4 ho4
    obtain ⟨Q, hQ⟩ : ∃ Q, Q = quoted wf 34 t := ⟨_, rfl⟩
    rw [← hQ] at hl4 ho4
    have HQ := Lib.hid hQ
    have hQl : Q.length = (outW wf 34 t t.length).length + 2 := by rw [hQ]; exact q_len wf 34 t
    have hOl : (outW wf 34 t t.length).length ≤ 4 * t.length := outW_le wf 34 t t.length
    obtain ⟨o, ho⟩ : ∃ o, o = (outW wf 34 t t.length).length := ⟨_, rfl⟩
    rw [← ho] at hQl hOl
    have HO := Lib.hid ho
    have hn4 : n4 = len0 + (o + 2) := by have := HX.out; simp at hl4; omega
    have R4 := Reads.of_own ho4
    obtain ⟨b, off, rfl, hbl, hcell⟩ := reads_cell R4 (by omega)
    have CL : Hid (∀ i, i < len0 → w4.cell? ⟨b, off + i, none⟩ = some (.int .u8 (X.getD i 0))) := Lib.hid (fun i hi => by
      rw [hcell i (by omega), getD_left X Q i (by rw [HX.out]; exact hi)])
    have CQ : Hid (∀ p, p < o + 2 → w4.cell? ⟨b, off + (len0 + p), none⟩ = some (.int .u8 (tb Q p : Nat))) := Lib.hid (fun p hp => by
      rw [hcell (len0 + p) (by omega), ← HX.out, getD_right X Q p (by omega)])
    have RB2 : Hid (Reads w4 w4.heap.size 1 A2 n2 (X.map (Value.int .u8))) := Lib.hid (by
      have hh := own_kept O2.out (w' := w4) (fun g hg hlt => hg4.block g hlt (fun e => SEP.out g hg e.symm))
      exact Reads.of_own hh)
    have RG : Hid (Reads w4 w4.heap.size 1 (some ⟨b, off, none⟩) n2 (X.map (Value.int .u8))) := Lib.hid (reads_of hbl (by rw [HX.out, hn12]) (fun i hi => CL.out i (by omega)))
    have B4 := Lib.hid (B3.out.trans hb4)
    have hc4 : n4 ≤ c4 := by
      rcases ho4.2 with ⟨hv, h0⟩ | ⟨g, cap, cur, hv, _, _, hle, _⟩
      · omega
      · injection hv with _ _ e3; omega
    have HBL := Lib.hid hbl
    have Q0 : tb Q 0 = 34 := by rw [hQ]; exact q_first wf 34 t
    have QL : tb Q (o + 1) = 34 := by rw [hQ, ho]; exact q_last wf 34 t
    have NST : Hid (∀ p, ¬ (p + 7 ≤ Q.length ∧ tb Q p = 60 ∧ tb Q (p + 1) = 47 ∧ styleFrom Q (p + 2))) := Lib.hid (fun p h => by
      rw [hQ] at h
      exact no_style wf 34 t (by decide) p h.1 h.2.1 h.2.2.1 h.2.2.2)
    have hn12' := hn12.symm
    subst hn12'
    have HN4 := Lib.hid hn4; have HQL := Lib.hid hQl; have HOL := Lib.hid hOl; have HTS := Lib.hid hts
    have g13 : ¬ ((n4 : Int) < (len0 : Int) + 2) := by omega
    have hn4b : n4 ≤ 16777216 := by omega
    have l1 : (len0 : Int) < (n4 : Int) := by omega
    have l2 : (len0 : Int) ≤ (c4 : Int) := by omega
    have hwl : IntKind.i64.wrap ((n4 : Int) - 1) = (n4 : Int) - 1 := by rw [IntKind.wrap_i64]; omega
    have l3 : (0 : Int) ≤ (n4 : Int) - 1 := by omega
    have l4 : (n4 : Int) - 1 < (n4 : Int) := by omega
    obtain ⟨N1, hN1⟩ : ∃ N1, N1 = len0 + (o + 1) := ⟨_, rfl⟩
    have l5 : ((n4 : Int) - 1).toNat = N1 := by omega
    have HN1 := Lib.hid hN1
    have CQ0 := Lib.hid (show w4.cell? ⟨b, off + len0, none⟩ = some (.int .u8 34) by have := CQ.out 0 (by omega); rw [Q0] at this; exact this)
    have CQN := Lib.hid (show w4.cell? ⟨b, off + N1, none⟩ = some (.int .u8 34) by have := CQ.out (o + 1) (by omega); rw [QL, ← hN1] at this; exact this)
    clear hl4 ho4 hb4 hg4 R4 hcell hQ ho ht hbl hn4 hQl hOl hts Q0 QL hN1
    go_upto_region 15 with fail
    go_wp2_with (go_at_call 10; refine (eq_any _ _ _ X A2 len0 c2 X w4 RG.out RB2.out (by omega) (by omega)).mono ?_; rw [decide_eq_true (rfl : X = X)]; rintro e w5 ⟨rfl, hb5⟩; have HB5 := Lib.hid hb5; have cq0 : w5.cell? ⟨b, off + len0, none⟩ = some (.int .u8 34) := (hb5.cell (p := ⟨b, off + len0, none⟩) HBL.out).trans CQ0.out; have cqn : w5.cell? ⟨b, off + N1, none⟩ = some (.int .u8 34) := (hb5.cell (p := ⟨b, off + N1, none⟩) HBL.out).trans CQN.out; clear hb5)
    clear cq0 cqn
    go_loopw [14] (fun i wx => ∃ P M : Nat, i = .int .i64 P ∧ len0 ≤ P ∧ P ≤ n4 ∧ wx = w5.drewN M) (fun i _ => n4 - (intOf i).toNat)
    case atStart => exact ⟨len0, 0, rfl, Nat.le_refl _, by omega, by rw [World.drewN_zero]⟩
    case round =>
      obtain ⟨P, M, rfl, hp1, hp2, hw⟩ := hrel
      have HW := Lib.hid hw
      clear hw
      by_cases hlt : P < n4
      · obtain ⟨p, hp⟩ : ∃ p, p = P - len0 := ⟨_, rfl⟩
        have CSX := Lib.hid (cst_any b off n4 c4 P p Q wr hn4b (by have := HN4.out; have := HQL.out; omega) (by have := HN4.out; have := HQL.out; omega) (fun j hj => by
          have h1 := CQ.out (p + j) (by have := HQL.out; omega)
          rw [show len0 + (p + j) = P + j by omega] at h1
          rw [HW.out]
          exact (HB5.out.cell (p := ⟨b, off + (P + j), none⟩) HBL.out).trans h1) (NST.out p))
        clear hp
        go_wp2_with (go_at_call 12; refine CSX.out.mono ?_; rintro e w7 ⟨rfl, M', hM'⟩; have HM' := Lib.hid hM'; clear hM')
        go_roundw
        case rel => exact ⟨P + 1, M + M', by go_num, by omega, by omega, by rw [HM'.out, HW.out, World.drewN_drewN]⟩
        case measure =>
          simp [intOf]
          omega
      · obtain rfl : n4 = P := by omega
        clear hlt hp1 hp2
        have m1 : IntKind.i64.wrap ((len0 : Int) + 1) = (len0 : Int) + 1 := by rw [IntKind.wrap_i64]; omega
        have m2 : (0 : Int) ≤ (len0 : Int) + 1 := by omega
        have m3 : (len0 : Int) + 1 ≤ (n4 : Int) - 1 := by omega
        have m4 : (n4 : Int) - 1 ≤ (c4 : Int) := by omega
        have m5 : ((len0 : Int) + 1).toNat = len0 + 1 := by omega
        have m6 : N1 - (len0 + 1) = o := by have := HN1.out; omega
        have hsz : a2.size ≤ 1048576 := by omega
        have hmk : ∀ W : World, (Instr.makeSlice 22 (.int .i64 0) (.int .i64 (a2.size : Int))).run Tryf.prog W = .ok (.slice (some ⟨W.heap.size, 0, none⟩) 0 a2.size) (W.alloc (.cells (madeCells #[.int .u8 0] a2.size) 5)) := fun W => by
          have := run_make (P := Tryf.prog) W 22 5 i0 (.int .u8 0) Tryf.underlying22 hi0 hz0 .i64 .i64 0 a2.size (by omega) (by omega) (by rw [hz2]; omega) (by omega)
          simpa [hz1, Value.cells] using this
        go_upto_region 27 with fail
        obtain ⟨w8, hw8⟩ : ∃ W : World, W = wr.alloc (.cells (madeCells #[.int .u8 0] a2.size) 5) := ⟨_, rfl⟩
        rw [← hw8]
        have OD : Hid (w8.ownsRow wr.heap.size 5 1 (.slice (some ⟨wr.heap.size, 0, none⟩) 0 a2.size) 0 []) := Lib.hid (by
          rw [hw8]
          exact ⟨rfl, .inr ⟨wr.heap.size, a2.size, _, rfl, Nat.le_refl _, Blk.new wr 5 _, by omega, by unfold maxLen; omega, by simpa using copyB_made a2.size, by simp⟩⟩)
        have BD : Hid (Below wr.heap.size wr w8) := Lib.hid (by rw [hw8]; exact (Below.refl _ _).alloc (Nat.le_refl _) _)
        obtain ⟨Bd, hBd⟩ : ∃ x, x = wr.heap.size := ⟨_, rfl⟩
        rw [← hBd] at OD BD ⊢
        have hbBd : b < Bd := by rw [hBd, HW.out]; exact Nat.lt_of_lt_of_le HBL.out HB5.out.size
        have HBD := Lib.hid hBd
        have CB : Hid (∀ W, Below Bd wr W → ∀ x, x < o → W.cell? ⟨b, off + (len0 + 1) + x, none⟩ = some (.int .u8 (tb (outW wf 34 t t.length) x : Nat))) := Lib.hid (fun W hW x hx => by
          have h1 := CQ.out (x + 1) (by omega)
          rw [HQ.out, q_mid wf 34 t x (by have := HO.out; exact this ▸ hx), show off + (len0 + (x + 1)) = off + (len0 + 1) + x by omega] at h1
          rw [hW.cell (p := ⟨b, off + (len0 + 1) + x, none⟩) hbBd, HW.out]
          exact (HB5.out.cell (p := ⟨b, off + (len0 + 1) + x, none⟩) HBL.out).trans h1)
        have WEND : Hid (∀ W, Below Bd wr W → Below w.heap.size w W) := Lib.hid (fun W hW => by
          refine ((B4.out.trans (HB5.out.mono B4.out.size)).trans (below_drewN (Below.refl _ _) M)).trans ?_
          rw [← HW.out]
          refine hW.mono ?_
          rw [HBD.out, HW.out]
          exact Nat.le_trans B4.out.size HB5.out.size)
        clear hw8 hBd hmk m1 m2 m3 m4 m5 m6 l1 l2 l3 l4 l5 hwl g13
        go_loopw [16, 17, 18] (fun d jj bb wq => ∃ (k e j : Nat) (A' : Option Addr) (c' : Nat), d = .slice A' k c' ∧ jj = .int .i64 j ∧ RB wf 34 t k e j ∧ wq.ownsRow Bd 5 1 (.slice A' k c') k (cells (t.take k)) ∧ Below Bd wr wq) (fun d jj bb _ => o - (intOf jj).toNat)
        case atStart => exact ⟨0, 0, 0, _, _, rfl, rfl, ⟨by omega, by simp [outW], .inl rfl⟩, by simpa [cells] using OD.out, BD.out⟩
        case round =>
          obtain ⟨k, e, j, A', c', rfl, rfl, hrb, hor, hbw⟩ := hrel
          have HRB := Lib.hid hrb; have OR := Lib.hid hor; have HBWq := Lib.hid hbw
          have HCB := Lib.hid (CB.out wr hbw)
          have hsr : Bd ≤ wr.heap.size := by rw [HBD.out]; exact hbw.size
          have hkl : k ≤ a2.size := by have := hrb.1; have := HTS.out; omega
          have hjo' : j ≤ o := by have := rb_le hrb; have := HO.out; omega
          have hob : o ≤ 4194304 := by have := HOL.out; have := HTS.out; omega
          clear hrb hor hbw
          by_cases hjo : j < o
          · have hk : k < t.length := by
              rcases Nat.lt_or_ge k t.length with h | h
              · exact h
              · have h1 := (rb_end HRB.out (by omega)).2; have := HO.out; omega
            have hw1 : IntKind.i64.wrap ((j : Int) + 1) = (j : Int) + 1 := by rw [IntKind.wrap_i64]; omega
            have hw2 : IntKind.i64.wrap ((j : Int) + 2) = (j : Int) + 2 := by rw [IntKind.wrap_i64]; omega
            have j0 : (0 : Int) ≤ (j : Int) + 1 := by omega
            have jn : ((j : Int) + 1).toNat = j + 1 := by omega
            have jlt : (j : Int) < (o : Int) := by omega
            rcases rb_step HFREE.out (by decide) HRB.out hk with ⟨s1, s2, s3, s4⟩ | ⟨s1, s2, s3, s4, s5⟩ | ⟨s1, s2, s3, s4, s5, s6⟩
            · rw [← HO.out] at s3
              have d0 := HCB.out j hjo
              have d1 := HCB.out (j + 1) s3
              rw [s1] at d0
              rw [s2] at d1
              have S4 := Lib.hid s4
              have g1 : (j : Int) + 1 < (o : Int) := by omega
              have g2 : ¬ (o : Int) ≤ (j : Int) + 1 := by omega
              clear s1 s2 s4
              go_wp2
              go_roundw
              case rel => exact ⟨k, 2, j + 2, A', c', rfl, by go_num, S4.out, OR.out, HBWq.out⟩
              case measure =>
                simp [intOf]
                omega
            · rw [← HO.out] at s4
              have d0 := HCB.out j hjo
              have d1 := HCB.out (j + 1) s4
              rw [s1] at d0
              rw [s2] at d1
              obtain ⟨c, hc⟩ : ∃ c, c = tb t k := ⟨_, rfl⟩
              rw [← hc] at d1 s3
              have HC := Lib.hid hc
              have S5 := Lib.hid s5
              have g1 : (j : Int) + 1 < (o : Int) := by omega
              have g2 : ¬ (o : Int) ≤ (j : Int) + 1 := by omega
              have gc : ((c : Int) != 10) = true := by rw [bne_iff_ne]; omega
              clear s1 s2 s3 s5 hc
              go_wp2_with (at_builtin; refine wpList_append_own_src _ rfl (.tmp 131) (.tmp 137) 22 22 rfl Bd 5 i0 (.int .u8 0) 1 1 Tryf.underlying22 hi0 hz0 hz1 hz2 rfl _ _ _ rfl (OR.out.alloc _) _ 1 [.int .u8 c] rfl (srcOne wr (.int .u8 c) rfl) (by unfold maxLen; omega) (by omega) (by simp; omega) ?_)
              intro v9 w9 hown9 hgrow9 _
              have hb9 := (HBWq.out.alloc hsr _).grown hgrow9 (by simp; omega) (fun g hg => (OR.out.lt g hg).1)
              rw [HC.out, ← cells_take t k hk] at hown9
              obtain ⟨A9, c9, rfl⟩ := own_slice hown9
              have O9 := Lib.hid hown9; have HB9 := Lib.hid hb9
              clear hown9 hgrow9 hb9
              go_wp2
              go_roundw
              case rel => exact ⟨k + 1, 0, j + 2, A9, c9, rfl, by go_num, S5.out, O9.out, HB9.out⟩
              case measure =>
                simp [intOf]
                omega
            · have d0 := HCB.out j hjo
              rw [s1] at d0
              obtain ⟨c, hc⟩ : ∃ c, c = tb t k := ⟨_, rfl⟩
              rw [← hc] at d0 s2 s3 s4
              have HC := Lib.hid hc
              have S6 := Lib.hid s6
              have g92 : ((c : Int) == 92) = false := beq_eq_false_iff_ne.2 (by omega)
              have gq : ((c : Int) == 34) = false := beq_eq_false_iff_ne.2 (by have : c ≠ 34 := s3; omega)
              have g10 : ((c : Int) == 10) = false := beq_eq_false_iff_ne.2 (by omega)
              clear s1 s2 s3 s4 s5 s6 hc
              go_wp2_with (at_builtin; refine wpList_append_own_src _ rfl (.tmp 148) (.tmp 150) 22 22 rfl Bd 5 i0 (.int .u8 0) 1 1 Tryf.underlying22 hi0 hz0 hz1 hz2 rfl _ _ _ rfl (OR.out.alloc _) _ 1 [.int .u8 c] rfl (srcOne wr (.int .u8 c) rfl) (by unfold maxLen; omega) (by omega) (by simp; omega) ?_)
              intro v9 w9 hown9 hgrow9 _
              have hb9 := (HBWq.out.alloc hsr _).grown hgrow9 (by simp; omega) (fun g hg => (OR.out.lt g hg).1)
              rw [HC.out, ← cells_take t k hk] at hown9
              obtain ⟨A9, c9, rfl⟩ := own_slice hown9
              have O9 := Lib.hid hown9; have HB9 := Lib.hid hb9
              clear hown9 hgrow9 hb9
              go_wp2
              go_roundw
              case rel => exact ⟨k + 1, 0, j + 1, A9, c9, rfl, by go_num, S6.out, O9.out, HB9.out⟩
              case measure =>
                simp [intOf]
                omega
          · have hkt : k = t.length := by
              rcases Nat.lt_or_ge k t.length with h | h
              · rcases rb_step HFREE.out (by decide) HRB.out h with ⟨_, _, h3, _⟩ | ⟨_, _, _, h3, _⟩ | ⟨_, _, _, _, h3, _⟩
                all_goals (have := HO.out; omega)
              · have := (rb_end HRB.out (by omega)).1; exact this
            have jle : ¬ (j : Int) < (o : Int) := by omega
            have e39 : ((k : Int) != (a2.size : Int)) = false := by rw [show k = a2.size from hkt.trans HTS.out]; simp
            have HKT := Lib.hid hkt
            clear hkt hjo
            have RDW : Hid (Reads wr wr.heap.size 1 A' k (((t.take k).map (fun b => (b.toNat : Int))).map (Value.int .u8))) := Lib.hid (by
              rw [← cells_ints]; exact Reads.of_own OR.out)
            have WENDq : Hid (Below w.heap.size w wr) := Lib.hid (WEND.out _ HBWq.out)
            clear hjo' hob hsr
            go_wp2_with fail
            go_loopw [19] (fun i wx => ∃ x : Nat, i = .int .i64 x ∧ x ≤ a2.size ∧ Below wr.heap.size wr wx) (fun i _ => a2.size - (intOf i).toNat)
            case atStart => exact ⟨0, rfl, by omega, Below.refl _ _⟩
            case round =>
              obtain ⟨x, rfl, hx, hbx⟩ := hrel
              by_cases hlt : x < a2.size
              · have hxk : x < k := by have := HKT.out; have := HTS.out; omega
                obtain ⟨b2, off2, rfl, hb2, hc2⟩ := reads_cell (RDW.out.below hbx) (by omega)
                have cx := hc2 x hxk
                obtain ⟨c, hc⟩ : ∃ c, c = t.getD x 0 := ⟨_, rfl⟩
                have hp : a2[x]'hlt = c := by rw [hc, HTT.out]; exact qget a2 x hlt
                rw [zs_get t k x hxk (by have := HKT.out; omega), ← hc] at cx
                have hs : (((c.toNat : Nat) : Int) != ((c.toNat : Nat) : Int)) = false := by simp
                have xk : (x : Int) < (k : Int) := by omega
                clear hc2 hc
                go_wp2
                go_region
                all_goals
                  go_wp2
                  go_roundw
                  case rel => exact ⟨x + 1, by go_num, by omega, by repeat (first | exact hbx | apply Below.drew | apply below_drewN)⟩
                  case measure =>
                    simp [intOf]
                    omega
              · obtain rfl : x = a2.size := by omega
                have d1 : decide ((a2.size : Int) < (a2.size : Int)) = false := by simp
                go_wp2
                go_ret
                exact ⟨rfl, WENDq.out.trans (hbx.mono WENDq.out.size)⟩
  by_cases q39 : a3 = 39
  · subst q39
    clear q34
    go_enter Tryf.func4, Tryf.ntmps4
    go_wp2_with (go_at_call 11; refine (zb a0 len0 cap0 a1 39 a4 a2 _ HLN.out HW3.out).mono ?_; rw [HB.out]; rintro e wz ⟨rfl, rfl⟩)
    refine (rh_any a2 (by omega) w).mono ?_
    rintro e wz ⟨hb, rfl, hfree, hq⟩
    have hq := hq.symm
    subst hq
    by_cases hbt : hb = true
    · subst hbt
      go_wp2
      go_ret
      exact ⟨rfl, Below.refl _ _⟩
    obtain rfl : hb = false := by simpa using hbt
    have HFREE := Lib.hid (hfree rfl)
    clear hfree
    go_wp2_with (go_at_call 7; refine (copyRow a0 len0 cap0 X w HR.out (by omega) HA.out).mono ?_)
    rintro e w1 ⟨A1, n1, c1, rfl, hl1, ho1, hb1⟩
    have O1w := Lib.hid ho1; have L1 := Lib.hid hl1; have B1 := Lib.hid hb1
    have hn1 : n1 ≤ 1048576 := by have := HX.out; simp at hl1; omega
    have R1 : Hid (Reads w1 w1.heap.size 1 A1 n1 (X.map (Value.int .u8))) := Lib.hid (Reads.of_own ho1)
    have HA1 : Hid (A1 = none → n1 = 0) := Lib.hid (fun h => by
      rcases ho1.2 with ⟨hv, h0⟩ | ⟨g, cap, cur, hv, _⟩
      · exact h0
      · injection hv with a; rw [h] at a; cases a)
    clear hl1 ho1 hb1
    go_wp2_with (go_at_call 7; refine (copyRow A1 n1 c1 X w1 R1.out (by omega) HA1.out).mono ?_)
    rintro e w2 ⟨A2, n2, c2, rfl, hl2, ho2, hb2⟩
    have hn2 : n2 ≤ 1048576 := by have := HX.out; simp at hl2; omega
    have O2 := Lib.hid ho2; have L2 := Lib.hid hl2; have B2 := Lib.hid hb2
    have hn12 : n2 = len0 := by have := HX.out; simp at hl2; omega
    have B3 := Lib.hid (B1.out.trans (hb2.mono B1.out.size))
    have O1 : Hid (w2.ownsRow w.heap.size 5 1 (.slice A1 n1 c1) n1 (X.map (Value.int .u8))) := Lib.hid (own_below O1w.out hb2)
    have SEP : Hid (∀ g, rb A2 = some g → rb A1 ≠ some g) := Lib.hid (fun g h3 h1 => by
      have q3 := (O2.out.lt g (by rw [ownBlock_slice]; exact h3)).1
      have q1 := (O1w.out.lt g (by rw [ownBlock_slice]; exact h1)).2
      omega)
    have HT1 : Hid (∀ W, Below w.heap.size w2 W → Lib.Utf8Tabs 0 1 W ∧ FoldTabs W) := Lib.hid (fun W hb => tabs_keep HT.out HF.out (B3.out.trans hb))
    clear hl2 ho2 hb2
    go_wp2_with (go_at_call 9; refine (zzpw_any w.heap.size A1 n1 c1 (X.map (Value.int .u8)) 39 a1 a4 a2 w2 O1.out L1.out B3.out.size (fun W h hB hb => pv_39 X rfl a2 a4 a1 w1l w1h w4l w4h W h hB n1 L1.out (by omega) (by omega) HFREE.out rfl rfl rfl rfl rfl (fun W' hb' => HT1.out W' (hb.trans hb')))).mono ?_)
    rintro e w4 ⟨⟨wf, hp4⟩, hg4⟩
    obtain ⟨A4, n4, c4, rfl, hl4, ho4, hb4⟩ := hp4
    obtain ⟨t, ht⟩ : ∃ t, t = a2.data.toList := ⟨_, rfl⟩
    rw [← ht] at hl4 ho4 HFREE
    have HTT := Lib.hid ht
    have hts : t.length = a2.size := by rw [ht]; exact qsize a2
    rw [show (39 : Nat) = ((39 : UInt8)).toNat from rfl, row_split X 39 wf t (by decide)] at hl4 ho4
    obtain ⟨Q, hQ⟩ : ∃ Q, Q = quoted wf 39 t := ⟨_, rfl⟩
    rw [← hQ] at hl4 ho4
    have HQ := Lib.hid hQ
    have hQl : Q.length = (outW wf 39 t t.length).length + 2 := by rw [hQ]; exact q_len wf 39 t
    have hOl : (outW wf 39 t t.length).length ≤ 4 * t.length := outW_le wf 39 t t.length
    obtain ⟨o, ho⟩ : ∃ o, o = (outW wf 39 t t.length).length := ⟨_, rfl⟩
    rw [← ho] at hQl hOl
    have HO := Lib.hid ho
    have hn4 : n4 = len0 + (o + 2) := by have := HX.out; simp at hl4; omega
    have R4 := Reads.of_own ho4
    obtain ⟨b, off, rfl, hbl, hcell⟩ := reads_cell R4 (by omega)
    have CL : Hid (∀ i, i < len0 → w4.cell? ⟨b, off + i, none⟩ = some (.int .u8 (X.getD i 0))) := Lib.hid (fun i hi => by
      rw [hcell i (by omega), getD_left X Q i (by rw [HX.out]; exact hi)])
    have CQ : Hid (∀ p, p < o + 2 → w4.cell? ⟨b, off + (len0 + p), none⟩ = some (.int .u8 (tb Q p : Nat))) := Lib.hid (fun p hp => by
      rw [hcell (len0 + p) (by omega), ← HX.out, getD_right X Q p (by omega)])
    have RB2 : Hid (Reads w4 w4.heap.size 1 A2 n2 (X.map (Value.int .u8))) := Lib.hid (by
      have hh := own_kept O2.out (w' := w4) (fun g hg hlt => hg4.block g hlt (fun e => SEP.out g hg e.symm))
      exact Reads.of_own hh)
    have RG : Hid (Reads w4 w4.heap.size 1 (some ⟨b, off, none⟩) n2 (X.map (Value.int .u8))) := Lib.hid (reads_of hbl (by rw [HX.out, hn12]) (fun i hi => CL.out i (by omega)))
    have B4 := Lib.hid (B3.out.trans hb4)
    have hc4 : n4 ≤ c4 := by
      rcases ho4.2 with ⟨hv, h0⟩ | ⟨g, cap, cur, hv, _, _, hle, _⟩
      · omega
      · injection hv with _ _ e3; omega
    have HBL := Lib.hid hbl
    have Q0 : tb Q 0 = 39 := by rw [hQ]; exact q_first wf 39 t
    have QL : tb Q (o + 1) = 39 := by rw [hQ, ho]; exact q_last wf 39 t
    have NST : Hid (∀ p, ¬ (p + 7 ≤ Q.length ∧ tb Q p = 60 ∧ tb Q (p + 1) = 47 ∧ styleFrom Q (p + 2))) := Lib.hid (fun p h => by
      rw [hQ] at h
      exact no_style wf 39 t (by decide) p h.1 h.2.1 h.2.2.1 h.2.2.2)
    have hn12' := hn12.symm
    subst hn12'
    have HN4 := Lib.hid hn4; have HQL := Lib.hid hQl; have HOL := Lib.hid hOl; have HTS := Lib.hid hts
    have g13 : ¬ ((n4 : Int) < (len0 : Int) + 2) := by omega
    have hn4b : n4 ≤ 16777216 := by omega
    have l1 : (len0 : Int) < (n4 : Int) := by omega
    have l2 : (len0 : Int) ≤ (c4 : Int) := by omega
    have hwl : IntKind.i64.wrap ((n4 : Int) - 1) = (n4 : Int) - 1 := by rw [IntKind.wrap_i64]; omega
    have l3 : (0 : Int) ≤ (n4 : Int) - 1 := by omega
    have l4 : (n4 : Int) - 1 < (n4 : Int) := by omega
    obtain ⟨N1, hN1⟩ : ∃ N1, N1 = len0 + (o + 1) := ⟨_, rfl⟩
    have l5 : ((n4 : Int) - 1).toNat = N1 := by omega
    have HN1 := Lib.hid hN1
    have CQ0 := Lib.hid (show w4.cell? ⟨b, off + len0, none⟩ = some (.int .u8 39) by have := CQ.out 0 (by omega); rw [Q0] at this; exact this)
    have CQN := Lib.hid (show w4.cell? ⟨b, off + N1, none⟩ = some (.int .u8 39) by have := CQ.out (o + 1) (by omega); rw [QL, ← hN1] at this; exact this)
    clear hl4 ho4 hb4 hg4 R4 hcell hQ ho ht hbl hn4 hQl hOl hts Q0 QL hN1
    go_upto_region 15 with fail
    go_wp2_with (go_at_call 10; refine (eq_any _ _ _ X A2 len0 c2 X w4 RG.out RB2.out (by omega) (by omega)).mono ?_; rw [decide_eq_true (rfl : X = X)]; rintro e w5 ⟨rfl, hb5⟩; have HB5 := Lib.hid hb5; have cq0 : w5.cell? ⟨b, off + len0, none⟩ = some (.int .u8 39) := (hb5.cell (p := ⟨b, off + len0, none⟩) HBL.out).trans CQ0.out; have cqn : w5.cell? ⟨b, off + N1, none⟩ = some (.int .u8 39) := (hb5.cell (p := ⟨b, off + N1, none⟩) HBL.out).trans CQN.out; clear hb5)
    clear cq0 cqn
    go_loopw [14] (fun i wx => ∃ P M : Nat, i = .int .i64 P ∧ len0 ≤ P ∧ P ≤ n4 ∧ wx = w5.drewN M) (fun i _ => n4 - (intOf i).toNat)
    case atStart => exact ⟨len0, 0, rfl, Nat.le_refl _, by omega, by rw [World.drewN_zero]⟩
    case round =>
      obtain ⟨P, M, rfl, hp1, hp2, hw⟩ := hrel
      have HW := Lib.hid hw
      clear hw
      by_cases hlt : P < n4
      · obtain ⟨p, hp⟩ : ∃ p, p = P - len0 := ⟨_, rfl⟩
        have CSX := Lib.hid (cst_any b off n4 c4 P p Q wr hn4b (by have := HN4.out; have := HQL.out; omega) (by have := HN4.out; have := HQL.out; omega) (fun j hj => by
          have h1 := CQ.out (p + j) (by have := HQL.out; omega)
          rw [show len0 + (p + j) = P + j by omega] at h1
          rw [HW.out]
          exact (HB5.out.cell (p := ⟨b, off + (P + j), none⟩) HBL.out).trans h1) (NST.out p))
        clear hp
        go_wp2_with (go_at_call 12; refine CSX.out.mono ?_; rintro e w7 ⟨rfl, M', hM'⟩; have HM' := Lib.hid hM'; clear hM')
        go_roundw
        case rel => exact ⟨P + 1, M + M', by go_num, by omega, by omega, by rw [HM'.out, HW.out, World.drewN_drewN]⟩
        case measure =>
          simp [intOf]
          omega
      · obtain rfl : n4 = P := by omega
        clear hlt hp1 hp2
        have m1 : IntKind.i64.wrap ((len0 : Int) + 1) = (len0 : Int) + 1 := by rw [IntKind.wrap_i64]; omega
        have m2 : (0 : Int) ≤ (len0 : Int) + 1 := by omega
        have m3 : (len0 : Int) + 1 ≤ (n4 : Int) - 1 := by omega
        have m4 : (n4 : Int) - 1 ≤ (c4 : Int) := by omega
        have m5 : ((len0 : Int) + 1).toNat = len0 + 1 := by omega
        have m6 : N1 - (len0 + 1) = o := by have := HN1.out; omega
        have hsz : a2.size ≤ 1048576 := by omega
        have hmk : ∀ W : World, (Instr.makeSlice 22 (.int .i64 0) (.int .i64 (a2.size : Int))).run Tryf.prog W = .ok (.slice (some ⟨W.heap.size, 0, none⟩) 0 a2.size) (W.alloc (.cells (madeCells #[.int .u8 0] a2.size) 5)) := fun W => by
          have := run_make (P := Tryf.prog) W 22 5 i0 (.int .u8 0) Tryf.underlying22 hi0 hz0 .i64 .i64 0 a2.size (by omega) (by omega) (by rw [hz2]; omega) (by omega)
          simpa [hz1, Value.cells] using this
        go_upto_region 27 with fail
        obtain ⟨w8, hw8⟩ : ∃ W : World, W = wr.alloc (.cells (madeCells #[.int .u8 0] a2.size) 5) := ⟨_, rfl⟩
        rw [← hw8]
        have OD : Hid (w8.ownsRow wr.heap.size 5 1 (.slice (some ⟨wr.heap.size, 0, none⟩) 0 a2.size) 0 []) := Lib.hid (by
          rw [hw8]
          exact ⟨rfl, .inr ⟨wr.heap.size, a2.size, _, rfl, Nat.le_refl _, Blk.new wr 5 _, by omega, by unfold maxLen; omega, by simpa using copyB_made a2.size, by simp⟩⟩)
        have BD : Hid (Below wr.heap.size wr w8) := Lib.hid (by rw [hw8]; exact (Below.refl _ _).alloc (Nat.le_refl _) _)
        obtain ⟨Bd, hBd⟩ : ∃ x, x = wr.heap.size := ⟨_, rfl⟩
        rw [← hBd] at OD BD ⊢
        have hbBd : b < Bd := by rw [hBd, HW.out]; exact Nat.lt_of_lt_of_le HBL.out HB5.out.size
        have HBD := Lib.hid hBd
        have CB : Hid (∀ W, Below Bd wr W → ∀ x, x < o → W.cell? ⟨b, off + (len0 + 1) + x, none⟩ = some (.int .u8 (tb (outW wf 39 t t.length) x : Nat))) := Lib.hid (fun W hW x hx => by
          have h1 := CQ.out (x + 1) (by omega)
          rw [HQ.out, q_mid wf 39 t x (by have := HO.out; exact this ▸ hx), show off + (len0 + (x + 1)) = off + (len0 + 1) + x by omega] at h1
          rw [hW.cell (p := ⟨b, off + (len0 + 1) + x, none⟩) hbBd, HW.out]
          exact (HB5.out.cell (p := ⟨b, off + (len0 + 1) + x, none⟩) HBL.out).trans h1)
        have WEND : Hid (∀ W, Below Bd wr W → Below w.heap.size w W) := Lib.hid (fun W hW => by
          refine ((B4.out.trans (HB5.out.mono B4.out.size)).trans (below_drewN (Below.refl _ _) M)).trans ?_
          rw [← HW.out]
          refine hW.mono ?_
          rw [HBD.out, HW.out]
          exact Nat.le_trans B4.out.size HB5.out.size)
        clear hw8 hBd hmk m1 m2 m3 m4 m5 m6 l1 l2 l3 l4 l5 hwl g13
        go_loopw [16, 17, 18] (fun d jj bb wq => ∃ (k e j : Nat) (A' : Option Addr) (c' : Nat), d = .slice A' k c' ∧ jj = .int .i64 j ∧ RB wf 39 t k e j ∧ wq.ownsRow Bd 5 1 (.slice A' k c') k (cells (t.take k)) ∧ Below Bd wr wq) (fun d jj bb _ => o - (intOf jj).toNat)
        case atStart => exact ⟨0, 0, 0, _, _, rfl, rfl, ⟨by omega, by simp [outW], .inl rfl⟩, by simpa [cells] using OD.out, BD.out⟩
        case round =>
          obtain ⟨k, e, j, A', c', rfl, rfl, hrb, hor, hbw⟩ := hrel
          have HRB := Lib.hid hrb; have OR := Lib.hid hor; have HBWq := Lib.hid hbw
          have HCB := Lib.hid (CB.out wr hbw)
          have hsr : Bd ≤ wr.heap.size := by rw [HBD.out]; exact hbw.size
          have hkl : k ≤ a2.size := by have := hrb.1; have := HTS.out; omega
          have hjo' : j ≤ o := by have := rb_le hrb; have := HO.out; omega
          have hob : o ≤ 4194304 := by have := HOL.out; have := HTS.out; omega
          clear hrb hor hbw
          by_cases hjo : j < o
          · have hk : k < t.length := by
              rcases Nat.lt_or_ge k t.length with h | h
              · exact h
              · have h1 := (rb_end HRB.out (by omega)).2; have := HO.out; omega
            have hw1 : IntKind.i64.wrap ((j : Int) + 1) = (j : Int) + 1 := by rw [IntKind.wrap_i64]; omega
            have hw2 : IntKind.i64.wrap ((j : Int) + 2) = (j : Int) + 2 := by rw [IntKind.wrap_i64]; omega
            have j0 : (0 : Int) ≤ (j : Int) + 1 := by omega
            have jn : ((j : Int) + 1).toNat = j + 1 := by omega
            have jlt : (j : Int) < (o : Int) := by omega
            rcases rb_step HFREE.out (by decide) HRB.out hk with ⟨s1, s2, s3, s4⟩ | ⟨s1, s2, s3, s4, s5⟩ | ⟨s1, s2, s3, s4, s5, s6⟩
            · rw [← HO.out] at s3
              have d0 := HCB.out j hjo
              have d1 := HCB.out (j + 1) s3
              rw [s1] at d0
              rw [s2] at d1
              have S4 := Lib.hid s4
              have g1 : (j : Int) + 1 < (o : Int) := by omega
              have g2 : ¬ (o : Int) ≤ (j : Int) + 1 := by omega
              clear s1 s2 s4
              go_wp2
              go_roundw
              case rel => exact ⟨k, 2, j + 2, A', c', rfl, by go_num, S4.out, OR.out, HBWq.out⟩
              case measure =>
                simp [intOf]
                omega
            · rw [← HO.out] at s4
              have d0 := HCB.out j hjo
              have d1 := HCB.out (j + 1) s4
              rw [s1] at d0
              rw [s2] at d1
              obtain ⟨c, hc⟩ : ∃ c, c = tb t k := ⟨_, rfl⟩
              rw [← hc] at d1 s3
              have HC := Lib.hid hc
              have S5 := Lib.hid s5
              have g1 : (j : Int) + 1 < (o : Int) := by omega
              have g2 : ¬ (o : Int) ≤ (j : Int) + 1 := by omega
              have gc : ((c : Int) != 10) = true := by rw [bne_iff_ne]; omega
              clear s1 s2 s3 s5 hc
              go_wp2_with (at_builtin; refine wpList_append_own_src _ rfl (.tmp 131) (.tmp 137) 22 22 rfl Bd 5 i0 (.int .u8 0) 1 1 Tryf.underlying22 hi0 hz0 hz1 hz2 rfl _ _ _ rfl (OR.out.alloc _) _ 1 [.int .u8 c] rfl (srcOne wr (.int .u8 c) rfl) (by unfold maxLen; omega) (by omega) (by simp; omega) ?_)
              intro v9 w9 hown9 hgrow9 _
              have hb9 := (HBWq.out.alloc hsr _).grown hgrow9 (by simp; omega) (fun g hg => (OR.out.lt g hg).1)
              rw [HC.out, ← cells_take t k hk] at hown9
              obtain ⟨A9, c9, rfl⟩ := own_slice hown9
              have O9 := Lib.hid hown9; have HB9 := Lib.hid hb9
              clear hown9 hgrow9 hb9
              go_wp2
              go_roundw
              case rel => exact ⟨k + 1, 0, j + 2, A9, c9, rfl, by go_num, S5.out, O9.out, HB9.out⟩
              case measure =>
                simp [intOf]
                omega
            · have d0 := HCB.out j hjo
              rw [s1] at d0
              obtain ⟨c, hc⟩ : ∃ c, c = tb t k := ⟨_, rfl⟩
              rw [← hc] at d0 s2 s3 s4
              have HC := Lib.hid hc
              have S6 := Lib.hid s6
              have g92 : ((c : Int) == 92) = false := beq_eq_false_iff_ne.2 (by omega)
              have gq : ((c : Int) == 39) = false := beq_eq_false_iff_ne.2 (by have : c ≠ 39 := s3; omega)
              have g10 : ((c : Int) == 10) = false := beq_eq_false_iff_ne.2 (by omega)
              clear s1 s2 s3 s4 s5 s6 hc
              go_wp2_with (at_builtin; refine wpList_append_own_src _ rfl (.tmp 148) (.tmp 150) 22 22 rfl Bd 5 i0 (.int .u8 0) 1 1 Tryf.underlying22 hi0 hz0 hz1 hz2 rfl _ _ _ rfl (OR.out.alloc _) _ 1 [.int .u8 c] rfl (srcOne wr (.int .u8 c) rfl) (by unfold maxLen; omega) (by omega) (by simp; omega) ?_)
              intro v9 w9 hown9 hgrow9 _
              have hb9 := (HBWq.out.alloc hsr _).grown hgrow9 (by simp; omega) (fun g hg => (OR.out.lt g hg).1)
              rw [HC.out, ← cells_take t k hk] at hown9
              obtain ⟨A9, c9, rfl⟩ := own_slice hown9
              have O9 := Lib.hid hown9; have HB9 := Lib.hid hb9
              clear hown9 hgrow9 hb9
              go_wp2
              go_roundw
              case rel => exact ⟨k + 1, 0, j + 1, A9, c9, rfl, by go_num, S6.out, O9.out, HB9.out⟩
              case measure =>
                simp [intOf]
                omega
          · have hkt : k = t.length := by
              rcases Nat.lt_or_ge k t.length with h | h
              · rcases rb_step HFREE.out (by decide) HRB.out h with ⟨_, _, h3, _⟩ | ⟨_, _, _, h3, _⟩ | ⟨_, _, _, _, h3, _⟩
                all_goals (have := HO.out; omega)
              · have := (rb_end HRB.out (by omega)).1; exact this
            have jle : ¬ (j : Int) < (o : Int) := by omega
            have e39 : ((k : Int) != (a2.size : Int)) = false := by rw [show k = a2.size from hkt.trans HTS.out]; simp
            have HKT := Lib.hid hkt
            clear hkt hjo
            have RDW : Hid (Reads wr wr.heap.size 1 A' k (((t.take k).map (fun b => (b.toNat : Int))).map (Value.int .u8))) := Lib.hid (by
              rw [← cells_ints]; exact Reads.of_own OR.out)
            have WENDq : Hid (Below w.heap.size w wr) := Lib.hid (WEND.out _ HBWq.out)
            clear hjo' hob hsr
            go_wp2_with fail
            go_loopw [19] (fun i wx => ∃ x : Nat, i = .int .i64 x ∧ x ≤ a2.size ∧ Below wr.heap.size wr wx) (fun i _ => a2.size - (intOf i).toNat)
            case atStart => exact ⟨0, rfl, by omega, Below.refl _ _⟩
            case round =>
              obtain ⟨x, rfl, hx, hbx⟩ := hrel
              by_cases hlt : x < a2.size
              · have hxk : x < k := by have := HKT.out; have := HTS.out; omega
                obtain ⟨b2, off2, rfl, hb2, hc2⟩ := reads_cell (RDW.out.below hbx) (by omega)
                have cx := hc2 x hxk
                obtain ⟨c, hc⟩ : ∃ c, c = t.getD x 0 := ⟨_, rfl⟩
                have hp : a2[x]'hlt = c := by rw [hc, HTT.out]; exact qget a2 x hlt
                rw [zs_get t k x hxk (by have := HKT.out; omega), ← hc] at cx
                have hs : (((c.toNat : Nat) : Int) != ((c.toNat : Nat) : Int)) = false := by simp
                have xk : (x : Int) < (k : Int) := by omega
                clear hc2 hc
                go_wp2
                go_region
                all_goals
                  go_wp2
                  go_roundw
                  case rel => exact ⟨x + 1, by go_num, by omega, by repeat (first | exact hbx | apply Below.drew | apply below_drewN)⟩
                  case measure =>
                    simp [intOf]
                    omega
              · obtain rfl : x = a2.size := by omega
                have d1 : decide ((a2.size : Int) < (a2.size : Int)) = false := by simp
                go_wp2
                go_ret
                exact ⟨rfl, WENDq.out.trans (hbx.mono WENDq.out.size)⟩
  · have f1 : (a3 != 34) = true := by simpa using q34
    have f2 : (a3 != 39) = true := by simpa using q39
    clear q34 q39
    go_enter Tryf.func4, Tryf.ntmps4
    go_wp2_with (go_at_call 11; refine (zb a0 len0 cap0 a1 a3 a4 a2 _ HLN.out HW3.out).mono ?_; rw [HB.out]; rintro e wz ⟨rfl, rfl⟩)
    go_ret
    exact ⟨rfl, Below.refl _ _⟩

/-! ### THE ROW's STEP -/
/-- An input that fits, at a world whose variables are laid (slices among them). -/
theorem witness_zip {H : Type} {enc : TypeId × Value → H} {C : Checked} {os : Os} {f : FuncId} {fn : Func} {s : OpenSpec} {conds : List PathCond} {apart : Bool} {laid : List (String × DataW Unit)} (modest : Bool) (w0 : World) (args : Array Value) (hos : w0.os = os)
    (hsh : (w0.forCall (fun _ _ => 0) ⟨#[], args, []⟩).Shaped C.prog)
    (hok : Input.okWideB C.prog (w0.forCall (fun _ _ => 0) ⟨#[], args, []⟩) f ⟨#[], args, []⟩ = true)
    (hrow : s.preRow enc C.prog fn conds apart laid (w0.forCall (fun _ _ => 0) ⟨#[], args, []⟩).memory args) (F : Stop.Interp) :
    ∃ (w : World) (tape : Tape) (i : Input), w.os = os ∧ (w.forCall tape i).Shaped C.prog ∧ i.vars = [] ∧ Input.okWide C.prog (w.forCall tape i) .any w.heap.size f i ∧
      s.preRow enc C.prog fn conds apart laid (w.forCall tape i).memory i.args ∧ ({ modest := modest } : Assume).holds C.prog (lone (Frame.enter C.prog f i.args .normal) [] (w.forCall tape i)) ∧ F.answers tape :=
  ⟨w0, F.over fun _ _ => 0, ⟨#[], args, []⟩, hos, hsh, (Input.okWide_of_okWideB (base := 0) hok).1, (Input.okWide_of_okWideB hok).2, hrow, by
    simp only [Assume.holds]
    exact ⟨by simp, by simp, fun _ => F.over_modest Modest.zero, by simp, by simp⟩, F.over_answers _⟩
set_option maxRecDepth 100000 in
theorem lifted (os : Os) (started : os.Started) (H : Type) (enc : TypeId × Value → H) :
    ReturnsInTold none {} Tryf.checked os 4 .any Input.okWide ((OpenSpec.ofChange Rows.fnPrintQuotedWithQuoteWrappedRoundTripSpec).preRow enc Tryf.prog Tryf.f4 [] false Rows.fnPrintQuotedWithQuoteWrappedRoundTripRow.laid) (fun F => ((OpenSpec.ofChange Rows.fnPrintQuotedWithQuoteWrappedRoundTripSpec).at F).post enc Tryf.prog Tryf.f4 false true false false) (aloneAtReturn Tryf.prog) nothingAlways := by
  refine returnsInTold_of_row (C := Tryf.checked) (s := (OpenSpec.ofChange Rows.fnPrintQuotedWithQuoteWrappedRoundTripSpec)) (by kernel_rfl) own started (by kernel_rfl) Tryf.func4
    (witness_zip (enc := enc) (C := Tryf.checked) false (World.laidAll Tryf.prog os Rows.fnPrintQuotedWithQuoteWrappedRoundTripRow.laid) #[.slice none 0 0, .int .i64 0, .string ByteArray.empty, .int .u8 0, .int .u8 0] (World.laidAll_os _ _ _) (World.shaped_of_ZipB (by kernel_rfl) (by kernel_rfl)) (by kernel_rfl)
      (OpenSpec.preRow_of_B rfl 8 (by kernel_rfl) (by kernel_rfl) (by rw [MakeChecks.laidMetH_plain _ _ _ (by kernel_rfl)]; exact laidMet_laidAll _ (by kernel_rfl) (by kernel_rfl)))) ?_
  intro F W base args ds gs before _ hF hval0 hW _ _ hsz hL _
  have hval : ∀ (j : Nat) t v, Tryf.f4.params[j]? = some t → args[j]? = some v → Value.okWide Tryf.prog W .any base t v := hval0
  have hW' := hW
  obtain ⟨p, q, hA0, hV, rfl, hfz, hnd⟩ := hW
  have hA : DataW.TrodAll enc Tryf.prog W 0 (fun _ => true) true Tryf.f4.params.toList args.toList ds p := hA0
  rw [Tryf.params4] at hA hval
  obtain ⟨v0, vs0, d0, ds0, p0, q0, hargs, rfl, rfl, h0, r0⟩ := trodAll_cons hA
  obtain ⟨v1, vs1, d1, ds1, p1, q1, rfl, rfl, rfl, h1, r1⟩ := trodAll_cons r0
  obtain ⟨v2, vs2, d2, ds2, p2, q2, rfl, rfl, rfl, h2, r2⟩ := trodAll_cons r1
  obtain ⟨v3, vs3, d3, ds3, p3, q3, rfl, rfl, rfl, h3, r3⟩ := trodAll_cons r2
  obtain ⟨v4, vs4, d4, ds4, p4, q4, rfl, rfl, rfl, h4, r4⟩ := trodAll_cons r3
  obtain ⟨rfl, rfl, rfl⟩ := trodAll_nil r4
  obtain rfl : args = #[v0, v1, v2, v3, v4] := by cases args; simp_all
  obtain ⟨rfl, rfl⟩ := trodVars_none hV
  have k0 := h0
  have lt0 : ∀ x ∈ p0, x.block < W.heap.size := by obtain ⟨m, hm⟩ := k0; exact DataW.trod_lt m _ _ _ hm
  have k1 := h1
  have lt1 : ∀ x ∈ p1, x.block < W.heap.size := by obtain ⟨m, hm⟩ := k1; exact DataW.trod_lt m _ _ _ hm
  have k2 := h2
  have lt2 : ∀ x ∈ p2, x.block < W.heap.size := by obtain ⟨m, hm⟩ := k2; exact DataW.trod_lt m _ _ _ hm
  have k3 := h3
  have lt3 : ∀ x ∈ p3, x.block < W.heap.size := by obtain ⟨m, hm⟩ := k3; exact DataW.trod_lt m _ _ _ hm
  have k4 := h4
  have lt4 : ∀ x ∈ p4, x.block < W.heap.size := by obtain ⟨m, hm⟩ := k4; exact DataW.trod_lt m _ _ _ hm
  obtain ⟨a0, len0, cap0, rfl⟩ := okWide_slice Tryf.underlying22 (hval 0 22 v0 rfl rfl)
  obtain ⟨z0, w0⟩ : ∃ zs, IsRow .u8 W a0 len0 cap0 zs := by
    obtain ⟨fuel, hf⟩ := h0
    rcases open_ints Tryf.underlying22 Tryf.underlying5 (by kernel_rfl) hf with ⟨hcs, _⟩ | ⟨x, l, c, zs, hcs, _, hl, hm, hz, _, hcell, hwz⟩
    · simp [Value.cells] at hcs
      obtain ⟨rfl, rfl, rfl⟩ := hcs
      exact ⟨[], .inl ⟨rfl, rfl, rfl, rfl⟩⟩
    · simp [Value.cells] at hcs
      obtain ⟨rfl, rfl, rfl⟩ := hcs
      exact ⟨zs, .inr ⟨_, rfl, hl, hm, by simpa using hz, hcell, hwz⟩⟩
  obtain ⟨a1, rfl, rfl, rfl, w1⟩ := open_int Tryf.underlying3 (hval 1 3 v1 rfl rfl) h1
  obtain ⟨a2, rfl, rfl, rfl, w2⟩ := open_string Tryf.underlying9 (hval 2 9 v2 rfl rfl) h2
  obtain ⟨a3, rfl, rfl, rfl, w3⟩ := open_int Tryf.underlying5 (hval 3 5 v3 rfl rfl) h3
  obtain ⟨a4, rfl, rfl, rfl, w4⟩ := open_int Tryf.underlying5 (hval 4 5 v4 rfl rfl) h4
  clear hA0 hval0
  refine (walk a0 len0 cap0 z0 a1 a2 a3 a4 W w0 w1 w2 w3 w4 (tabs_of hL) (fold_of hL)).mono fun e W' ⟨he, bel⟩ => ?_
  subst he
  exact ⟨_, rfl, _, _, _, [], _, [], hW', trodAll_mk1 (shut_bool Tryf.underlying4 _), (trodAll_cons_mk (Below.trod laidOut (by kernel_rfl) (of_decide_eq_true (by kernel_rfl)) k0 bel lt0) (trodAll_cons_mk (Below.trod laidOut (by kernel_rfl) (of_decide_eq_true (by kernel_rfl)) k1 bel lt1) (trodAll_cons_mk (Below.trod laidOut (by kernel_rfl) (of_decide_eq_true (by kernel_rfl)) k2 bel lt2) (trodAll_cons_mk (Below.trod laidOut (by kernel_rfl) (of_decide_eq_true (by kernel_rfl)) k3 bel lt3) (trodAll_cons_mk (Below.trod laidOut (by kernel_rfl) (of_decide_eq_true (by kernel_rfl)) k4 bel lt4) trodAll_mk0))))), rfl, bel.frame _, fun h => by cases h⟩

theorem stopsAre : Tryf.pinned.checked.prog.stops = ["fmt.Sprintf"] := by kernel_rfl
theorem stopKnobs : Tryf.pinned.checked.prog.stopKnobs = [] := by kernel_rfl
theorem quiet (os : Os) : Stop.quiet Tryf.pinned.checked.prog os := by
  intro k hk
  rw [stopKnobs] at hk
  cases hk

theorem proved : Rows.FnPrintQuotedWithQuoteWrappedRoundTripToldSaid :=
  Claim7.holds_of_told_tied_any_at .later 4 Tryf.f4 "fmt.Sprintf" [] [] _ _ _ [.data, .data, .data, .pinned, .pinned] true (by kernel_rfl) rfl rfl rfl laidOut (by kernel_rfl) rfl ⟨rfl, rfl, rfl, rfl, rfl, rfl, rfl⟩ rfl rfl (by kernel_rfl) (by kernel_rfl) Tryf.func4 (by kernel_rfl)
    (of_decide_eq_true (by kernel_rfl)) (of_decide_eq_true (by kernel_rfl)) stopsAre.symm rfl stopKnobs.symm (by kernel_rfl)
    (by kernel_rfl) (by kernel_rfl) (by kernel_rfl) (by kernel_rfl) (by kernel_rfl) (by kernel_rfl) (by kernel_rfl) (by kernel_rfl) (by kernel_rfl) rfl (by kernel_rfl) rfl rfl
    rfl rfl
    rfl (by kernel_rfl) (by kernel_rfl) (by kernel_rfl) (by decide) (by kernel_rfl) fnPrintQuotedWithQuoteWrappedRoundTrip_row_tie
    (OpenClaim.moreEntering_of (by kernel_rfl) (by kernel_rfl) (by kernel_rfl) (by kernel_rfl) (by kernel_rfl) (by kernel_rfl) (by kernel_rfl) (by kernel_rfl) (by kernel_rfl) (by kernel_rfl))
    ⟨_, WideRow.started_initial, quiet _⟩
    (fun os started _ H enc _ => lifted os started H enc)
#print axioms proved
end Go.Proofs.YtachkgmngahpoaaFmt.fnPrintQuotedWithQuoteWrappedRoundTrip