/- updateGeneratedLineAndColumn, of a builder that has no mapping yet. -/
import Derived.Test.YtgdcpladehcegaaDoorUpq
import Derived.Test.YtgdcpladehcegaaDoorApp
import Derived.WalkKit
import Derived.WalkSpells
import Derived.LoopTactic
import Derived.WalkMore
import Derived.Deep.Light
import Derived.Outline
import Derived.IntWalk
import Derived.ProofKit
import Derived.BigCall
import Derived.Laws.IdiomStrings
import Derived.Lib.BufferRead
namespace Go.Proofs.YtgdcpladehcegaaDoor
open Go.RowKit
set_option linter.unusedVariables false
set_option linter.unusedSimpArgs false
theorem u8I : (Tryd.prog.info? 5).map (fun i => (i.zero, i.size, i.bytes)) = some (some (.int .u8 0), 1, 1) := by kernel_rfl
theorem srcOne (W : World) (x : Value) (hx : x.oneCell' = true) : Src Tryd.prog 1 22 (.slice (some ⟨W.heap.size, 0, none⟩) 1 1) 1 [x] (W.alloc (.cells #[x] 5)) :=
  Src.ofSlice _ Tryd.underlying22 _ 1 1 [x] rfl (fun j u hu => by
    have hj : j < 1 := (List.getElem?_eq_some_iff.1 hu).1
    obtain rfl : j = 0 := by omega
    rw [← hu]
    exact (Blk.new W 5 #[x]).cell 0) (fun u hu => by
    obtain rfl : u = x := by simpa using hu
    exact hx)
theorem srcP (W : World) (p : Nat) (x : Value) (hx : x.oneCell' = true) (hp : p = W.heap.size) : Src Tryd.prog 1 22 (.slice (some ⟨p, 0, none⟩) 1 1) 1 [x] (W.alloc (.cells #[x] 5)) := by
  subst hp
  exact srcOne W x hx
theorem own_slice {w : World} {B e z n : Nat} {v : Value} {xs : List Value} (h : w.ownsRow B e z v n xs) : ∃ A c, v = .slice A n c := by
  rcases h.2 with ⟨rfl, rfl⟩ | ⟨g, cap, cur, rfl, _⟩
  · exact ⟨none, 0, rfl⟩
  · exact ⟨_, _, rfl⟩
/-- The part of the output from K on, as a string. -/
theorem cut_conv (w : World) {B n cap : Nat} {A : Option Addr} {s : ByteArray} (h : Out w B A n cap s) (K : Nat) (hK : K ≤ n) :
    ∃ A2 c2, (∀ W, (Instr.slice 22 (.slice A n cap) (some (.int .i64 (K : Int))) none none).run Tryd.prog W = .ok (.slice A2 (n - K) c2) W) ∧ (convert 22 9 (.slice A2 (n - K) c2)).run Tryd.prog w = .ok (.string (s.extract K n)) w := by
  have he : Tryd.prog.elem 22 = 5 := by kernel_rfl
  have hu : Tryd.prog.underlying 22 = some (.slice (Tryd.prog.elem 22)) := by kernel_rfl
  have hs : Tryd.prog.underlying 9 = some .string := by kernel_rfl
  have h8 : Tryd.prog.underlying 5 = some (.int .u8) := by kernel_rfl
  refine ⟨if cap = K then A else A.map (·.add K), cap - K, fun W => ?_, ?_⟩
  · rw [run_slice_l W 22 A n cap hu .i64 (K : Int) (by omega) (by omega), he, Tryd.sizeOf5]
    simp [sliced]
  · refine conv_piece w _ 5 (by rw [hu, he]) h8 h K hK 9 hs _ _ ?_
    have h1 := h.1
    by_cases hc : cap = K
    · rw [if_pos hc]
      exact .inl ⟨rfl, hc.symm⟩
    · rw [if_neg hc]
      rcases h.2.2 with ⟨rfl, h0⟩ | ⟨ob, rfl, _⟩
      · omega
      · refine .inr ⟨ob, rfl, ?_⟩
        by_cases h0 : K = 0
        · subst h0; simp [Addr.add]
        · simp [Addr.add, h0]
theorem UpdAt.start {s t : ByteArray} {B g k m : Nat} {im sm nm tb : Value} {pn : ByteArray} {pgl : Nat} {ploc : Int} {asc lsm cov : Bool} {w : World} (h : BS s B g im sm nm tb pn k (pos s k) pgl ploc asc lsm cov w) (hg : B ≤ g) (hk : k ≤ m) :
    UpdAt s t B g w.heap.size k m im nm tb pn pgl ploc asc cov sm.ownBlock w (w.iter t 0) k sm lsm :=
  ⟨Nat.le_refl _, hk, ⟨h.blk.alloc _, h.own.alloc _, h.cov_⟩, by rw [Nat.sub_self]; exact World.iter_heap w t 0, (Below.refl _ _).alloc (by have := h.blk.lt; omega) _, fun i hi _ _ => Below.heap_alloc w _ i hi, .inl rfl⟩

set_option maxHeartbeats 4000000 in
set_option maxRecDepth 100000 in
theorem upd_true (s : ByteArray) (B g k m : Nat) (im sm nm tb : Value) (pn : ByteArray) (pgl : Nat) (ploc : Int) (asc lsm : Bool) (A : Option Addr) (cap : Nat) (w : World) (hs : s.size ≤ 1048576) (hkm : k ≤ m)
    (hb : BS s B g im sm nm tb pn k (pos s k) pgl ploc asc lsm true w) (hgB : B ≤ g) (ho : Out w B A (pos s m) cap s) (hcl : Clean s (pos s m)) (hn : A = none → pos s m = 0) :
    Calls Tryd.prog 16 #[.pointer (some ⟨g, 0, none⟩), .slice A (pos s m) cap] w (UpdPost s B g m im nm tb pn pgl ploc asc true sm.ownBlock w) := by
  obtain ⟨r0, hr0⟩ : ∃ r, r = sm.ownBlock := ⟨_, rfl⟩
  rw [← hr0]
  obtain ⟨i0, hi0, hz0, hz1, hz2⟩ := info_parts u8I
  obtain ⟨A2, c2, hsl, hcv⟩ := cut_conv w ho (pos s k) (pos_mono s hkm)
  obtain ⟨t, ht⟩ : ∃ t, t = s.extract (pos s k) (pos s m) := ⟨_, rfl⟩
  rw [← ht] at hcv
  have hts : t.size = pos s m - pos s k := by rw [ht, piece_size _ _ _ (pos_le s m)]
  have HTt := Lib.hid ht
  obtain ⟨K, hK⟩ : ∃ K, K = pos s k := ⟨_, rfl⟩
  obtain ⟨M, hM⟩ : ∃ M, M = pos s m := ⟨_, rfl⟩
  have hKM : K ≤ M := by rw [hK, hM]; exact pos_mono s hkm
  have hMs : M ≤ s.size := by rw [hM]; exact pos_le s m
  rw [← hK, ← hM] at hts
  rw [← hM] at ho hcl hn ⊢
  have hc13 : w.cell? ⟨g, 13, none⟩ = some (.int .i64 (K : Int)) := by rw [hK]; exact hb.blk.cell 13
  rw [← hK, ← hM] at hsl hcv
  have HST : Hid (UpdAt s t B g w.heap.size k m im nm tb pn pgl ploc asc true r0 w (w.iter t 0) k sm lsm) := Lib.hid (by rw [hr0]; exact UpdAt.start hb hgB hkm)
  clear hr0
  have hqB : B ≤ w.heap.size := by have := hb.blk.lt; omega
  have HK := Lib.hid hK; have HM := Lib.hid hM; have HO := Lib.hid ho; have HCL := Lib.hid hcl; have HTS := Lib.hid hts; have HN := Lib.hid hn
  have hge : ∀ j, k ≤ j → K ≤ pos s j := fun j hj => by rw [hK]; exact pos_mono s hj
  have HGE := Lib.hid hge
  clear hK hM ht hts ho hcl hb hn hge
  go_enter Tryd.func16, Tryd.ntmps16
  go_wp2
  go_loopw [] (fun wr => ∃ (j : Nat) (sm : Value) (lsm : Bool), UpdAt s t B g w.heap.size k m im nm tb pn pgl ploc asc true r0 w wr j sm lsm) (fun wr => t.size - wr.iterPos w.heap.size)
  case atStart => exact ⟨k, sm, lsm, HST.out⟩
  case round =>
    obtain ⟨j, sm, lsm, hat⟩ := hrel
    obtain rfl := hat.bs.cov_ rfl
    obtain ⟨SA, SC, rfl⟩ := own_slice hat.bs.own
    have HAT := Lib.hid hat
    have hPK := HGE.out j hat.kj
    have hjm := hat.jm
    clear hat
    obtain ⟨P, hP⟩ : ∃ P, P = pos s j := ⟨_, rfl⟩
    have hit : wr.heap[w.heap.size]? = some (.stringIter t (P - K)) := by rw [hP, HK.out]; exact HAT.out.it
    rw [← hP] at hPK
    have HP := Lib.hid hP
    clear hP
    by_cases hlt : P < M
    · have hj : j < m := by
        rcases Nat.lt_or_ge j m with h1 | h1
        · exact h1
        · have h2 := pos_mono s h1
          rw [← HP.out, ← HM.out] at h2
          omega
      obtain ⟨c, wd, hd⟩ : ∃ c wd, Utf8.decode s P = (c, wd) := ⟨_, _, rfl⟩
      have hf := dec_facts s P c wd (by omega) hd
      have hps : pos s (j + 1) = P + wd := by
        have := pos_step s j c wd (by rw [← HP.out]; omega) (by rw [← HP.out]; exact hd)
        rw [this, HP.out]
      have hle1 : P + wd ≤ M := by rw [← hps, HM.out]; exact pos_mono s hj
      have hdt : Utf8.decode t (P - K) = (c, wd) := by
        have e : K + (P - K) = P := by omega
        rw [HTt.out, ← HK.out, ← HM.out]
        exact piece_dec s K M (P - K) c wd hMs (by omega) (by rw [e]; exact hd) (by omega)
      have hstep : lc s (j + 1) = lcStep s P c (lc s j) := by rw [HP.out]; exact lc_step s j c wd (by rw [← HP.out]; omega) (by rw [← HP.out]; exact hd)
      obtain ⟨x, hx⟩ : ∃ x, x = P - K := ⟨_, rfl⟩
      have hxK : K + x = P := by omega
      rw [← hx] at hdt hit
      have hnx : ∀ ty, (Instr.next (.pointer (some ⟨w.heap.size, 0, none⟩)) true ty).run Tryd.prog wr = .ok (.tuple #[.bool true, .int .i64 x, .int .i32 c]) (wr.iterAt w.heap.size t (x + wd)) := fun ty => by
        rw [Lib.run_next_any_at wr w.heap.size t x ty hit (by rw [HTS.out]; omega), hdt]
      have hi1 := HAT.out.next hqB (Nat.le_refl _) hj
      rw [hps, ← HK.out, show P + wd - K = x + wd by omega] at hi1
      obtain ⟨W1, hW1⟩ : ∃ W, W = wr.iterAt w.heap.size t (x + wd) := ⟨_, rfl⟩
      rw [← hW1] at hnx hi1
      have HI := Lib.hid hi1
      have HME : Hid (∀ W : World, W.heap[w.heap.size]? = some (.stringIter t (pos s (j + 1) - pos s k)) → t.size - W.iterPos w.heap.size < t.size - wr.iterPos w.heap.size) := Lib.hid (fun W hW => by
        simp only [World.iterPos, hW, hit]
        rw [HTS.out, hps, ← HK.out]
        omega)
      have hsW : B ≤ W1.heap.size := by have := hi1.bel.size; omega
      obtain ⟨l, hl⟩ : ∃ l, l = (lc s j).1 := ⟨_, rfl⟩
      obtain ⟨col, hcol⟩ : ∃ l, l = (lc s j).2 := ⟨_, rfl⟩
      have hll := lc_le s j
      rw [← hl, ← hcol, ← HP.out] at hll
      have HLn := Lib.hid hl; have HCol := Lib.hid hcol
      rw [← hl] at HI
      have hlc : lc s j = (l, col) := by rw [hl, hcol]
      rw [hlc] at hstep
      obtain ⟨l1, hl1⟩ : ∃ l1, l1 = l + 1 := ⟨_, rfl⟩
      have hwl : IntKind.i64.wrap ((l : Int) + 1) = (l1 : Int) := by rw [IntKind.wrap_i64]; omega
      have hwx : IntKind.i64.wrap ((K : Int) + (x : Int)) = (P : Int) := by rw [IntKind.wrap_i64]; omega
      have hcell : P + 1 < M → ∃ ob, A = some ⟨ob, 0, none⟩ ∧ W1.cell? ⟨ob, P + 1, none⟩ = some (.int .u8 (byteAt s (P + 1) : Nat)) := fun h1 => by
        have ho := HO.out.below hi1.bel
        rcases ho.2.2 with ⟨rfl, _⟩ | ⟨ob, rfl, _, hc⟩
        · have := HN.out rfl; omega
        · exact ⟨ob, rfl, hc _ h1⟩
      obtain ⟨P1, hP1⟩ : ∃ P1, P1 = P + 1 := ⟨_, rfl⟩
      have hw1 : IntKind.i64.wrap ((P : Int) + 1) = (P1 : Int) := by rw [IntKind.wrap_i64]; omega
      rw [← hP1] at hcell
      have hlook := fun h13 : c = 13 => clean_look s P M wd HCL.out hlt hMs (by rw [← h13]; exact hd)
      rw [← hP1] at hlook
      have HP1 := Lib.hid hP1; have HST1 := Lib.hid hstep; have HPS := Lib.hid hps; have HHD := Lib.hid hd; have HHL := Lib.hid hlc
      have HLOOK := Lib.hid hlook
      have hP1M : P1 ≤ M := by omega
      clear hstep hps hd hdt hit hi1 hlc hl hcol hW1 hlook hP1 hx
      have c1 : W1.cell? ⟨g, 1, none⟩ = some (.slice SA l SC) := HI.out.bs.blk.cell 1
      have c6 : W1.cell? ⟨g, 6, none⟩ = some (.int .i64 (l : Int)) := by rw [HLn.out]; exact HI.out.bs.blk.cell 6
      have c7 : W1.cell? ⟨g, 7, none⟩ = some (.int .i64 0) := HI.out.bs.blk.cell 7
      have c13 : W1.cell? ⟨g, 13, none⟩ = some (.int .i64 (K : Int)) := by rw [HK.out]; exact HI.out.bs.blk.cell 13
      have c14 : W1.cell? ⟨g, 14, none⟩ = some (.int .i64 (col : Int)) := by rw [HCol.out]; exact HI.out.bs.blk.cell 14
      have c18 : W1.cell? ⟨g, 18, none⟩ = some (.bool false) := HI.out.bs.blk.cell 18
      have c20 : W1.cell? ⟨g, 20, none⟩ = some (.bool false) := HI.out.bs.blk.cell 20
      have c21 : W1.cell? ⟨g, 21, none⟩ = some (.bool true) := HI.out.bs.blk.cell 21
      have z6 : W1.frozen? ⟨g, 6, none⟩ = false := HI.out.bs.blk.frozen 6
      have z7 : W1.frozen? ⟨g, 7, none⟩ = false := HI.out.bs.blk.frozen 7
      have z14 : W1.frozen? ⟨g, 14, none⟩ = false := HI.out.bs.blk.frozen 14
      have H3 : Hid ((((W1.setCell ⟨g, 6, none⟩ (.int .i64 (l1 : Int))).setCell ⟨g, 7, none⟩ (.int .i64 0)).setCell ⟨g, 14, none⟩ (.int .i64 0)).ownsRow B 5 1 (.slice SA l SC) l (semis l)) := Lib.hid (by have h := (HI.out.three l1).2; rw [← HLn.out] at h; exact h)
      have HL1 := Lib.hid hl1
      clear hl1
      by_cases ht : isTerm s P c
      · have htrm := fun (o : Obj) v' w2 => HI.out.term hgB hqB (show lc s (j + 1) = ((lc s j).1 + 1, 0) by rw [HST1.out, lcStep_term _ _ _ _ ht, HHL.out]) o v' w2
        rw [← HLn.out, ← HL1.out] at htrm
        have HTRM := Lib.hid htrm
        clear htrm
        by_cases h13 : c = 13
        · have hnl := (HLOOK.out h13).1 (by rw [← h13]; exact ht)
          have h13' : (c : Int) = 13 := by omega
          by_cases h1 : P1 < M
          · obtain ⟨ob, rfl, ho1⟩ := hcell h1
            obtain ⟨b1, hb1⟩ : ∃ b, b = byteAt s P1 := ⟨_, rfl⟩
            rw [← hb1] at ho1 hnl
            have hb10 : ((b1 : Int) == 10) = false := beq_eq_false_iff_ne.2 (fun e => hnl ⟨h1, by omega⟩)
            clear hb1 hnl hcell ht h13
            have g1 : (P1 : Int) < (M : Int) := by omega
            go_wp2_with (at_builtin; refine wpList_append_own_src _ rfl (.tmp 121) (.tmp 122) 22 22 rfl B 5 i0 (.int .u8 0) 1 1 Tryd.underlying22 hi0 hz0 hz1 hz2 rfl _ _ _ rfl (H3.out.alloc _) (.slice (some ⟨W1.heap.size, 0, none⟩) 1 1) 1 [.int .u8 59] rfl (srcP (((W1.setCell ⟨g, 6, none⟩ (.int .i64 (l1 : Int))).setCell ⟨g, 7, none⟩ (.int .i64 0)).setCell ⟨g, 14, none⟩ (.int .i64 0)) W1.heap.size (.int .u8 59) rfl (by simp [size_setCell])) (by unfold maxLen; omega) (by omega) (by simp [size_setCell]; omega) ?_)
            intro v' w2 hown' hgrow hat
            rw [← HL1.out] at hown'
            have HT := Lib.hid (HTRM.out _ _ _ hgrow hown' hat)
            have e1 : w2.cell? ⟨g, 1, none⟩ = some (.slice SA l SC) := HT.out.1.cell 1
            have z1 : w2.frozen? ⟨g, 1, none⟩ = false := HT.out.1.frozen 1
            have e20 : w2.cell? ⟨g, 20, none⟩ = some (.bool false) := HT.out.1.cell 20
            have z20 : w2.frozen? ⟨g, 20, none⟩ = false := HT.out.1.frozen 20
            obtain ⟨A2, c2, rfl⟩ := own_slice hown'
            clear hown' hgrow hat
            go_wp2
            go_roundw
            case rel => exact ⟨j + 1, _, _, HT.out.2⟩
            case measure => exact HME.out _ HT.out.2.it
          · have g1 : ¬ ((P1 : Int) < (M : Int)) := by omega
            clear hnl hcell ht h13 h1
            go_wp2_with (at_builtin; refine wpList_append_own_src _ rfl (.tmp 121) (.tmp 122) 22 22 rfl B 5 i0 (.int .u8 0) 1 1 Tryd.underlying22 hi0 hz0 hz1 hz2 rfl _ _ _ rfl (H3.out.alloc _) (.slice (some ⟨W1.heap.size, 0, none⟩) 1 1) 1 [.int .u8 59] rfl (srcP (((W1.setCell ⟨g, 6, none⟩ (.int .i64 (l1 : Int))).setCell ⟨g, 7, none⟩ (.int .i64 0)).setCell ⟨g, 14, none⟩ (.int .i64 0)) W1.heap.size (.int .u8 59) rfl (by simp [size_setCell])) (by unfold maxLen; omega) (by omega) (by simp [size_setCell]; omega) ?_)
            intro v' w2 hown' hgrow hat
            rw [← HL1.out] at hown'
            have HT := Lib.hid (HTRM.out _ _ _ hgrow hown' hat)
            have e1 : w2.cell? ⟨g, 1, none⟩ = some (.slice SA l SC) := HT.out.1.cell 1
            have z1 : w2.frozen? ⟨g, 1, none⟩ = false := HT.out.1.frozen 1
            have e20 : w2.cell? ⟨g, 20, none⟩ = some (.bool false) := HT.out.1.cell 20
            have z20 : w2.frozen? ⟨g, 20, none⟩ = false := HT.out.1.frozen 20
            obtain ⟨A2, c2, rfl⟩ := own_slice hown'
            clear hown' hgrow hat
            go_wp2
            go_roundw
            case rel => exact ⟨j + 1, _, _, HT.out.2⟩
            case measure => exact HME.out _ HT.out.2.it
        · have h4 : c = 10 ∨ c = 8232 ∨ c = 8233 := by
            rcases ht with h | h | h | h
            · exact .inl h
            · exact .inr (.inl h)
            · exact .inr (.inr h)
            · exact absurd h.1 h13
          clear hcell ht h13 HLOOK HHD
          rcases h4 with h4 | h4 | h4
          · have h4' : (c : Int) = 10 := by omega
            clear h4
            go_wp2_with (at_builtin; refine wpList_append_own_src _ rfl (.tmp 121) (.tmp 122) 22 22 rfl B 5 i0 (.int .u8 0) 1 1 Tryd.underlying22 hi0 hz0 hz1 hz2 rfl _ _ _ rfl (H3.out.alloc _) (.slice (some ⟨W1.heap.size, 0, none⟩) 1 1) 1 [.int .u8 59] rfl (srcP (((W1.setCell ⟨g, 6, none⟩ (.int .i64 (l1 : Int))).setCell ⟨g, 7, none⟩ (.int .i64 0)).setCell ⟨g, 14, none⟩ (.int .i64 0)) W1.heap.size (.int .u8 59) rfl (by simp [size_setCell])) (by unfold maxLen; omega) (by omega) (by simp [size_setCell]; omega) ?_)
            intro v' w2 hown' hgrow hat
            rw [← HL1.out] at hown'
            have HT := Lib.hid (HTRM.out _ _ _ hgrow hown' hat)
            have e1 : w2.cell? ⟨g, 1, none⟩ = some (.slice SA l SC) := HT.out.1.cell 1
            have z1 : w2.frozen? ⟨g, 1, none⟩ = false := HT.out.1.frozen 1
            have e20 : w2.cell? ⟨g, 20, none⟩ = some (.bool false) := HT.out.1.cell 20
            have z20 : w2.frozen? ⟨g, 20, none⟩ = false := HT.out.1.frozen 20
            obtain ⟨A2, c2, rfl⟩ := own_slice hown'
            clear hown' hgrow hat
            go_wp2
            go_roundw
            case rel => exact ⟨j + 1, _, _, HT.out.2⟩
            case measure => exact HME.out _ HT.out.2.it
          · have h4' : (c : Int) = 8232 := by omega
            clear h4
            go_wp2_with (at_builtin; refine wpList_append_own_src _ rfl (.tmp 121) (.tmp 122) 22 22 rfl B 5 i0 (.int .u8 0) 1 1 Tryd.underlying22 hi0 hz0 hz1 hz2 rfl _ _ _ rfl (H3.out.alloc _) (.slice (some ⟨W1.heap.size, 0, none⟩) 1 1) 1 [.int .u8 59] rfl (srcP (((W1.setCell ⟨g, 6, none⟩ (.int .i64 (l1 : Int))).setCell ⟨g, 7, none⟩ (.int .i64 0)).setCell ⟨g, 14, none⟩ (.int .i64 0)) W1.heap.size (.int .u8 59) rfl (by simp [size_setCell])) (by unfold maxLen; omega) (by omega) (by simp [size_setCell]; omega) ?_)
            intro v' w2 hown' hgrow hat
            rw [← HL1.out] at hown'
            have HT := Lib.hid (HTRM.out _ _ _ hgrow hown' hat)
            have e1 : w2.cell? ⟨g, 1, none⟩ = some (.slice SA l SC) := HT.out.1.cell 1
            have z1 : w2.frozen? ⟨g, 1, none⟩ = false := HT.out.1.frozen 1
            have e20 : w2.cell? ⟨g, 20, none⟩ = some (.bool false) := HT.out.1.cell 20
            have z20 : w2.frozen? ⟨g, 20, none⟩ = false := HT.out.1.frozen 20
            obtain ⟨A2, c2, rfl⟩ := own_slice hown'
            clear hown' hgrow hat
            go_wp2
            go_roundw
            case rel => exact ⟨j + 1, _, _, HT.out.2⟩
            case measure => exact HME.out _ HT.out.2.it
          · have h4' : (c : Int) = 8233 := by omega
            clear h4
            go_wp2_with (at_builtin; refine wpList_append_own_src _ rfl (.tmp 121) (.tmp 122) 22 22 rfl B 5 i0 (.int .u8 0) 1 1 Tryd.underlying22 hi0 hz0 hz1 hz2 rfl _ _ _ rfl (H3.out.alloc _) (.slice (some ⟨W1.heap.size, 0, none⟩) 1 1) 1 [.int .u8 59] rfl (srcP (((W1.setCell ⟨g, 6, none⟩ (.int .i64 (l1 : Int))).setCell ⟨g, 7, none⟩ (.int .i64 0)).setCell ⟨g, 14, none⟩ (.int .i64 0)) W1.heap.size (.int .u8 59) rfl (by simp [size_setCell])) (by unfold maxLen; omega) (by omega) (by simp [size_setCell]; omega) ?_)
            intro v' w2 hown' hgrow hat
            rw [← HL1.out] at hown'
            have HT := Lib.hid (HTRM.out _ _ _ hgrow hown' hat)
            have e1 : w2.cell? ⟨g, 1, none⟩ = some (.slice SA l SC) := HT.out.1.cell 1
            have z1 : w2.frozen? ⟨g, 1, none⟩ = false := HT.out.1.frozen 1
            have e20 : w2.cell? ⟨g, 20, none⟩ = some (.bool false) := HT.out.1.cell 20
            have z20 : w2.frozen? ⟨g, 20, none⟩ = false := HT.out.1.frozen 20
            obtain ⟨A2, c2, rfl⟩ := own_slice hown'
            clear hown' hgrow hat
            go_wp2
            go_roundw
            case rel => exact ⟨j + 1, _, _, HT.out.2⟩
            case measure => exact HME.out _ HT.out.2.it
      · by_cases h13 : c = 13
        · have hsk := HI.out.skip_ (show lc s (j + 1) = lc s j by rw [HST1.out, h13, lcStep_cr _ _ _ (by rw [← h13]; exact ht), HHL.out])
          have HSK := Lib.hid hsk
          have hnl : P1 < M ∧ byteAt s P1 = 10 := Classical.byContradiction fun hc => ht (by have := (HLOOK.out h13).2 hc; rw [h13]; exact this)
          have h13' : (c : Int) = 13 := by omega
          obtain ⟨h1, h10⟩ := hnl
          obtain ⟨ob, rfl, ho1⟩ := hcell h1
          rw [h10] at ho1
          have g1 : (P1 : Int) < (M : Int) := by omega
          have ho2 : W1.cell? ⟨ob, P1, none⟩ = some (.int .u8 10) := ho1
          clear hsk h10 h1 ho1 hcell ht h13
          go_wp2
          go_roundw
          case rel => exact ⟨j + 1, _, _, HSK.out⟩
          case measure => exact HME.out _ HSK.out.it
        · have hcl := fun x => HI.out.col hgB x
          rw [HST1.out, lcStep_else _ _ _ _ ht h13] at hcl
          rw [← HLn.out] at hcl
          have t13 : ((c : Int) == 13) = false := beq_eq_false_iff_ne.2 (by omega)
          have t10 : ((c : Int) == 10) = false := beq_eq_false_iff_ne.2 (fun e => ht (.inl (by omega)))
          have t28 : ((c : Int) == 8232) = false := beq_eq_false_iff_ne.2 (fun e => ht (.inr (.inl (by omega))))
          have t29 : ((c : Int) == 8233) = false := beq_eq_false_iff_ne.2 (fun e => ht (.inr (.inr (.inl (by omega)))))
          by_cases hu : c ≤ 65535
          · have hw14 : IntKind.i64.wrap ((col : Int) + 1) = ((col + 1 : Nat) : Int) := by rw [IntKind.wrap_i64]; omega
            have HC := Lib.hid (hcl (col + 1) (by unfold units; rw [if_pos hu]))
            have hu' : (c : Int) ≤ 65535 := by omega
            clear hcl hcell ht h13 hu
            go_wp2
            go_roundw
            case rel => exact ⟨j + 1, _, _, HC.out⟩
            case measure => exact HME.out _ HC.out.it
          · have hw14 : IntKind.i64.wrap ((col : Int) + 2) = ((col + 2 : Nat) : Int) := by rw [IntKind.wrap_i64]; omega
            have HC := Lib.hid (hcl (col + 2) (by unfold units; rw [if_neg hu]))
            have hu' : ¬ (c : Int) ≤ 65535 := by omega
            clear hcl hcell ht h13 hu
            go_wp2
            go_roundw
            case rel => exact ⟨j + 1, _, _, HC.out⟩
            case measure => exact HME.out _ HC.out.it
    · have hnx : ∀ ty, (Instr.next (.pointer (some ⟨w.heap.size, 0, none⟩)) true ty).run Tryd.prog wr = .ok (.tuple #[.bool false]) wr := fun ty => Lib.run_next_end_at wr w.heap.size t (P - K) ty hit (by rw [HTS.out]; omega)
      have hPM : pos s j = pos s m := by
        have := pos_mono s hjm
        rw [← HP.out, ← HM.out] at this ⊢
        omega
      have HE := Lib.hid (HAT.out.end_ hgB hPM)
      rw [← HM.out] at HE
      have c13 : wr.cell? ⟨g, 13, none⟩ = some (.int .i64 (pos s k : Nat)) := HAT.out.bs.blk.cell 13
      have z13 : wr.frozen? ⟨g, 13, none⟩ = false := HAT.out.bs.blk.frozen 13
      clear hPM hit hlt
      go_wp2
      go_end0
      exact HE.out

set_option maxHeartbeats 4000000 in
set_option maxRecDepth 100000 in
theorem upd_false (s : ByteArray) (B g k m : Nat) (im sm nm tb : Value) (pn : ByteArray) (pgl : Nat) (ploc : Int) (asc lsm : Bool) (A : Option Addr) (cap : Nat) (w : World) (hs : s.size ≤ 1048576) (hkm : k ≤ m)
    (hb : BS s B g im sm nm tb pn k (pos s k) pgl ploc asc lsm false w) (hgB : B ≤ g) (ho : Out w B A (pos s m) cap s) (hcl : Clean s (pos s m)) (hn : A = none → pos s m = 0) :
    Calls Tryd.prog 16 #[.pointer (some ⟨g, 0, none⟩), .slice A (pos s m) cap] w (UpdPost s B g m im nm tb pn pgl ploc asc false sm.ownBlock w) := by
  obtain ⟨r0, hr0⟩ : ∃ r, r = sm.ownBlock := ⟨_, rfl⟩
  rw [← hr0]
  obtain ⟨i0, hi0, hz0, hz1, hz2⟩ := info_parts u8I
  obtain ⟨A2, c2, hsl, hcv⟩ := cut_conv w ho (pos s k) (pos_mono s hkm)
  obtain ⟨t, ht⟩ : ∃ t, t = s.extract (pos s k) (pos s m) := ⟨_, rfl⟩
  rw [← ht] at hcv
  have hts : t.size = pos s m - pos s k := by rw [ht, piece_size _ _ _ (pos_le s m)]
  have HTt := Lib.hid ht
  obtain ⟨K, hK⟩ : ∃ K, K = pos s k := ⟨_, rfl⟩
  obtain ⟨M, hM⟩ : ∃ M, M = pos s m := ⟨_, rfl⟩
  have hKM : K ≤ M := by rw [hK, hM]; exact pos_mono s hkm
  have hMs : M ≤ s.size := by rw [hM]; exact pos_le s m
  rw [← hK, ← hM] at hts
  rw [← hM] at ho hcl hn ⊢
  have hc13 : w.cell? ⟨g, 13, none⟩ = some (.int .i64 (K : Int)) := by rw [hK]; exact hb.blk.cell 13
  rw [← hK, ← hM] at hsl hcv
  have HST : Hid (UpdAt s t B g w.heap.size k m im nm tb pn pgl ploc asc false r0 w (w.iter t 0) k sm lsm) := Lib.hid (by rw [hr0]; exact UpdAt.start hb hgB hkm)
  clear hr0
  have hqB : B ≤ w.heap.size := by have := hb.blk.lt; omega
  have HK := Lib.hid hK; have HM := Lib.hid hM; have HO := Lib.hid ho; have HCL := Lib.hid hcl; have HTS := Lib.hid hts; have HN := Lib.hid hn
  have hge : ∀ j, k ≤ j → K ≤ pos s j := fun j hj => by rw [hK]; exact pos_mono s hj
  have HGE := Lib.hid hge
  clear hK hM ht hts ho hcl hb hn hge
  go_enter Tryd.func16, Tryd.ntmps16
  go_wp2
  go_loopw [] (fun wr => ∃ (j : Nat) (sm : Value) (lsm : Bool), UpdAt s t B g w.heap.size k m im nm tb pn pgl ploc asc false r0 w wr j sm lsm) (fun wr => t.size - wr.iterPos w.heap.size)
  case atStart => exact ⟨k, sm, lsm, HST.out⟩
  case round =>
    obtain ⟨j, sm, lsm, hat⟩ := hrel
    
    obtain ⟨SA, SC, rfl⟩ := own_slice hat.bs.own
    have HAT := Lib.hid hat
    have hPK := HGE.out j hat.kj
    have hjm := hat.jm
    clear hat
    obtain ⟨P, hP⟩ : ∃ P, P = pos s j := ⟨_, rfl⟩
    have hit : wr.heap[w.heap.size]? = some (.stringIter t (P - K)) := by rw [hP, HK.out]; exact HAT.out.it
    rw [← hP] at hPK
    have HP := Lib.hid hP
    clear hP
    by_cases hlt : P < M
    · have hj : j < m := by
        rcases Nat.lt_or_ge j m with h1 | h1
        · exact h1
        · have h2 := pos_mono s h1
          rw [← HP.out, ← HM.out] at h2
          omega
      obtain ⟨c, wd, hd⟩ : ∃ c wd, Utf8.decode s P = (c, wd) := ⟨_, _, rfl⟩
      have hf := dec_facts s P c wd (by omega) hd
      have hps : pos s (j + 1) = P + wd := by
        have := pos_step s j c wd (by rw [← HP.out]; omega) (by rw [← HP.out]; exact hd)
        rw [this, HP.out]
      have hle1 : P + wd ≤ M := by rw [← hps, HM.out]; exact pos_mono s hj
      have hdt : Utf8.decode t (P - K) = (c, wd) := by
        have e : K + (P - K) = P := by omega
        rw [HTt.out, ← HK.out, ← HM.out]
        exact piece_dec s K M (P - K) c wd hMs (by omega) (by rw [e]; exact hd) (by omega)
      have hstep : lc s (j + 1) = lcStep s P c (lc s j) := by rw [HP.out]; exact lc_step s j c wd (by rw [← HP.out]; omega) (by rw [← HP.out]; exact hd)
      obtain ⟨x, hx⟩ : ∃ x, x = P - K := ⟨_, rfl⟩
      have hxK : K + x = P := by omega
      rw [← hx] at hdt hit
      have hnx : ∀ ty, (Instr.next (.pointer (some ⟨w.heap.size, 0, none⟩)) true ty).run Tryd.prog wr = .ok (.tuple #[.bool true, .int .i64 x, .int .i32 c]) (wr.iterAt w.heap.size t (x + wd)) := fun ty => by
        rw [Lib.run_next_any_at wr w.heap.size t x ty hit (by rw [HTS.out]; omega), hdt]
      have hi1 := HAT.out.next hqB (Nat.le_refl _) hj
      rw [hps, ← HK.out, show P + wd - K = x + wd by omega] at hi1
      obtain ⟨W1, hW1⟩ : ∃ W, W = wr.iterAt w.heap.size t (x + wd) := ⟨_, rfl⟩
      rw [← hW1] at hnx hi1
      have HI := Lib.hid hi1
      have HME : Hid (∀ W : World, W.heap[w.heap.size]? = some (.stringIter t (pos s (j + 1) - pos s k)) → t.size - W.iterPos w.heap.size < t.size - wr.iterPos w.heap.size) := Lib.hid (fun W hW => by
        simp only [World.iterPos, hW, hit]
        rw [HTS.out, hps, ← HK.out]
        omega)
      have hsW : B ≤ W1.heap.size := by have := hi1.bel.size; omega
      obtain ⟨l, hl⟩ : ∃ l, l = (lc s j).1 := ⟨_, rfl⟩
      obtain ⟨col, hcol⟩ : ∃ l, l = (lc s j).2 := ⟨_, rfl⟩
      have hll := lc_le s j
      rw [← hl, ← hcol, ← HP.out] at hll
      have HLn := Lib.hid hl; have HCol := Lib.hid hcol
      rw [← hl] at HI
      have hlc : lc s j = (l, col) := by rw [hl, hcol]
      rw [hlc] at hstep
      obtain ⟨l1, hl1⟩ : ∃ l1, l1 = l + 1 := ⟨_, rfl⟩
      have hwl : IntKind.i64.wrap ((l : Int) + 1) = (l1 : Int) := by rw [IntKind.wrap_i64]; omega
      have hwx : IntKind.i64.wrap ((K : Int) + (x : Int)) = (P : Int) := by rw [IntKind.wrap_i64]; omega
      have hcell : P + 1 < M → ∃ ob, A = some ⟨ob, 0, none⟩ ∧ W1.cell? ⟨ob, P + 1, none⟩ = some (.int .u8 (byteAt s (P + 1) : Nat)) := fun h1 => by
        have ho := HO.out.below hi1.bel
        rcases ho.2.2 with ⟨rfl, _⟩ | ⟨ob, rfl, _, hc⟩
        · have := HN.out rfl; omega
        · exact ⟨ob, rfl, hc _ h1⟩
      obtain ⟨P1, hP1⟩ : ∃ P1, P1 = P + 1 := ⟨_, rfl⟩
      have hw1 : IntKind.i64.wrap ((P : Int) + 1) = (P1 : Int) := by rw [IntKind.wrap_i64]; omega
      rw [← hP1] at hcell
      have hlook := fun h13 : c = 13 => clean_look s P M wd HCL.out hlt hMs (by rw [← h13]; exact hd)
      rw [← hP1] at hlook
      have HP1 := Lib.hid hP1; have HST1 := Lib.hid hstep; have HPS := Lib.hid hps; have HHD := Lib.hid hd; have HHL := Lib.hid hlc
      have HLOOK := Lib.hid hlook
      have hP1M : P1 ≤ M := by omega
      clear hstep hps hd hdt hit hi1 hlc hl hcol hW1 hlook hP1 hx
      have c1 : W1.cell? ⟨g, 1, none⟩ = some (.slice SA l SC) := HI.out.bs.blk.cell 1
      have c6 : W1.cell? ⟨g, 6, none⟩ = some (.int .i64 (l : Int)) := by rw [HLn.out]; exact HI.out.bs.blk.cell 6
      have c7 : W1.cell? ⟨g, 7, none⟩ = some (.int .i64 0) := HI.out.bs.blk.cell 7
      have c13 : W1.cell? ⟨g, 13, none⟩ = some (.int .i64 (K : Int)) := by rw [HK.out]; exact HI.out.bs.blk.cell 13
      have c14 : W1.cell? ⟨g, 14, none⟩ = some (.int .i64 (col : Int)) := by rw [HCol.out]; exact HI.out.bs.blk.cell 14
      have c18 : W1.cell? ⟨g, 18, none⟩ = some (.bool false) := HI.out.bs.blk.cell 18
      have c20 : W1.cell? ⟨g, 20, none⟩ = some (.bool lsm) := HI.out.bs.blk.cell 20
      have c21 : W1.cell? ⟨g, 21, none⟩ = some (.bool false) := HI.out.bs.blk.cell 21
      have z6 : W1.frozen? ⟨g, 6, none⟩ = false := HI.out.bs.blk.frozen 6
      have z7 : W1.frozen? ⟨g, 7, none⟩ = false := HI.out.bs.blk.frozen 7
      have z14 : W1.frozen? ⟨g, 14, none⟩ = false := HI.out.bs.blk.frozen 14
      have H3 : Hid ((((W1.setCell ⟨g, 6, none⟩ (.int .i64 (l1 : Int))).setCell ⟨g, 7, none⟩ (.int .i64 0)).setCell ⟨g, 14, none⟩ (.int .i64 0)).ownsRow B 5 1 (.slice SA l SC) l (semis l)) := Lib.hid (by have h := (HI.out.three l1).2; rw [← HLn.out] at h; exact h)
      have HL1 := Lib.hid hl1
      clear hl1
      by_cases ht : isTerm s P c
      · have htrm := fun (o : Obj) v' w2 => HI.out.term hgB hqB (show lc s (j + 1) = ((lc s j).1 + 1, 0) by rw [HST1.out, lcStep_term _ _ _ _ ht, HHL.out]) o v' w2
        rw [← HLn.out, ← HL1.out] at htrm
        have HTRM := Lib.hid htrm
        clear htrm
        by_cases h13 : c = 13
        · have hnl := (HLOOK.out h13).1 (by rw [← h13]; exact ht)
          have h13' : (c : Int) = 13 := by omega
          by_cases h1 : P1 < M
          · obtain ⟨ob, rfl, ho1⟩ := hcell h1
            obtain ⟨b1, hb1⟩ : ∃ b, b = byteAt s P1 := ⟨_, rfl⟩
            rw [← hb1] at ho1 hnl
            have hb10 : ((b1 : Int) == 10) = false := beq_eq_false_iff_ne.2 (fun e => hnl ⟨h1, by omega⟩)
            clear hb1 hnl hcell ht h13
            have g1 : (P1 : Int) < (M : Int) := by omega
            go_wp2_with (at_builtin; refine wpList_append_own_src _ rfl (.tmp 121) (.tmp 122) 22 22 rfl B 5 i0 (.int .u8 0) 1 1 Tryd.underlying22 hi0 hz0 hz1 hz2 rfl _ _ _ rfl (H3.out.alloc _) (.slice (some ⟨W1.heap.size, 0, none⟩) 1 1) 1 [.int .u8 59] rfl (srcP (((W1.setCell ⟨g, 6, none⟩ (.int .i64 (l1 : Int))).setCell ⟨g, 7, none⟩ (.int .i64 0)).setCell ⟨g, 14, none⟩ (.int .i64 0)) W1.heap.size (.int .u8 59) rfl (by simp [size_setCell])) (by unfold maxLen; omega) (by omega) (by simp [size_setCell]; omega) ?_)
            intro v' w2 hown' hgrow hat
            rw [← HL1.out] at hown'
            have HT := Lib.hid (HTRM.out _ _ _ hgrow hown' hat)
            have e1 : w2.cell? ⟨g, 1, none⟩ = some (.slice SA l SC) := HT.out.1.cell 1
            have z1 : w2.frozen? ⟨g, 1, none⟩ = false := HT.out.1.frozen 1
            have e20 : w2.cell? ⟨g, 20, none⟩ = some (.bool lsm) := HT.out.1.cell 20
            have z20 : w2.frozen? ⟨g, 20, none⟩ = false := HT.out.1.frozen 20
            obtain ⟨A2, c2, rfl⟩ := own_slice hown'
            clear hown' hgrow hat
            go_wp2
            go_roundw
            case rel => exact ⟨j + 1, _, _, HT.out.2⟩
            case measure => exact HME.out _ HT.out.2.it
          · have g1 : ¬ ((P1 : Int) < (M : Int)) := by omega
            clear hnl hcell ht h13 h1
            go_wp2_with (at_builtin; refine wpList_append_own_src _ rfl (.tmp 121) (.tmp 122) 22 22 rfl B 5 i0 (.int .u8 0) 1 1 Tryd.underlying22 hi0 hz0 hz1 hz2 rfl _ _ _ rfl (H3.out.alloc _) (.slice (some ⟨W1.heap.size, 0, none⟩) 1 1) 1 [.int .u8 59] rfl (srcP (((W1.setCell ⟨g, 6, none⟩ (.int .i64 (l1 : Int))).setCell ⟨g, 7, none⟩ (.int .i64 0)).setCell ⟨g, 14, none⟩ (.int .i64 0)) W1.heap.size (.int .u8 59) rfl (by simp [size_setCell])) (by unfold maxLen; omega) (by omega) (by simp [size_setCell]; omega) ?_)
            intro v' w2 hown' hgrow hat
            rw [← HL1.out] at hown'
            have HT := Lib.hid (HTRM.out _ _ _ hgrow hown' hat)
            have e1 : w2.cell? ⟨g, 1, none⟩ = some (.slice SA l SC) := HT.out.1.cell 1
            have z1 : w2.frozen? ⟨g, 1, none⟩ = false := HT.out.1.frozen 1
            have e20 : w2.cell? ⟨g, 20, none⟩ = some (.bool lsm) := HT.out.1.cell 20
            have z20 : w2.frozen? ⟨g, 20, none⟩ = false := HT.out.1.frozen 20
            obtain ⟨A2, c2, rfl⟩ := own_slice hown'
            clear hown' hgrow hat
            go_wp2
            go_roundw
            case rel => exact ⟨j + 1, _, _, HT.out.2⟩
            case measure => exact HME.out _ HT.out.2.it
        · have h4 : c = 10 ∨ c = 8232 ∨ c = 8233 := by
            rcases ht with h | h | h | h
            · exact .inl h
            · exact .inr (.inl h)
            · exact .inr (.inr h)
            · exact absurd h.1 h13
          clear hcell ht h13 HLOOK HHD
          rcases h4 with h4 | h4 | h4
          · have h4' : (c : Int) = 10 := by omega
            clear h4
            go_wp2_with (at_builtin; refine wpList_append_own_src _ rfl (.tmp 121) (.tmp 122) 22 22 rfl B 5 i0 (.int .u8 0) 1 1 Tryd.underlying22 hi0 hz0 hz1 hz2 rfl _ _ _ rfl (H3.out.alloc _) (.slice (some ⟨W1.heap.size, 0, none⟩) 1 1) 1 [.int .u8 59] rfl (srcP (((W1.setCell ⟨g, 6, none⟩ (.int .i64 (l1 : Int))).setCell ⟨g, 7, none⟩ (.int .i64 0)).setCell ⟨g, 14, none⟩ (.int .i64 0)) W1.heap.size (.int .u8 59) rfl (by simp [size_setCell])) (by unfold maxLen; omega) (by omega) (by simp [size_setCell]; omega) ?_)
            intro v' w2 hown' hgrow hat
            rw [← HL1.out] at hown'
            have HT := Lib.hid (HTRM.out _ _ _ hgrow hown' hat)
            have e1 : w2.cell? ⟨g, 1, none⟩ = some (.slice SA l SC) := HT.out.1.cell 1
            have z1 : w2.frozen? ⟨g, 1, none⟩ = false := HT.out.1.frozen 1
            have e20 : w2.cell? ⟨g, 20, none⟩ = some (.bool lsm) := HT.out.1.cell 20
            have z20 : w2.frozen? ⟨g, 20, none⟩ = false := HT.out.1.frozen 20
            obtain ⟨A2, c2, rfl⟩ := own_slice hown'
            clear hown' hgrow hat
            go_wp2
            go_roundw
            case rel => exact ⟨j + 1, _, _, HT.out.2⟩
            case measure => exact HME.out _ HT.out.2.it
          · have h4' : (c : Int) = 8232 := by omega
            clear h4
            go_wp2_with (at_builtin; refine wpList_append_own_src _ rfl (.tmp 121) (.tmp 122) 22 22 rfl B 5 i0 (.int .u8 0) 1 1 Tryd.underlying22 hi0 hz0 hz1 hz2 rfl _ _ _ rfl (H3.out.alloc _) (.slice (some ⟨W1.heap.size, 0, none⟩) 1 1) 1 [.int .u8 59] rfl (srcP (((W1.setCell ⟨g, 6, none⟩ (.int .i64 (l1 : Int))).setCell ⟨g, 7, none⟩ (.int .i64 0)).setCell ⟨g, 14, none⟩ (.int .i64 0)) W1.heap.size (.int .u8 59) rfl (by simp [size_setCell])) (by unfold maxLen; omega) (by omega) (by simp [size_setCell]; omega) ?_)
            intro v' w2 hown' hgrow hat
            rw [← HL1.out] at hown'
            have HT := Lib.hid (HTRM.out _ _ _ hgrow hown' hat)
            have e1 : w2.cell? ⟨g, 1, none⟩ = some (.slice SA l SC) := HT.out.1.cell 1
            have z1 : w2.frozen? ⟨g, 1, none⟩ = false := HT.out.1.frozen 1
            have e20 : w2.cell? ⟨g, 20, none⟩ = some (.bool lsm) := HT.out.1.cell 20
            have z20 : w2.frozen? ⟨g, 20, none⟩ = false := HT.out.1.frozen 20
            obtain ⟨A2, c2, rfl⟩ := own_slice hown'
            clear hown' hgrow hat
            go_wp2
            go_roundw
            case rel => exact ⟨j + 1, _, _, HT.out.2⟩
            case measure => exact HME.out _ HT.out.2.it
          · have h4' : (c : Int) = 8233 := by omega
            clear h4
            go_wp2_with (at_builtin; refine wpList_append_own_src _ rfl (.tmp 121) (.tmp 122) 22 22 rfl B 5 i0 (.int .u8 0) 1 1 Tryd.underlying22 hi0 hz0 hz1 hz2 rfl _ _ _ rfl (H3.out.alloc _) (.slice (some ⟨W1.heap.size, 0, none⟩) 1 1) 1 [.int .u8 59] rfl (srcP (((W1.setCell ⟨g, 6, none⟩ (.int .i64 (l1 : Int))).setCell ⟨g, 7, none⟩ (.int .i64 0)).setCell ⟨g, 14, none⟩ (.int .i64 0)) W1.heap.size (.int .u8 59) rfl (by simp [size_setCell])) (by unfold maxLen; omega) (by omega) (by simp [size_setCell]; omega) ?_)
            intro v' w2 hown' hgrow hat
            rw [← HL1.out] at hown'
            have HT := Lib.hid (HTRM.out _ _ _ hgrow hown' hat)
            have e1 : w2.cell? ⟨g, 1, none⟩ = some (.slice SA l SC) := HT.out.1.cell 1
            have z1 : w2.frozen? ⟨g, 1, none⟩ = false := HT.out.1.frozen 1
            have e20 : w2.cell? ⟨g, 20, none⟩ = some (.bool lsm) := HT.out.1.cell 20
            have z20 : w2.frozen? ⟨g, 20, none⟩ = false := HT.out.1.frozen 20
            obtain ⟨A2, c2, rfl⟩ := own_slice hown'
            clear hown' hgrow hat
            go_wp2
            go_roundw
            case rel => exact ⟨j + 1, _, _, HT.out.2⟩
            case measure => exact HME.out _ HT.out.2.it
      · by_cases h13 : c = 13
        · have hsk := HI.out.skip_ (show lc s (j + 1) = lc s j by rw [HST1.out, h13, lcStep_cr _ _ _ (by rw [← h13]; exact ht), HHL.out])
          have HSK := Lib.hid hsk
          have hnl : P1 < M ∧ byteAt s P1 = 10 := Classical.byContradiction fun hc => ht (by have := (HLOOK.out h13).2 hc; rw [h13]; exact this)
          have h13' : (c : Int) = 13 := by omega
          obtain ⟨h1, h10⟩ := hnl
          obtain ⟨ob, rfl, ho1⟩ := hcell h1
          rw [h10] at ho1
          have g1 : (P1 : Int) < (M : Int) := by omega
          have ho2 : W1.cell? ⟨ob, P1, none⟩ = some (.int .u8 10) := ho1
          clear hsk h10 h1 ho1 hcell ht h13
          go_wp2
          go_roundw
          case rel => exact ⟨j + 1, _, _, HSK.out⟩
          case measure => exact HME.out _ HSK.out.it
        · have hcl := fun x => HI.out.col hgB x
          rw [HST1.out, lcStep_else _ _ _ _ ht h13] at hcl
          rw [← HLn.out] at hcl
          have t13 : ((c : Int) == 13) = false := beq_eq_false_iff_ne.2 (by omega)
          have t10 : ((c : Int) == 10) = false := beq_eq_false_iff_ne.2 (fun e => ht (.inl (by omega)))
          have t28 : ((c : Int) == 8232) = false := beq_eq_false_iff_ne.2 (fun e => ht (.inr (.inl (by omega))))
          have t29 : ((c : Int) == 8233) = false := beq_eq_false_iff_ne.2 (fun e => ht (.inr (.inr (.inl (by omega)))))
          by_cases hu : c ≤ 65535
          · have hw14 : IntKind.i64.wrap ((col : Int) + 1) = ((col + 1 : Nat) : Int) := by rw [IntKind.wrap_i64]; omega
            have HC := Lib.hid (hcl (col + 1) (by unfold units; rw [if_pos hu]))
            have hu' : (c : Int) ≤ 65535 := by omega
            clear hcl hcell ht h13 hu
            go_wp2
            go_roundw
            case rel => exact ⟨j + 1, _, _, HC.out⟩
            case measure => exact HME.out _ HC.out.it
          · have hw14 : IntKind.i64.wrap ((col : Int) + 2) = ((col + 2 : Nat) : Int) := by rw [IntKind.wrap_i64]; omega
            have HC := Lib.hid (hcl (col + 2) (by unfold units; rw [if_neg hu]))
            have hu' : ¬ (c : Int) ≤ 65535 := by omega
            clear hcl hcell ht h13 hu
            go_wp2
            go_roundw
            case rel => exact ⟨j + 1, _, _, HC.out⟩
            case measure => exact HME.out _ HC.out.it
    · have hnx : ∀ ty, (Instr.next (.pointer (some ⟨w.heap.size, 0, none⟩)) true ty).run Tryd.prog wr = .ok (.tuple #[.bool false]) wr := fun ty => Lib.run_next_end_at wr w.heap.size t (P - K) ty hit (by rw [HTS.out]; omega)
      have hPM : pos s j = pos s m := by
        have := pos_mono s hjm
        rw [← HP.out, ← HM.out] at this ⊢
        omega
      have HE := Lib.hid (HAT.out.end_ hgB hPM)
      rw [← HM.out] at HE
      have c13 : wr.cell? ⟨g, 13, none⟩ = some (.int .i64 (pos s k : Nat)) := HAT.out.bs.blk.cell 13
      have z13 : wr.frozen? ⟨g, 13, none⟩ = false := HAT.out.bs.blk.frozen 13
      clear hPM hit hlt
      go_wp2
      go_end0
      exact HE.out
end Go.Proofs.YtgdcpladehcegaaDoor
