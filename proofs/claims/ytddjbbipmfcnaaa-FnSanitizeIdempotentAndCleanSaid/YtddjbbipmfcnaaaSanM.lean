/- The walk of the law's own model of the sanitizer. -/
import Derived.Test.YtddjbbipmfcnaaaSanW
namespace Go.Proofs.Ytddjbbipmfcnaaa
open Go.RowKit
set_option linter.unusedVariables false
set_option linter.unusedSimpArgs false

theorem own_shape {w : World} {B : Nat} {e : TypeId} {v : Value} {n : Nat} {xs : List Value} (h : w.ownsRow B e 1 v n xs) : ∃ A c, v = .slice A n c ∧ (A = none → n = 0) := by
  rcases h.2 with ⟨rfl, rfl⟩ | ⟨g, cap, cur, rfl, _⟩
  · exact ⟨none, 0, rfl, fun _ => rfl⟩
  · exact ⟨some ⟨g, 0, none⟩, cap, rfl, fun h => by cases h⟩
theorem own_src {P : Program} {w : World} {B : Nat} {e tx e' : TypeId} {A : Option Addr} {n c : Nat} {xs : List Value} (hk : P.underlying tx = some (.slice e')) (h : w.ownsRow B e 1 (.slice A n c) n xs) (h1 : ∀ u ∈ xs, u.oneCell' = true) : Src P 1 tx (.slice A n c) n xs w := by
  refine Reads.src w (B := w.heap.size) hk (Reads.of_own h) h1 ?_
  obtain ⟨A', c', e1, e2⟩ := own_shape h
  injection e1 with e1
  subst e1
  exact e2
theorem byteCells_one (l : List UInt8) : ∀ u ∈ Lib.byteCells l, u.oneCell' = true := by
  intro u hu
  unfold Lib.byteCells at hu
  obtain ⟨b, _, rfl⟩ := List.mem_map.1 hu
  rfl
theorem byteCells_95 : Lib.byteCells [95] = [.int .u8 95] := rfl

set_option maxHeartbeats 1000000 in
set_option maxRecDepth 100000 in
theorem flush_any (B : Nat) (vo vr : Value) (o r : List UInt8) (w : World) (ho : w.ownsRow B 5 1 vo o.length (Lib.byteCells o)) (hr : w.ownsRow B 5 1 vr r.length (Lib.byteCells r)) (hne : vr.ownBlock = none ∨ vr.ownBlock ≠ vo.ownBlock)
    (hlen : o.length + r.length + 1 ≤ 1073741824) (hB : B ≤ w.heap.size) :
    Calls Try.prog 14 #[vo, vr] w fun e w' => ∃ v', e = .returned v' ∧ w'.ownsRow B 5 1 v' (flush o r).length (Lib.byteCells (flush o r)) ∧ Below B w w' := by
  obtain ⟨i0, hi, hz0, hz1, hz2⟩ := info_parts byteInfo
  obtain ⟨Ao, co, rfl, hAo⟩ := own_shape ho
  obtain ⟨Ar, cr, rfl, hAr⟩ := own_shape hr
  by_cases h1 : r = []
  · have t1 : ((r.length : Int) == 0) = true := by simp [h1]
    have e : flush o r = o := by simp [flush, h1]
    have E := Lib.hid e
    clear h1 e
    go_enter Try.func14, Try.ntmps14
    go_wp2
    go_ret
    rw [E.out]
    exact ⟨_, rfl, ho, Below.refl _ _⟩
  · have hr0 : r.length ≠ 0 := fun h => h1 (List.eq_nil_of_length_eq_zero h)
    have t1 : ((r.length : Int) == 0) = false := by simp; omega
    by_cases h2 : o = []
    · have t2 : ¬ 0 < o.length := by simp [h2]
      have t3 : decide (0 < o.length) = false := by simp [h2]
      have e : flush o r = o ++ r := by simp [flush, h1, h2]
      have E := Lib.hid e
      clear h1 h2 e
      go_enter Try.func14, Try.ntmps14
      go_wp2_with (at_builtin; refine wpList_append_own_src _ rfl (.tmp 15) (.tmp 16) _ _ rfl B 5 i0 (.int .u8 0) 1 1 Try.underlying25 hi hz0 hz1 hz2 rfl _ _ _ rfl ho _ _ _ rfl (own_src Try.underlying25 hr (byteCells_one r)) ?c1 ?c2 hB ?_)
      case c1 => unfold maxLen; omega
      case c2 => omega
      intro v' w1 hown hg hat
      go_wp2
      go_ret
      rw [E.out]
      refine ⟨v', rfl, ?_, (Below.refl B w).grown hg hB (fun k hk => (ho.lt k hk).1)⟩
      rw [List.length_append, Lib.byteCells_append]
      exact hown
    · have ho0 : o.length ≠ 0 := fun h => h2 (List.eq_nil_of_length_eq_zero h)
      have t2 : 0 < o.length := by omega
      have e : flush o r = o ++ [95] ++ r := by simp [flush, h1, h2]
      have E := Lib.hid e
      clear h1 h2 e
      go_enter Try.func14, Try.ntmps14
      go_wp2_with (at_builtin; refine wpList_append_own_at _ rfl (.tmp 12) (.tmp 13) _ rfl B 5 i0 (.int .u8 0) 1 1 Try.underlying25 hi hz0 hz1 hz2 rfl (by decide) _ _ _ rfl (ho.alloc _) ⟨w.heap.size, 0, none⟩ 1 1 [.int .u8 95] rfl rfl (cell_one_new _ _ _) ?c2 ?c3 ?c4 ?c5 ?_)
      case c2 => intro u hu; simp at hu; subst hu; rfl
      case c3 => unfold maxLen; omega
      case c4 => omega
      case c5 => simp; omega
      intro v1 w1 hown1 hg1 _ hat1
      have hb1 : Below B w w1 := ((Below.refl B w).alloc hB _).grown hg1 (by simp; omega) (fun k hk => (ho.lt k hk).1)
      have hr1 : w1.ownsRow B 5 1 (.slice Ar r.length cr) r.length (Lib.byteCells r) := (hr.alloc _).kept hg1 (by
        rcases hne with h | h
        · exact .inl h
        · exact .inr h)
      obtain ⟨A1, c1, hv1, hA1⟩ := own_shape hown1
      rw [hv1] at hown1 hat1 ⊢
      go_wp2_with (at_builtin; refine wpList_append_own_src _ rfl (.tmp 15) (.tmp 16) _ _ rfl B 5 i0 (.int .u8 0) 1 1 Try.underlying25 hi hz0 hz1 hz2 rfl _ _ _ rfl hown1 _ _ _ rfl (own_src Try.underlying25 hr1 (byteCells_one r)) ?d1 ?d2 ?d3 ?_)
      case d1 => unfold maxLen; omega
      case d2 => omega
      case d3 => have := hb1.size; omega
      intro v' w2 hown hg hat
      go_wp2
      go_ret
      rw [E.out]
      refine ⟨v', rfl, ?_, hb1.grown hg (by have := hb1.size; omega) (fun k hk => (hown1.lt k hk).1)⟩
      rw [List.length_append, List.length_append, Lib.byteCells_append, Lib.byteCells_append, byteCells_95]
      simpa using hown

theorem enc_same (c : Nat) (hc : c < 55296 ∨ 57344 ≤ c ∧ c ≤ 1114111) : (Utf8.encode (c : Int)).data.toList = Lib.encodeRune (c : Int) := by
  have hv : Utf8.valid (c : Int) = true := (valid_nat c).2 hc
  have key : ∀ (x : Int) (n : Nat), x = n → x.toNat.toUInt8 = UInt8.ofNat n := fun x n h => by subst h; rfl
  unfold Utf8.encode Lib.encodeRune
  simp only [hv, if_true, Int.toNat_natCast]
  by_cases h1 : c < 128
  · rw [if_pos h1, Lib.encodeRuneZ_one (by omega) (by omega)]; simp
  · rw [if_neg h1]
    by_cases h2 : c < 2048
    · rw [if_pos h2, Lib.encodeRuneZ_two (by omega) (by omega)]
      simp only [List.map_cons, List.map_nil]
      rw [key (192 + (c : Int) / 64) (192 + c / 64) (by omega), key (128 + (c : Int) % 64) (128 + c % 64) (by omega)]
    · rw [if_neg h2]
      by_cases h3 : c < 65536
      · rw [if_pos h3, Lib.encodeRuneZ_three (by omega)]
        simp only [List.map_cons, List.map_nil]
        rw [key (224 + (c : Int) / 4096) (224 + c / 4096) (by omega), key (128 + (c : Int) / 64 % 64) (128 + c / 64 % 64) (by omega), key (128 + (c : Int) % 64) (128 + c % 64) (by omega)]
      · rw [if_neg h3, Lib.encodeRuneZ_four (by omega) (by omega)]
        simp only [List.map_cons, List.map_nil]
        rw [key (240 + (c : Int) / 262144) (240 + c / 262144) (by omega), key (128 + (c : Int) / 4096 % 64) (128 + c / 4096 % 64) (by omega), key (128 + (c : Int) / 64 % 64) (128 + c / 64 % 64) (by omega), key (128 + (c : Int) % 64) (128 + c % 64) (by omega)]
theorem cells_of (b : ByteArray) (l : List UInt8) (h : b.data.toList = l) : byteCells b = Lib.byteCells l ∧ b.size = l.length := by
  subst h
  exact ⟨rfl, by rw [Array.length_toList]; rfl⟩
theorem enc_cells (c : Nat) (hc : c < 55296 ∨ 57344 ≤ c ∧ c ≤ 1114111) : byteCells (Utf8.encode (c : Int)) = Lib.byteCells (Lib.encodeRune (c : Int)) ∧ (Utf8.encode (c : Int)).size = (Lib.encodeRune (c : Int)).length :=
  cells_of _ _ (enc_same c hc)
theorem own_conv {w : World} {B : Nat} {l : List UInt8} {A : Option Addr} {c : Nat} (h : w.ownsRow B 5 1 (.slice A l.length c) l.length (Lib.byteCells l)) (hl : l ≠ []) :
    (convert 25 9 (.slice A l.length c)).run Try.prog w = .ok (.string ⟨l.toArray⟩) w := by
  have hpos : 0 < l.length := by
    rcases Nat.eq_zero_or_pos l.length with h0 | h0
    · exact absurd (List.eq_nil_of_length_eq_zero h0) hl
    · exact h0
  obtain ⟨g, cap, hv, _, _⟩ := h.form hpos
  obtain rfl : A = some ⟨g, 0, none⟩ := (Value.slice.inj hv).1
  refine run_convert_bytes_back w _ _ 5 ⟨g, 0, none⟩ c l Try.underlying25 Try.underlying5 Try.underlying9 (fun j hj => ?_)
  have hc := h.cells (g := g) rfl j (.int .u8 (l[j].toNat : Int))
  apply hc
  unfold Lib.byteCells
  rw [List.getElem?_map, List.getElem?_eq_getElem hj]
  rfl

def ModRel (s : ByteArray) (w : World) (vo vr : Value) (wr : World) : Prop :=
  ∃ (pos f : Nat) (o r : List UInt8), wr.ownsRow (w.heap.size + 1) 5 1 vo o.length (Lib.byteCells o) ∧ wr.ownsRow (w.heap.size + 1) 5 1 vr r.length (Lib.byteCells r) ∧ (vr.ownBlock = none ∨ vr.ownBlock ≠ vo.ownBlock) ∧
    wr.heap[w.heap.size]? = some (.stringIter s pos) ∧ Below w.heap.size w wr ∧ modTo s f pos o r = modTo s s.size 0 [] [] ∧ s.size ≤ pos + f ∧ o.length + r.length ≤ 5 * pos ∧ pos ≤ s.size + 4
theorem iter_below {w w' : World} {k pos : Nat} {s : ByteArray} (hb : Below (k + 1) w w') (h : w.heap[k]? = some (.stringIter s pos)) : w'.heap[k]? = some (.stringIter s pos) := by
  rw [hb.block k (by omega)]; exact h

set_option maxHeartbeats 4000000 in
set_option maxRecDepth 1000000 in
theorem model_any (s : ByteArray) (w : World) (hs : s.size ≤ 8388608) :
    Calls Try.prog 8 #[.string s] w fun e w' => e = .returned (.string ⟨(model s).toArray⟩) ∧ Below w.heap.size w w' := by
  obtain ⟨i0, hi, hz0, hz1, hz2⟩ := info_parts byteInfo
  go_enter Try.func8, Try.ntmps8
  go_wp2
  go_loopw [3, 4] (fun vo vr wr => ModRel s w vo vr wr) (fun _ _ wr => s.size - wr.iterPos w.heap.size)
  case atStart => exact ⟨0, s.size, [], [], World.ownsRow_nil _ _ _ _, World.ownsRow_nil _ _ _ _, .inl rfl, World.iter_heap w s 0, (Below.refl _ w).alloc (Nat.le_refl _) _, rfl, by omega, by simp, by omega⟩
  case round =>
    obtain ⟨pos, f, o, r, ho, hr, hne, hit, hbw, hto, hfu, hal, hp4⟩ := hrel
    have hsz : w.heap.size < wr.heap.size := (Array.getElem?_eq_some_iff.1 hit).1
    have HTO := Lib.hid hto
    clear hto
    by_cases hp : pos < s.size
    · obtain ⟨c, wd, hd⟩ : ∃ c wd, Utf8.decode s pos = (c, wd) := ⟨_, _, rfl⟩
      have hnx : ∀ ty, (Instr.next (.pointer (some ⟨w.heap.size, 0, none⟩)) true ty).run Try.prog wr = .ok (.tuple #[.bool true, .int .i64 pos, .int .i32 c]) (wr.iterAt w.heap.size s (pos + wd)) := fun ty => by
        rw [Lib.run_next_any_at wr w.heap.size s pos ty hit hp, hd]
      have hwd : 1 ≤ wd := by
        have h1 : 1 ≤ (Utf8.decode s pos).2 := by
          by_cases ha : (s[pos]'hp).toNat < 128
          · rw [decode_ascii s pos hp ha]; exact Nat.le_refl _
          · exact (decode_high s pos hp (by omega)).2
        rw [hd] at h1; exact h1
      have hwd4 : wd ≤ 4 := by have := decode_width s pos; rw [hd] at this; exact this
      have hcs : c < 55296 ∨ 57344 ≤ c ∧ c ≤ 1114111 := by have := decode_scalar s pos; rw [hd] at this; exact this
      have ho2 := ownsRow_iterAt ho (k := w.heap.size) (by omega) s (pos + wd)
      have hr2 := ownsRow_iterAt hr (k := w.heap.size) (by omega) s (pos + wd)
      have hit2 := Lib.iterAt_heap wr w.heap.size s pos (pos + wd) hit
      have hbw2 := Lib.below_iterAt hbw (k := w.heap.size) (by omega) s (pos + wd)
      have hsz2 : w.heap.size + 1 ≤ (wr.iterAt w.heap.size s (pos + wd)).heap.size := by rw [Lib.iterAt_size]; omega
      obtain ⟨f', rfl⟩ : ∃ f', f = f' + 1 := ⟨f - 1, by omega⟩
      have hto := HTO.out
      rw [modTo, if_pos hp, hd] at hto
      have HT2 := Lib.hid hto
      have HIT := Lib.hid hit; have HIT2 := Lib.hid hit2; have HO := Lib.hid ho2; have HR := Lib.hid hr2; have HNE := Lib.hid hne
      obtain ⟨W, hW⟩ : ∃ W, W = wr.iterAt w.heap.size s (pos + wd) := ⟨_, rfl⟩
      rw [← hW] at hnx HIT2 HO HR hbw2 hsz2
      clear hto HTO hd hit hit2 ho2 hr2 hne ho hr hW
      have hw0 : ((wr.iterPos w.heap.size)) = pos := by simp only [World.iterPos, HIT.out]
      have HW0 := Lib.hid hw0
      clear hw0
      cases hf : forb c with
      | false =>
        have HF := Lib.hid hf
        have hl4 := enc_len c
        have hec := enc_cells c hcs
        have HEC := Lib.hid hec
        have hes : (Utf8.encode (c : Int)).size ≤ 4 := by rw [hec.2]; omega
        clear hf hec
        obtain ⟨Ar, cr, hvr, hAr⟩ := own_shape HR.out
        rw [hvr] at HR HNE ⊢
        go_wp2_with (first
          | (go_at_call 10; refine (forb_any c _).mono ?_; rintro e w' ⟨rfl, rfl⟩; rw [HF.out])
          | (at_builtin; refine wpList_append_own_src _ rfl (.tmp 17) (.tmp 19) _ _ rfl (w.heap.size + 1) 5 i0 (.int .u8 0) 1 1 Try.underlying25 hi hz0 hz1 hz2 rfl _ _ _ rfl HR.out _ _ _ rfl (Src.ofString _ Try.underlying9 _) ?c1 ?c2 ?c3 ?_))
        case c1 => unfold maxLen; omega
        case c2 => omega
        case c3 => exact hsz2
        intro v' w1 hown hg hat
        have hb1 : Below (w.heap.size + 1) W w1 := (Below.refl _ W).grown hg hsz2 (fun k hk => (HR.out.lt k hk).1)
        have i1 := iter_below hb1 HIT2.out
        have ho1 := HO.out.kept hg (by
          rcases HNE.out with h | h
          · rw [h]
            cases hvo : Value.ownBlock _ with
            | none => exact .inl rfl
            | some k => exact .inr (by simp)
          · exact .inr (fun e => h e.symm))
        have hlt := HO.out.lt
        have hrel : ModRel s w u3 v' w1 := by
          refine ⟨pos + wd, f', o, r ++ Lib.encodeRune (c : Int), ho1, ?_, ?_, i1, hbw2.trans (hb1.mono (by omega)), ?_, by omega, by simp; omega, by omega⟩
          · rw [List.length_append, Lib.byteCells_append, ← HEC.out.1, ← HEC.out.2]; exact hown
          · rcases hat with h | h
            · rw [h]; exact HNE.out
            · right
              rw [h]
              intro e
              have := (hlt _ e.symm).2
              omega
          · have e := HT2.out
            simp only [modStep, HF.out] at e
            exact e
        have hmu : s.size - w1.iterPos w.heap.size < s.size - wr.iterPos w.heap.size := by
          rw [HW0.out]
          simp only [World.iterPos, i1]
          omega
        clear ho1 hlt hat hown hg
        go_wp2
        exact ⟨hrel, hmu⟩
      | true =>
        have HF := Lib.hid hf
        clear hf
        go_wp2_with (first
          | (go_at_call 10; refine (forb_any c _).mono ?_; rintro e w' ⟨rfl, rfl⟩; rw [HF.out])
          | (go_at_call 14; refine (flush_any (w.heap.size + 1) _ _ o r _ HO.out HR.out HNE.out (by omega) hsz2).mono ?_))
        rintro e w1 ⟨v', rfl, hown, hb1⟩
        have i1 := iter_below hb1 HIT2.out
        have hfl : (flush o r).length ≤ o.length + r.length + 1 := by
          unfold flush
          repeat' split
          all_goals first | omega | (simp; omega) | (simp; done)
        have hrel : ModRel s w v' (.slice none 0 0) w1 := by
          refine ⟨pos + wd, f', flush o r, [], hown, World.ownsRow_nil _ _ _ _, .inl rfl, i1, hbw2.trans (hb1.mono (by omega)), ?_, by omega, by simp; omega, by omega⟩
          have e := HT2.out
          simp only [modStep, HF.out, if_true] at e
          exact e
        have hmu : s.size - w1.iterPos w.heap.size < s.size - wr.iterPos w.heap.size := by
          rw [HW0.out]
          simp only [World.iterPos, i1]
          omega
        clear hown
        go_wp2
        exact ⟨hrel, hmu⟩
    · have hnx : ∀ ty, (Instr.next (.pointer (some ⟨w.heap.size, 0, none⟩)) true ty).run Try.prog wr = .ok (.tuple #[.bool false]) wr := fun ty => Lib.run_next_end_at wr w.heap.size s pos ty hit hp
      have e := HTO.out
      rw [modTo_end s f pos o r hp] at e
      have HFIN := Lib.hid (show model s = named (flush o r) by unfold model; rw [← e])
      have HIT := Lib.hid hit; have HO := Lib.hid ho; have HR := Lib.hid hr; have HNE := Lib.hid hne
      clear e HTO hit ho hr hne
      go_wp2_with (go_at_call 14; refine (flush_any (w.heap.size + 1) _ _ o r _ HO.out HR.out HNE.out (by omega) (by omega)).mono ?_)
      rintro e w1 ⟨v', rfl, hown, hb1⟩
      obtain ⟨A1, c1, hv1, hA1⟩ := own_shape hown
      rw [hv1] at hown ⊢
      have hbw1 := hbw.trans (hb1.mono (by omega))
      by_cases hl : flush o r = []
      · have h0 : (((flush o r).length : Int) == 0) = true := by simp [hl]
        have HFIN2 := Lib.hid (HFIN.out.trans (show named (flush o r) = [95] by unfold named; rw [if_pos hl]))
        clear hl
        go_wp2
        go_ret
        refine ⟨?_, hbw1⟩
        rw [HFIN2.out]
        rfl
      · have h0 : (((flush o r).length : Int) == 0) = false := by
          have : (flush o r).length ≠ 0 := fun h => hl (List.eq_nil_of_length_eq_zero h)
          simp; omega
        have HFIN2 := Lib.hid (HFIN.out.trans (show named (flush o r) = flush o r by unfold named; rw [if_neg hl]))
        have hcv := own_conv hown hl
        clear hl
        go_wp2
        go_ret
        rw [HFIN2.out]
        exact ⟨rfl, hbw1⟩
end Go.Proofs.Ytddjbbipmfcnaaa
