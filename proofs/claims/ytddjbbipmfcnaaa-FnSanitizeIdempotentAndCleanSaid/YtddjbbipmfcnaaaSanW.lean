/- The walks of the sanitizer, of the law's own test for a forbidden character and of the law's own model. -/
import Derived.Test.YtddjbbipmfcnaaaRows
import Derived.Test.YtddjbbipmfcnaaaBld
import Derived.Test.YtddjbbipmfcnaaaSanB
import Derived.ProofKit
import Derived.Outline
import Derived.BigCall
import Derived.Laws.IdiomStrings
import Derived.Lib.BufferRead
namespace Go.Proofs.Ytddjbbipmfcnaaa
open Go.RowKit
set_option linter.unusedVariables false
set_option linter.unusedSimpArgs false

set_option maxRecDepth 100000 in
theorem forb_any (c : Nat) (w : World) : Calls Try.prog 10 #[.int .i32 c] w fun e w' => e = .returned (.bool (forb c)) ∧ w = w' := by
  go_enter Try.func10, Try.ntmps10
  go_wp2
  all_goals
    go_ret
    refine ⟨ret_bool ?_, rfl⟩
    try simp only [beq_iff_eq, beq_eq_false_iff_ne, ne_eq] at *
    symm
    first
      | (rw [forb_t]; omega)
      | (rw [forb_f]; omega)

set_option maxHeartbeats 4000000 in
set_option maxRecDepth 1000000 in
theorem san_any (s : ByteArray) (w : World) (hs : s.size ≤ 8388608) :
    Calls Try.prog 13 #[.string s] w fun e w' => e = .returned (.string ⟨(san s).toArray⟩) ∧ Below w.heap.size w w' := by
  go_enter Try.func13, Try.ntmps13
  go_wp2
  go_loopw [4] (fun t wr => ∃ (pos f : Nat) (l : List UInt8) (g : Bool), t = .bool g ∧ Lib.IsBuilder 29 5 w.heap.size w.heap.size (Lib.byteCells l) wr ∧ wr.heap[w.heap.size + 1]? = some (.stringIter s pos) ∧ Below w.heap.size w wr ∧ sanTo s f pos l g = sanTo s s.size 0 [] false ∧ s.size ≤ pos + f ∧ l.length ≤ 5 * pos ∧ pos ≤ s.size + 4) (fun _ wr => s.size - wr.iterPos (w.heap.size + 1))
  case atStart =>
    refine ⟨0, s.size, [], false, rfl, bld_alloc (Lib.fresh_isBuilder 29 5 w) _, ?_, ((Below.refl _ w).alloc (Nat.le_refl _) _).alloc (by simp) _, rfl, by omega, by simp, by omega⟩
    have := World.iter_heap (w.alloc (.cells #[.pointer none, .slice none 0 0] 29)) s 0
    simpa using this
  case round =>
    obtain ⟨pos, f, l, g, rfl, hI, hit, hbw, hto, hfu, hal, hp4⟩ := hrel
    have hsz : w.heap.size + 1 < wr.heap.size := (Array.getElem?_eq_some_iff.1 hit).1
    have HTO := Lib.hid hto
    clear hto
    by_cases hp : pos < s.size
    · obtain ⟨c, wd, hd⟩ : ∃ c wd, Utf8.decode s pos = (c, wd) := ⟨_, _, rfl⟩
      have hnx : ∀ ty, (Instr.next (.pointer (some ⟨w.heap.size + 1, 0, none⟩)) true ty).run Try.prog wr = .ok (.tuple #[.bool true, .int .i64 pos, .int .i32 c]) (wr.iterAt (w.heap.size + 1) s (pos + wd)) := fun ty => by
        rw [Lib.run_next_any_at wr (w.heap.size + 1) s pos ty hit hp, hd]
      have hwd : 1 ≤ wd := by
        have h1 : 1 ≤ (Utf8.decode s pos).2 := by
          by_cases ha : (s[pos]'hp).toNat < 128
          · rw [decode_ascii s pos hp ha]; exact Nat.le_refl _
          · exact (decode_high s pos hp (by omega)).2
        rw [hd] at h1; exact h1
      have hwd4 : wd ≤ 4 := by have := decode_width s pos; rw [hd] at this; exact this
      have hcm : c ≤ 2147483647 := by have := decode_le s pos; rw [hd] at this; exact this
      have hI2 := bld_iter hI hit (pos + wd)
      have hit2 := Lib.iterAt_heap wr (w.heap.size + 1) s pos (pos + wd) hit
      have hbw2 := Lib.below_iterAt hbw (k := w.heap.size + 1) (by omega) s (pos + wd)
      have hsz2 : w.heap.size ≤ (wr.iterAt (w.heap.size + 1) s (pos + wd)).heap.size := by rw [Lib.iterAt_size]; omega
      obtain ⟨f', rfl⟩ : ∃ f', f = f' + 1 := ⟨f - 1, by omega⟩
      have hto := HTO.out
      rw [sanTo, if_pos hp, hd] at hto
      have HT2 := Lib.hid hto
      have HIT := Lib.hid hit; have HIT2 := Lib.hid hit2
      clear hto HTO hd hit hit2
      cases hf : forb c with
      | false =>
        have HF := Lib.hid hf
        rw [forb_f] at hf
        have t0 : ((c : Int) == 0) = false := by simp; omega
        have t1 : ((c : Int) == 60) = false := by simp; omega
        have t2 : ((c : Int) == 62) = false := by simp; omega
        have t3 : ((c : Int) == 58) = false := by simp; omega
        have t4 : ((c : Int) == 34) = false := by simp; omega
        have t5 : ((c : Int) == 124) = false := by simp; omega
        have t6 : ((c : Int) == 63) = false := by simp; omega
        have t7 : ((c : Int) == 42) = false := by simp; omega
        have t8 : decide ((c : Int) < 32) = false := by simp; omega
        have t9 : ¬ ((c : Int) < 32) := by omega
        have hl4 := Lib.runeCells_le (c : Int)
        rw [Lib.runeCells_length] at hl4
        clear hf
        cases g with
        | true =>
          go_wp2_with (go_at_call 16; refine (writeByte w.heap.size w.heap.size _ 95 _ hI2 (by rw [Lib.byteCells_length]; omega) hsz2).mono ?_; rintro e W1 ⟨rfl, h1, b1, k1⟩)
          have hz3 := b1.size
          go_wp2_with (go_at_call 17; refine (writeRune w.heap.size w.heap.size _ _ (by omega) (by omega) _ h1 (by simp [Lib.byteCells_length]; omega) (by omega)).mono ?_; rintro e W2 ⟨rfl, h2, b2, k2⟩)
          have i2 := k2.iter (k1.iter HIT2.out (by omega)) (by omega)
          go_roundw
          case rel =>
            refine ⟨pos + wd, f', l ++ [95] ++ Lib.encodeRune (c : Int), false, rfl, ?_, i2, (hbw2.trans b1).trans b2, ?_, by omega, by simp; omega, by omega⟩
            · rw [Lib.byteCells_append, Lib.byteCells_append, Lib.byteCells_encodeRune]; exact h2
            · have e := HT2.out
              simp only [sanStep, HF.out] at e
              exact e
          case measure =>
            simp only [World.iterPos, i2, HIT.out]
            omega
        | false =>
          go_wp2_with (go_at_call 17; refine (writeRune w.heap.size w.heap.size _ _ (by omega) (by omega) _ hI2 (by rw [Lib.byteCells_length]; omega) hsz2).mono ?_; rintro e W1 ⟨rfl, h1, b1, k1⟩)
          have i1 := k1.iter HIT2.out (by omega)
          go_roundw
          case rel =>
            refine ⟨pos + wd, f', l ++ Lib.encodeRune (c : Int), false, rfl, ?_, i1, hbw2.trans b1, ?_, by omega, by simp; omega, by omega⟩
            · rw [Lib.byteCells_append, Lib.byteCells_encodeRune]; exact h1
            · have e := HT2.out
              simp only [sanStep, HF.out] at e
              exact e
          case measure =>
            simp only [World.iterPos, i1, HIT.out]
            omega
      | true =>
        have HF := Lib.hid hf
        rw [forb_t] at hf
        have hbl : (Lib.byteCells l).length = l.length := Lib.byteCells_length l
        have HBL := Lib.hid hbl
        clear hbl
        go_wp2_with (go_at_call 18; refine (Try.Builder_Len w.heap.size w.heap.size _ _ hI2).mono ?_; rintro e W1 ⟨rfl, rfl⟩; rw [HBL.out])
        all_goals first
          | (exfalso
             simp only [beq_eq_false_iff_ne, ne_eq] at *
             omega)
          | (go_roundw
             case rel =>
               have e := HT2.out
               unfold sanStep at e
               rw [if_pos HF.out] at e
               by_cases hl0 : l = []
               · have hl1 : l.length = 0 := by rw [hl0]; rfl
                 simp only [if_pos hl0] at e
                 first
                   | exact ⟨pos + wd, f', l, g, rfl, hI2, HIT2.out, hbw2, e, by omega, by omega, by omega⟩
                   | (exfalso; omega)
               · have hl1 : l.length ≠ 0 := fun h => hl0 (List.eq_nil_of_length_eq_zero h)
                 simp only [if_neg hl0] at e
                 first
                   | exact ⟨pos + wd, f', l, true, rfl, hI2, HIT2.out, hbw2, e, by omega, by omega, by omega⟩
                   | (exfalso; omega)
             case measure =>
               simp only [World.iterPos, HIT2.out, HIT.out]
               omega)
    · have hnx : ∀ ty, (Instr.next (.pointer (some ⟨w.heap.size + 1, 0, none⟩)) true ty).run Try.prog wr = .ok (.tuple #[.bool false]) wr := fun ty => Lib.run_next_end_at wr (w.heap.size + 1) s pos ty hit hp
      have hbl : (Lib.byteCells l).length = l.length := Lib.byteCells_length l
      have HBL := Lib.hid hbl
      have e := HTO.out
      rw [sanTo_end s f pos l g hp] at e
      have hfin : san s = named l := by unfold san; rw [← e]
      have HFIN := Lib.hid hfin
      clear hbl e hfin HTO hit
      by_cases hl : l = []
      · have h0 : ((l.length : Int) == 0) = true := by simp [hl]
        have HFIN2 := Lib.hid (HFIN.out.trans (show named l = [95] by unfold named; rw [if_pos hl]))
        clear hl
        go_wp2_with (go_at_call 18; refine (Try.Builder_Len w.heap.size w.heap.size _ _ hI).mono ?_; rintro e W1 ⟨rfl, rfl⟩; rw [HBL.out])
        go_ret
        refine ⟨?_, hbw⟩
        rw [HFIN2.out]
        rfl
      · have h0 : ((l.length : Int) == 0) = false := by
          have : l.length ≠ 0 := fun h => hl (List.eq_nil_of_length_eq_zero h)
          simp; omega
        have HFIN2 := Lib.hid (HFIN.out.trans (show named l = l by unfold named; rw [if_neg hl]))
        clear hl
        go_wp2_with (first | (go_at_call 18; refine (Try.Builder_Len w.heap.size w.heap.size _ _ hI).mono ?_; rintro e W1 ⟨rfl, rfl⟩; rw [HBL.out]) | (go_at_call 19; refine (Try.Builder_String_any w.heap.size w.heap.size l _ hI (by omega)).mono ?_; rintro e W1 ⟨rfl, b1⟩))
        go_ret
        rw [HFIN2.out]
        exact ⟨rfl, hbw.trans b1⟩
end Go.Proofs.Ytddjbbipmfcnaaa
