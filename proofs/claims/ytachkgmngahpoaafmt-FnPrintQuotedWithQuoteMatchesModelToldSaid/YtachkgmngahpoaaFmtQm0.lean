/- n011_104: zzQuotedModel. -/
import Derived.Test.YtachkgmngahpoaaFmtQh3
namespace Go.Proofs.YtachkgmngahpoaaFmt
open Go.RowKit
set_option linter.unusedVariables false
set_option linter.unusedSimpArgs false

set_option maxHeartbeats 8000000 in
set_option maxRecDepth 100000 in
theorem model_loop0 (B : Nat) (s : ByteArray) (A : Option Addr) (n cap : Nat) (bs : List Value) (w : World) (hown : w.ownsRow B 5 1 (.slice A n cap) n bs) (hl : bs.length = n) (hB : B ≤ w.heap.size) (hn : n ≤ 8388608) (hs : s.size ≤ 1048576) :
    Calls Tryf.prog 8 #[.slice A n cap, .string s, .int .u8 0] w (RowPost B w (bs ++ qAll 0 s.data.toList)) := by
  obtain ⟨i0, hi0, hz0, hz1, hz2⟩ := info_parts u8I
  obtain ⟨t, ht⟩ : ∃ t, t = s.data.toList := ⟨_, rfl⟩
  have HT := Lib.hid ht
  have HL : Hid (t.length = s.size) := Lib.hid (by rw [ht]; exact qsize s)
  rw [← ht]
  clear ht
  have O0 := Lib.hid hown; have HB0 := Lib.hid (Below.refl B w); have HL0 := Lib.hid hl
  clear hown hl
  go_enter Tryf.func8, Tryf.ntmps8
  obtain ⟨bs1, hb1⟩ : ∃ b, b = bs := ⟨_, rfl⟩
  obtain ⟨n1, hn1⟩ : ∃ m, m = n := ⟨_, rfl⟩
  have hn1' : n1 ≤ 8388609 := by omega
  have O9' := O0.out
  rw [← hb1, ← hn1] at O9'
  have O8 := Lib.hid O9'
  have HQ : Hid (bs1 = bs ++ qCells 0) := Lib.hid (by rw [hb1]; simp [qCells])
  have HL1 : Hid (bs1.length = n1) := Lib.hid (by rw [hb1, HL0.out, hn1])
  have HN1 := Lib.hid hn1
  clear O9' O0 hb1
  rw [← hn1]
  clear hn1
  go_wp2
  go_loopw [0, 7] (fun v j wr => ∃ (i : Nat) (A' : Option Addr) (c' : Nat), v = .slice A' (n1 + (outW noW 0 t i).length) c' ∧ j = .int .i64 i ∧ i ≤ s.size ∧ wr.ownsRow B 5 1 (.slice A' (n1 + (outW noW 0 t i).length) c') (n1 + (outW noW 0 t i).length) (bs1 ++ cells (outW noW 0 t i)) ∧ Below B w wr) (fun v j _ => s.size - (intOf j).toNat)
  case atStart => exact ⟨0, A, cap, by first | rfl | (rw [HN1.out]; rfl), rfl, by omega, by simpa [outW, cells] using O8.out, HB0.out⟩
  case round =>
    obtain ⟨i, Ar, cr, rfl, rfl, hi, hor, hbr⟩ := hrel
    have OR := Lib.hid hor; have HBR := Lib.hid hbr
    have hsr : B ≤ wr.heap.size := Nat.le_trans hB hbr.size
    have hle := outW_le noW 0 t i
    clear hor hbr
    by_cases hlt : i < s.size
    · have hp : s[i]'hlt = t.getD i 0 := by rw [HT.out]; exact qget s _ _
      obtain ⟨c, hc⟩ : ∃ c, c = t.getD i 0 := ⟨_, rfl⟩
      have hx : c.toNat = tb t i := by rw [hc]; rfl
      rw [← hc] at hp
      have HX := Lib.hid hx; have HC := Lib.hid hc
      clear hc hx
      by_cases b : c.toNat = 92
      · have b' : (c.toNat : Int) = 92 := by omega
        have BV := Lib.hid b'
        have NB : Hid (outB 0 t i = [92, t.getD i 0]) := Lib.hid (by
          unfold outB; rw [if_pos]
          have := HX.out
          unfold needs; omega)
        clear b
        go_wp2_with (at_builtin; refine wpList_append_own_src _ rfl (.tmp 68) (.tmp 69) 22 22 rfl B 5 i0 (.int .u8 0) 1 1 Tryf.underlying22 hi0 hz0 hz1 hz2 rfl _ _ _ rfl (OR.out.alloc _) _ 1 [.int .u8 92] rfl (srcOne wr (.int .u8 92) rfl) (by unfold maxLen; omega) (by omega) (by simp; omega) ?_)
        intro v1 w1 hown1 hgrow1 _
        have O1 := Lib.hid hown1
        have hb1 : Below B w w1 := (HBR.out.alloc (by have := HBR.out.size; omega) _).grown hgrow1 (by have := HBR.out.size; simp; try omega) (fun k hk => (OR.out.lt k hk).1)
        have hs1 : B ≤ w1.heap.size := Nat.le_trans hB hb1.size
        have HB1 := Lib.hid hb1
        clear hown1 hgrow1 hb1
        obtain ⟨A1, c1, rfl⟩ := own_slice O1.out
        go_wp2_with (at_builtin; refine wpList_append_own_src _ rfl (.tmp 71) (.tmp 73) 22 22 rfl B 5 i0 (.int .u8 0) 1 1 Tryf.underlying22 hi0 hz0 hz1 hz2 rfl _ _ _ rfl (O1.out.alloc _) _ 1 [.int .u8 92] rfl (srcOne w1 (.int .u8 92) rfl) (by unfold maxLen; omega) (by omega) (by simp; omega) ?_)
        intro v2 w2 hown2 hgrow2 _
        have O2 := Lib.hid hown2
        have hb2 : Below B w w2 := (HB1.out.alloc (by have := HB1.out.size; omega) _).grown hgrow2 (by have := HB1.out.size; simp; try omega) (fun k hk => (O1.out.lt k hk).1)
        have hs2 : B ≤ w2.heap.size := Nat.le_trans hB hb2.size
        have HB2 := Lib.hid hb2
        clear hown2 hgrow2 hb2
        obtain ⟨A2, c2, rfl⟩ := own_slice O2.out
        go_wp2
        go_roundw
        case rel =>
          have E : bs1 ++ cells (outW noW 0 t (i + 1)) = bs1 ++ cells (outW noW 0 t i) ++ [.int .u8 92] ++ [.int .u8 92] := by
            rw [outN_succ, NB.out, ← HC.out, cells_app, cells_two]; rw [BV.out]; simp only [List.append_assoc]
          have el : n1 + (outW noW 0 t (i + 1)).length = n1 + (outW noW 0 t i).length + 1 + 1 := by
            have := congrArg List.length E; simp only [List.length_append, cells_len, List.length_singleton] at this; omega
          exact ⟨i + 1, A2, c2, by rw [el], by go_num, by omega, (by rw [el, E]; have h := O2.out; simp only [List.append_assoc, List.cons_append, List.nil_append] at h ⊢; exact h), HB2.out⟩
        case measure => simp [intOf]; omega
      · have n92 : ((c.toNat : Int) == 92) = false := beq_eq_false_iff_ne.2 (by omega)
        have m92 : Hid (c.toNat ≠ 92) := Lib.hid b
        clear b
        by_cases b : c.toNat = 40
        · have b' : (c.toNat : Int) = 40 := by omega
          have BV := Lib.hid b'
          have NB : Hid (outB 0 t i = [92, t.getD i 0]) := Lib.hid (by
            unfold outB; rw [if_pos]
            have := HX.out
            unfold needs; omega)
          clear b
          go_wp2_with (at_builtin; refine wpList_append_own_src _ rfl (.tmp 68) (.tmp 69) 22 22 rfl B 5 i0 (.int .u8 0) 1 1 Tryf.underlying22 hi0 hz0 hz1 hz2 rfl _ _ _ rfl (OR.out.alloc _) _ 1 [.int .u8 92] rfl (srcOne wr (.int .u8 92) rfl) (by unfold maxLen; omega) (by omega) (by simp; omega) ?_)
          intro v1 w1 hown1 hgrow1 _
          have O1 := Lib.hid hown1
          have hb1 : Below B w w1 := (HBR.out.alloc (by have := HBR.out.size; omega) _).grown hgrow1 (by have := HBR.out.size; simp; try omega) (fun k hk => (OR.out.lt k hk).1)
          have hs1 : B ≤ w1.heap.size := Nat.le_trans hB hb1.size
          have HB1 := Lib.hid hb1
          clear hown1 hgrow1 hb1
          obtain ⟨A1, c1, rfl⟩ := own_slice O1.out
          go_wp2_with (at_builtin; refine wpList_append_own_src _ rfl (.tmp 71) (.tmp 73) 22 22 rfl B 5 i0 (.int .u8 0) 1 1 Tryf.underlying22 hi0 hz0 hz1 hz2 rfl _ _ _ rfl (O1.out.alloc _) _ 1 [.int .u8 40] rfl (srcOne w1 (.int .u8 40) rfl) (by unfold maxLen; omega) (by omega) (by simp; omega) ?_)
          intro v2 w2 hown2 hgrow2 _
          have O2 := Lib.hid hown2
          have hb2 : Below B w w2 := (HB1.out.alloc (by have := HB1.out.size; omega) _).grown hgrow2 (by have := HB1.out.size; simp; try omega) (fun k hk => (O1.out.lt k hk).1)
          have hs2 : B ≤ w2.heap.size := Nat.le_trans hB hb2.size
          have HB2 := Lib.hid hb2
          clear hown2 hgrow2 hb2
          obtain ⟨A2, c2, rfl⟩ := own_slice O2.out
          go_wp2
          go_roundw
          case rel =>
            have E : bs1 ++ cells (outW noW 0 t (i + 1)) = bs1 ++ cells (outW noW 0 t i) ++ [.int .u8 92] ++ [.int .u8 40] := by
              rw [outN_succ, NB.out, ← HC.out, cells_app, cells_two]; rw [BV.out]; simp only [List.append_assoc]
            have el : n1 + (outW noW 0 t (i + 1)).length = n1 + (outW noW 0 t i).length + 1 + 1 := by
              have := congrArg List.length E; simp only [List.length_append, cells_len, List.length_singleton] at this; omega
            exact ⟨i + 1, A2, c2, by rw [el], by go_num, by omega, (by rw [el, E]; have h := O2.out; simp only [List.append_assoc, List.cons_append, List.nil_append] at h ⊢; exact h), HB2.out⟩
          case measure => simp [intOf]; omega
        · have n40 : ((c.toNat : Int) == 40) = false := beq_eq_false_iff_ne.2 (by omega)
          have m40 : Hid (c.toNat ≠ 40) := Lib.hid b
          clear b
          by_cases b : c.toNat = 41
          · have b' : (c.toNat : Int) = 41 := by omega
            have BV := Lib.hid b'
            have NB : Hid (outB 0 t i = [92, t.getD i 0]) := Lib.hid (by
              unfold outB; rw [if_pos]
              have := HX.out
              unfold needs; omega)
            clear b
            go_wp2_with (at_builtin; refine wpList_append_own_src _ rfl (.tmp 68) (.tmp 69) 22 22 rfl B 5 i0 (.int .u8 0) 1 1 Tryf.underlying22 hi0 hz0 hz1 hz2 rfl _ _ _ rfl (OR.out.alloc _) _ 1 [.int .u8 92] rfl (srcOne wr (.int .u8 92) rfl) (by unfold maxLen; omega) (by omega) (by simp; omega) ?_)
            intro v1 w1 hown1 hgrow1 _
            have O1 := Lib.hid hown1
            have hb1 : Below B w w1 := (HBR.out.alloc (by have := HBR.out.size; omega) _).grown hgrow1 (by have := HBR.out.size; simp; try omega) (fun k hk => (OR.out.lt k hk).1)
            have hs1 : B ≤ w1.heap.size := Nat.le_trans hB hb1.size
            have HB1 := Lib.hid hb1
            clear hown1 hgrow1 hb1
            obtain ⟨A1, c1, rfl⟩ := own_slice O1.out
            go_wp2_with (at_builtin; refine wpList_append_own_src _ rfl (.tmp 71) (.tmp 73) 22 22 rfl B 5 i0 (.int .u8 0) 1 1 Tryf.underlying22 hi0 hz0 hz1 hz2 rfl _ _ _ rfl (O1.out.alloc _) _ 1 [.int .u8 41] rfl (srcOne w1 (.int .u8 41) rfl) (by unfold maxLen; omega) (by omega) (by simp; omega) ?_)
            intro v2 w2 hown2 hgrow2 _
            have O2 := Lib.hid hown2
            have hb2 : Below B w w2 := (HB1.out.alloc (by have := HB1.out.size; omega) _).grown hgrow2 (by have := HB1.out.size; simp; try omega) (fun k hk => (O1.out.lt k hk).1)
            have hs2 : B ≤ w2.heap.size := Nat.le_trans hB hb2.size
            have HB2 := Lib.hid hb2
            clear hown2 hgrow2 hb2
            obtain ⟨A2, c2, rfl⟩ := own_slice O2.out
            go_wp2
            go_roundw
            case rel =>
              have E : bs1 ++ cells (outW noW 0 t (i + 1)) = bs1 ++ cells (outW noW 0 t i) ++ [.int .u8 92] ++ [.int .u8 41] := by
                rw [outN_succ, NB.out, ← HC.out, cells_app, cells_two]; rw [BV.out]; simp only [List.append_assoc]
              have el : n1 + (outW noW 0 t (i + 1)).length = n1 + (outW noW 0 t i).length + 1 + 1 := by
                have := congrArg List.length E; simp only [List.length_append, cells_len, List.length_singleton] at this; omega
              exact ⟨i + 1, A2, c2, by rw [el], by go_num, by omega, (by rw [el, E]; have h := O2.out; simp only [List.append_assoc, List.cons_append, List.nil_append] at h ⊢; exact h), HB2.out⟩
            case measure => simp [intOf]; omega
          · have n41 : ((c.toNat : Int) == 41) = false := beq_eq_false_iff_ne.2 (by omega)
            have m41 : Hid (c.toNat ≠ 41) := Lib.hid b
            clear b
            by_cases b : c.toNat = 32
            · have b' : (c.toNat : Int) = 32 := by omega
              have BV := Lib.hid b'
              have NB : Hid (outB 0 t i = [92, t.getD i 0]) := Lib.hid (by
                unfold outB; rw [if_pos]
                have := HX.out
                unfold needs; omega)
              clear b
              go_wp2_with (at_builtin; refine wpList_append_own_src _ rfl (.tmp 68) (.tmp 69) 22 22 rfl B 5 i0 (.int .u8 0) 1 1 Tryf.underlying22 hi0 hz0 hz1 hz2 rfl _ _ _ rfl (OR.out.alloc _) _ 1 [.int .u8 92] rfl (srcOne wr (.int .u8 92) rfl) (by unfold maxLen; omega) (by omega) (by simp; omega) ?_)
              intro v1 w1 hown1 hgrow1 _
              have O1 := Lib.hid hown1
              have hb1 : Below B w w1 := (HBR.out.alloc (by have := HBR.out.size; omega) _).grown hgrow1 (by have := HBR.out.size; simp; try omega) (fun k hk => (OR.out.lt k hk).1)
              have hs1 : B ≤ w1.heap.size := Nat.le_trans hB hb1.size
              have HB1 := Lib.hid hb1
              clear hown1 hgrow1 hb1
              obtain ⟨A1, c1, rfl⟩ := own_slice O1.out
              go_wp2_with (at_builtin; refine wpList_append_own_src _ rfl (.tmp 71) (.tmp 73) 22 22 rfl B 5 i0 (.int .u8 0) 1 1 Tryf.underlying22 hi0 hz0 hz1 hz2 rfl _ _ _ rfl (O1.out.alloc _) _ 1 [.int .u8 32] rfl (srcOne w1 (.int .u8 32) rfl) (by unfold maxLen; omega) (by omega) (by simp; omega) ?_)
              intro v2 w2 hown2 hgrow2 _
              have O2 := Lib.hid hown2
              have hb2 : Below B w w2 := (HB1.out.alloc (by have := HB1.out.size; omega) _).grown hgrow2 (by have := HB1.out.size; simp; try omega) (fun k hk => (O1.out.lt k hk).1)
              have hs2 : B ≤ w2.heap.size := Nat.le_trans hB hb2.size
              have HB2 := Lib.hid hb2
              clear hown2 hgrow2 hb2
              obtain ⟨A2, c2, rfl⟩ := own_slice O2.out
              go_wp2
              go_roundw
              case rel =>
                have E : bs1 ++ cells (outW noW 0 t (i + 1)) = bs1 ++ cells (outW noW 0 t i) ++ [.int .u8 92] ++ [.int .u8 32] := by
                  rw [outN_succ, NB.out, ← HC.out, cells_app, cells_two]; rw [BV.out]; simp only [List.append_assoc]
                have el : n1 + (outW noW 0 t (i + 1)).length = n1 + (outW noW 0 t i).length + 1 + 1 := by
                  have := congrArg List.length E; simp only [List.length_append, cells_len, List.length_singleton] at this; omega
                exact ⟨i + 1, A2, c2, by rw [el], by go_num, by omega, (by rw [el, E]; have h := O2.out; simp only [List.append_assoc, List.cons_append, List.nil_append] at h ⊢; exact h), HB2.out⟩
              case measure => simp [intOf]; omega
            · have n32 : ((c.toNat : Int) == 32) = false := beq_eq_false_iff_ne.2 (by omega)
              have m32 : Hid (c.toNat ≠ 32) := Lib.hid b
              clear b
              by_cases b : c.toNat = 9
              · have b' : (c.toNat : Int) = 9 := by omega
                have BV := Lib.hid b'
                have NB : Hid (outB 0 t i = [92, t.getD i 0]) := Lib.hid (by
                  unfold outB; rw [if_pos]
                  have := HX.out
                  unfold needs; omega)
                clear b
                go_wp2_with (at_builtin; refine wpList_append_own_src _ rfl (.tmp 68) (.tmp 69) 22 22 rfl B 5 i0 (.int .u8 0) 1 1 Tryf.underlying22 hi0 hz0 hz1 hz2 rfl _ _ _ rfl (OR.out.alloc _) _ 1 [.int .u8 92] rfl (srcOne wr (.int .u8 92) rfl) (by unfold maxLen; omega) (by omega) (by simp; omega) ?_)
                intro v1 w1 hown1 hgrow1 _
                have O1 := Lib.hid hown1
                have hb1 : Below B w w1 := (HBR.out.alloc (by have := HBR.out.size; omega) _).grown hgrow1 (by have := HBR.out.size; simp; try omega) (fun k hk => (OR.out.lt k hk).1)
                have hs1 : B ≤ w1.heap.size := Nat.le_trans hB hb1.size
                have HB1 := Lib.hid hb1
                clear hown1 hgrow1 hb1
                obtain ⟨A1, c1, rfl⟩ := own_slice O1.out
                go_wp2_with (at_builtin; refine wpList_append_own_src _ rfl (.tmp 71) (.tmp 73) 22 22 rfl B 5 i0 (.int .u8 0) 1 1 Tryf.underlying22 hi0 hz0 hz1 hz2 rfl _ _ _ rfl (O1.out.alloc _) _ 1 [.int .u8 9] rfl (srcOne w1 (.int .u8 9) rfl) (by unfold maxLen; omega) (by omega) (by simp; omega) ?_)
                intro v2 w2 hown2 hgrow2 _
                have O2 := Lib.hid hown2
                have hb2 : Below B w w2 := (HB1.out.alloc (by have := HB1.out.size; omega) _).grown hgrow2 (by have := HB1.out.size; simp; try omega) (fun k hk => (O1.out.lt k hk).1)
                have hs2 : B ≤ w2.heap.size := Nat.le_trans hB hb2.size
                have HB2 := Lib.hid hb2
                clear hown2 hgrow2 hb2
                obtain ⟨A2, c2, rfl⟩ := own_slice O2.out
                go_wp2
                go_roundw
                case rel =>
                  have E : bs1 ++ cells (outW noW 0 t (i + 1)) = bs1 ++ cells (outW noW 0 t i) ++ [.int .u8 92] ++ [.int .u8 9] := by
                    rw [outN_succ, NB.out, ← HC.out, cells_app, cells_two]; rw [BV.out]; simp only [List.append_assoc]
                  have el : n1 + (outW noW 0 t (i + 1)).length = n1 + (outW noW 0 t i).length + 1 + 1 := by
                    have := congrArg List.length E; simp only [List.length_append, cells_len, List.length_singleton] at this; omega
                  exact ⟨i + 1, A2, c2, by rw [el], by go_num, by omega, (by rw [el, E]; have h := O2.out; simp only [List.append_assoc, List.cons_append, List.nil_append] at h ⊢; exact h), HB2.out⟩
                case measure => simp [intOf]; omega
              · have n9 : ((c.toNat : Int) == 9) = false := beq_eq_false_iff_ne.2 (by omega)
                have m9 : Hid (c.toNat ≠ 9) := Lib.hid b
                clear b
                by_cases b : c.toNat = 34
                · have b' : (c.toNat : Int) = 34 := by omega
                  have BV := Lib.hid b'
                  have NB : Hid (outB 0 t i = [92, t.getD i 0]) := Lib.hid (by
                    unfold outB; rw [if_pos]
                    have := HX.out
                    unfold needs; omega)
                  clear b
                  go_wp2_with (at_builtin; refine wpList_append_own_src _ rfl (.tmp 68) (.tmp 69) 22 22 rfl B 5 i0 (.int .u8 0) 1 1 Tryf.underlying22 hi0 hz0 hz1 hz2 rfl _ _ _ rfl (OR.out.alloc _) _ 1 [.int .u8 92] rfl (srcOne wr (.int .u8 92) rfl) (by unfold maxLen; omega) (by omega) (by simp; omega) ?_)
                  intro v1 w1 hown1 hgrow1 _
                  have O1 := Lib.hid hown1
                  have hb1 : Below B w w1 := (HBR.out.alloc (by have := HBR.out.size; omega) _).grown hgrow1 (by have := HBR.out.size; simp; try omega) (fun k hk => (OR.out.lt k hk).1)
                  have hs1 : B ≤ w1.heap.size := Nat.le_trans hB hb1.size
                  have HB1 := Lib.hid hb1
                  clear hown1 hgrow1 hb1
                  obtain ⟨A1, c1, rfl⟩ := own_slice O1.out
                  go_wp2_with (at_builtin; refine wpList_append_own_src _ rfl (.tmp 71) (.tmp 73) 22 22 rfl B 5 i0 (.int .u8 0) 1 1 Tryf.underlying22 hi0 hz0 hz1 hz2 rfl _ _ _ rfl (O1.out.alloc _) _ 1 [.int .u8 34] rfl (srcOne w1 (.int .u8 34) rfl) (by unfold maxLen; omega) (by omega) (by simp; omega) ?_)
                  intro v2 w2 hown2 hgrow2 _
                  have O2 := Lib.hid hown2
                  have hb2 : Below B w w2 := (HB1.out.alloc (by have := HB1.out.size; omega) _).grown hgrow2 (by have := HB1.out.size; simp; try omega) (fun k hk => (O1.out.lt k hk).1)
                  have hs2 : B ≤ w2.heap.size := Nat.le_trans hB hb2.size
                  have HB2 := Lib.hid hb2
                  clear hown2 hgrow2 hb2
                  obtain ⟨A2, c2, rfl⟩ := own_slice O2.out
                  go_wp2
                  go_roundw
                  case rel =>
                    have E : bs1 ++ cells (outW noW 0 t (i + 1)) = bs1 ++ cells (outW noW 0 t i) ++ [.int .u8 92] ++ [.int .u8 34] := by
                      rw [outN_succ, NB.out, ← HC.out, cells_app, cells_two]; rw [BV.out]; simp only [List.append_assoc]
                    have el : n1 + (outW noW 0 t (i + 1)).length = n1 + (outW noW 0 t i).length + 1 + 1 := by
                      have := congrArg List.length E; simp only [List.length_append, cells_len, List.length_singleton] at this; omega
                    exact ⟨i + 1, A2, c2, by rw [el], by go_num, by omega, (by rw [el, E]; have h := O2.out; simp only [List.append_assoc, List.cons_append, List.nil_append] at h ⊢; exact h), HB2.out⟩
                  case measure => simp [intOf]; omega
                · have n34 : ((c.toNat : Int) == 34) = false := beq_eq_false_iff_ne.2 (by omega)
                  have m34 : Hid (c.toNat ≠ 34) := Lib.hid b
                  clear b
                  by_cases b : c.toNat = 39
                  · have b' : (c.toNat : Int) = 39 := by omega
                    have BV := Lib.hid b'
                    have NB : Hid (outB 0 t i = [92, t.getD i 0]) := Lib.hid (by
                      unfold outB; rw [if_pos]
                      have := HX.out
                      unfold needs; omega)
                    clear b
                    go_wp2_with (at_builtin; refine wpList_append_own_src _ rfl (.tmp 68) (.tmp 69) 22 22 rfl B 5 i0 (.int .u8 0) 1 1 Tryf.underlying22 hi0 hz0 hz1 hz2 rfl _ _ _ rfl (OR.out.alloc _) _ 1 [.int .u8 92] rfl (srcOne wr (.int .u8 92) rfl) (by unfold maxLen; omega) (by omega) (by simp; omega) ?_)
                    intro v1 w1 hown1 hgrow1 _
                    have O1 := Lib.hid hown1
                    have hb1 : Below B w w1 := (HBR.out.alloc (by have := HBR.out.size; omega) _).grown hgrow1 (by have := HBR.out.size; simp; try omega) (fun k hk => (OR.out.lt k hk).1)
                    have hs1 : B ≤ w1.heap.size := Nat.le_trans hB hb1.size
                    have HB1 := Lib.hid hb1
                    clear hown1 hgrow1 hb1
                    obtain ⟨A1, c1, rfl⟩ := own_slice O1.out
                    go_wp2_with (at_builtin; refine wpList_append_own_src _ rfl (.tmp 71) (.tmp 73) 22 22 rfl B 5 i0 (.int .u8 0) 1 1 Tryf.underlying22 hi0 hz0 hz1 hz2 rfl _ _ _ rfl (O1.out.alloc _) _ 1 [.int .u8 39] rfl (srcOne w1 (.int .u8 39) rfl) (by unfold maxLen; omega) (by omega) (by simp; omega) ?_)
                    intro v2 w2 hown2 hgrow2 _
                    have O2 := Lib.hid hown2
                    have hb2 : Below B w w2 := (HB1.out.alloc (by have := HB1.out.size; omega) _).grown hgrow2 (by have := HB1.out.size; simp; try omega) (fun k hk => (O1.out.lt k hk).1)
                    have hs2 : B ≤ w2.heap.size := Nat.le_trans hB hb2.size
                    have HB2 := Lib.hid hb2
                    clear hown2 hgrow2 hb2
                    obtain ⟨A2, c2, rfl⟩ := own_slice O2.out
                    go_wp2
                    go_roundw
                    case rel =>
                      have E : bs1 ++ cells (outW noW 0 t (i + 1)) = bs1 ++ cells (outW noW 0 t i) ++ [.int .u8 92] ++ [.int .u8 39] := by
                        rw [outN_succ, NB.out, ← HC.out, cells_app, cells_two]; rw [BV.out]; simp only [List.append_assoc]
                      have el : n1 + (outW noW 0 t (i + 1)).length = n1 + (outW noW 0 t i).length + 1 + 1 := by
                        have := congrArg List.length E; simp only [List.length_append, cells_len, List.length_singleton] at this; omega
                      exact ⟨i + 1, A2, c2, by rw [el], by go_num, by omega, (by rw [el, E]; have h := O2.out; simp only [List.append_assoc, List.cons_append, List.nil_append] at h ⊢; exact h), HB2.out⟩
                    case measure => simp [intOf]; omega
                  · have n39 : ((c.toNat : Int) == 39) = false := beq_eq_false_iff_ne.2 (by omega)
                    have m39 : Hid (c.toNat ≠ 39) := Lib.hid b
                    clear b
                    by_cases b : c.toNat = 47
                    · have b' : (c.toNat : Int) = 47 := by omega
                      have BV := Lib.hid b'
                      by_cases ho : opens t i = true
                      · have NB : Hid (outB 0 t i = [92, t.getD i 0]) := Lib.hid (by
                          unfold outB; rw [if_pos]
                          have := HX.out
                          have hop := ho
                          unfold opens at hop
                          rw [decide_eq_true_iff] at hop
                          exact .inr (.inr (.inr ⟨by omega, hop⟩)))
                        have hop := ho
                        clear b ho
                        have OCX := Lib.hid (oc_any s i hlt (by omega) wr)
                        rw [← HT.out, hop] at OCX
                        clear hop
                        go_wp2_with (go_at_call 13; refine OCX.out.mono ?_)
                        rintro e wq ⟨rfl, nq, rfl⟩
                        have OQ := Lib.hid (own_drewN OR.out nq); have HBQ := Lib.hid (below_drewN HBR.out nq)
                        have hsq : B ≤ (wr.drewN nq).heap.size := hsr
                        go_wp2_with (at_builtin; refine wpList_append_own_src _ rfl (.tmp 68) (.tmp 69) 22 22 rfl B 5 i0 (.int .u8 0) 1 1 Tryf.underlying22 hi0 hz0 hz1 hz2 rfl _ _ _ rfl (OQ.out.alloc _) _ 1 [.int .u8 92] rfl (srcOne (wr.drewN nq) (.int .u8 92) rfl) (by unfold maxLen; omega) (by omega) (by simp; omega) ?_)
                        intro v1 w1 hown1 hgrow1 _
                        have O1 := Lib.hid hown1
                        have hb1 : Below B w w1 := (HBQ.out.alloc (by have := HBQ.out.size; omega) _).grown hgrow1 (by have := HBQ.out.size; simp; try omega) (fun k hk => (OQ.out.lt k hk).1)
                        have hs1 : B ≤ w1.heap.size := Nat.le_trans hB hb1.size
                        have HB1 := Lib.hid hb1
                        clear hown1 hgrow1 hb1
                        obtain ⟨A1, c1, rfl⟩ := own_slice O1.out
                        go_wp2_with (at_builtin; refine wpList_append_own_src _ rfl (.tmp 71) (.tmp 73) 22 22 rfl B 5 i0 (.int .u8 0) 1 1 Tryf.underlying22 hi0 hz0 hz1 hz2 rfl _ _ _ rfl (O1.out.alloc _) _ 1 [.int .u8 47] rfl (srcOne w1 (.int .u8 47) rfl) (by unfold maxLen; omega) (by omega) (by simp; omega) ?_)
                        intro v2 w2 hown2 hgrow2 _
                        have O2 := Lib.hid hown2
                        have hb2 : Below B w w2 := (HB1.out.alloc (by have := HB1.out.size; omega) _).grown hgrow2 (by have := HB1.out.size; simp; try omega) (fun k hk => (O1.out.lt k hk).1)
                        have hs2 : B ≤ w2.heap.size := Nat.le_trans hB hb2.size
                        have HB2 := Lib.hid hb2
                        clear hown2 hgrow2 hb2
                        obtain ⟨A2, c2, rfl⟩ := own_slice O2.out
                        go_wp2
                        go_roundw
                        case rel =>
                          have E : bs1 ++ cells (outW noW 0 t (i + 1)) = bs1 ++ cells (outW noW 0 t i) ++ [.int .u8 92] ++ [.int .u8 47] := by
                            rw [outN_succ, NB.out, ← HC.out, cells_app, cells_two]; rw [BV.out]; simp only [List.append_assoc]
                          have el : n1 + (outW noW 0 t (i + 1)).length = n1 + (outW noW 0 t i).length + 1 + 1 := by
                            have := congrArg List.length E; simp only [List.length_append, cells_len, List.length_singleton] at this; omega
                          exact ⟨i + 1, A2, c2, by rw [el], by go_num, by omega, (by rw [el, E]; have h := O2.out; simp only [List.append_assoc, List.cons_append, List.nil_append] at h ⊢; exact h), HB2.out⟩
                        case measure => simp [intOf]; omega
                      · have hop : opens t i = false := by simpa using ho
                        have NB : Hid (outB 0 t i = [t.getD i 0]) := Lib.hid (by
                          unfold outB; rw [if_neg]
                          have := HX.out; have := m92.out; have := m40.out; have := m41.out; have := m32.out; have := m9.out; have := m34.out; have := m39.out;
                          have hop2 := hop
                          unfold opens at hop2
                          rw [decide_eq_false_iff_not] at hop2
                          rintro (h | ⟨h, h'⟩ | ⟨h, h'⟩ | ⟨_, h⟩)
                          · omega
                          · omega
                          · omega
                          · exact hop2 h)
                        clear b ho
                        have OCX := Lib.hid (oc_any s i hlt (by omega) wr)
                        rw [← HT.out, hop] at OCX
                        clear hop
                        go_wp2_with (go_at_call 13; refine OCX.out.mono ?_)
                        rintro e wq ⟨rfl, nq, rfl⟩
                        have OQ := Lib.hid (own_drewN OR.out nq); have HBQ := Lib.hid (below_drewN HBR.out nq)
                        have hsq : B ≤ (wr.drewN nq).heap.size := hsr
                        go_wp2_with (at_builtin; refine wpList_append_own_src _ rfl (.tmp 71) (.tmp 73) 22 22 rfl B 5 i0 (.int .u8 0) 1 1 Tryf.underlying22 hi0 hz0 hz1 hz2 rfl _ _ _ rfl (OQ.out.alloc _) _ 1 [.int .u8 47] rfl (srcOne (wr.drewN nq) (.int .u8 47) rfl) (by unfold maxLen; omega) (by omega) (by simp; omega) ?_)
                        intro v1 w1 hown1 hgrow1 _
                        have O1 := Lib.hid hown1
                        have hb1 : Below B w w1 := (HBQ.out.alloc (by have := HBQ.out.size; omega) _).grown hgrow1 (by have := HBQ.out.size; simp; try omega) (fun k hk => (OQ.out.lt k hk).1)
                        have hs1 : B ≤ w1.heap.size := Nat.le_trans hB hb1.size
                        have HB1 := Lib.hid hb1
                        clear hown1 hgrow1 hb1
                        obtain ⟨A1, c1, rfl⟩ := own_slice O1.out
                        go_wp2
                        go_roundw
                        case rel =>
                          have E : bs1 ++ cells (outW noW 0 t (i + 1)) = bs1 ++ cells (outW noW 0 t i) ++ [.int .u8 47] := by
                            rw [outN_succ, NB.out, ← HC.out, cells_app, cells_one, List.append_assoc]; rw [BV.out]
                          have el : n1 + (outW noW 0 t (i + 1)).length = n1 + (outW noW 0 t i).length + 1 := by
                            have := congrArg List.length E; simp only [List.length_append, cells_len, List.length_singleton] at this; omega
                          exact ⟨i + 1, A1, c1, by rw [el], by go_num, by omega, (by rw [el, E]; have h := O1.out; simp only [List.append_assoc, List.cons_append, List.nil_append] at h ⊢; exact h), HB1.out⟩
                        case measure => simp [intOf]; omega
                    · have n47 : ((c.toNat : Int) == 47) = false := beq_eq_false_iff_ne.2 (by omega)
                      have NB : Hid (outB 0 t i = [t.getD i 0]) := Lib.hid (by
                        unfold outB; rw [if_neg]
                        have := HX.out; have := m92.out; have := m40.out; have := m41.out; have := m32.out; have := m9.out; have := m34.out; have := m39.out;
                        rintro (h | ⟨h, h'⟩ | ⟨h, h'⟩ | ⟨h, _⟩) <;> omega)
                      clear b
                      go_wp2_with (at_builtin; refine wpList_append_own_src _ rfl (.tmp 71) (.tmp 73) 22 22 rfl B 5 i0 (.int .u8 0) 1 1 Tryf.underlying22 hi0 hz0 hz1 hz2 rfl _ _ _ rfl (OR.out.alloc _) _ 1 [.int .u8 (c.toNat : Nat)] rfl (srcOne wr (.int .u8 (c.toNat : Nat)) rfl) (by unfold maxLen; omega) (by omega) (by simp; omega) ?_)
                      intro v1 w1 hown1 hgrow1 _
                      have O1 := Lib.hid hown1
                      have hb1 : Below B w w1 := (HBR.out.alloc (by have := HBR.out.size; omega) _).grown hgrow1 (by have := HBR.out.size; simp; try omega) (fun k hk => (OR.out.lt k hk).1)
                      have hs1 : B ≤ w1.heap.size := Nat.le_trans hB hb1.size
                      have HB1 := Lib.hid hb1
                      clear hown1 hgrow1 hb1
                      obtain ⟨A1, c1, rfl⟩ := own_slice O1.out
                      go_wp2
                      go_roundw
                      case rel =>
                        have E : bs1 ++ cells (outW noW 0 t (i + 1)) = bs1 ++ cells (outW noW 0 t i) ++ [.int .u8 (c.toNat : Nat)] := by
                          rw [outN_succ, NB.out, ← HC.out, cells_app, cells_one, List.append_assoc]
                        have el : n1 + (outW noW 0 t (i + 1)).length = n1 + (outW noW 0 t i).length + 1 := by
                          have := congrArg List.length E; simp only [List.length_append, cells_len, List.length_singleton] at this; omega
                        exact ⟨i + 1, A1, c1, by rw [el], by go_num, by omega, (by rw [el, E]; have h := O1.out; simp only [List.append_assoc, List.cons_append, List.nil_append] at h ⊢; exact h), HB1.out⟩
                      case measure => simp [intOf]; omega
    · obtain rfl : i = s.size := by omega
      go_wp2
      go_ret
      refine ⟨Ar, _, cr, rfl, ?_, ?_, HBR.out⟩
      · unfold qAll
        rw [HL.out, List.length_append, List.length_append, List.length_append, cells_len, ← HL1.out, HQ.out, List.length_append]
        simp [qCells]
      · unfold qAll
        rw [HL.out, ← List.append_assoc, ← List.append_assoc, ← HQ.out, show qCells 0 = [] from rfl, List.append_nil]
        exact OR.out
end Go.Proofs.YtachkgmngahpoaaFmt
