/- n011_287: the roots, the slots' counts, the bound, the same slots. -/
import Derived.Test.YtdmllmipcfkaaaaDoorBzz
import Derived.Test.YtdmllmipcfkaaaaDoorAcc
namespace Go.Proofs.YtdmllmipcfkaaaaDoor
open Go.RowKit
set_option linter.unusedVariables false
set_option linter.unusedSimpArgs false
/-- The root of symbol m: down its links. -/
def rtF (ls : List Int) (n4 : Nat) (m : Nat) : Nat := if h : lkd ls n4 m = true ∧ (ls.getD m 0).toNat < m then rtF ls n4 (ls.getD m 0).toNat else m
termination_by m
decreasing_by exact h.2
theorem rtF_end {ls : List Int} {n4 m : Nat} (h : lkd ls n4 m = false) : rtF ls n4 m = m := by
  unfold rtF; exact dif_neg (fun hh => by rw [h] at hh; cases hh.1)
theorem rtF_step {ls : List Int} {n4 m l : Nat} (h : lkd ls n4 m = true) (hl : ls.getD m 0 = l) : l < m ∧ rtF ls n4 m = rtF ls n4 l := by
  have h2 : ls.getD m 0 < m := by unfold lkd at h; have := of_decide_eq_true h; exact this.2
  have hlt : l < m := by omega
  refine ⟨hlt, ?_⟩
  have e : (ls.getD m 0).toNat = l := by omega
  conv => lhs; unfold rtF
  rw [dif_pos ⟨h, by omega⟩, e]
theorem rtF_le (ls : List Int) (n4 : Nat) (hx : ∀ x ∈ ls, 0 ≤ x) : ∀ m, rtF ls n4 m ≤ m ∧ rtF ls n4 (rtF ls n4 m) = rtF ls n4 m := by
  intro m
  induction m using Nat.strongRecOn with
  | _ m ih =>
    cases h : lkd ls n4 m
    · rw [rtF_end h]; exact ⟨Nat.le_refl _, rtF_end h⟩
    · have hp : 0 ≤ ls.getD m 0 := by
        rw [List.getD_eq_getElem?_getD]
        cases he : ls[m]? with
        | none => exact Int.le_refl _
        | some y => exact hx y (List.mem_of_getElem? he)
      obtain ⟨l, hl⟩ := Int.eq_ofNat_of_zero_le hp
      obtain ⟨hlt, e⟩ := rtF_step h hl
      rw [e]
      have := ih l hlt
      exact ⟨by omega, this.2⟩
theorem rtF_roots (ls : List Int) (n4 n : Nat) (hx : ∀ x ∈ ls, 0 ≤ x) : Roots n (rtF ls n4) (fun m => m) := fun m hm => by
  have := rtF_le ls n4 hx m
  exact ⟨by omega, this.2, this.1⟩
theorem symB_lk {w : World} {g n : Nat} {ap : Bool} {n4 : Nat} {ks fs ds : List Int} {sc : Int} {ls : List Int} (hx : ∀ x ∈ ls, 0 ≤ x) (h : Tbl w g n (symB ap n4 ks fs ds sc ls)) : Lk w g n (symB ap n4 ks fs ds sc ls) (rtF ls n4) (fun m => m) := by
  refine ⟨_, h, fun m _ => SymR.like_refl _, fun m hm => ?_⟩
  unfold symB
  cases hb : lkd ls n4 m
  · exact .inl ⟨rfl, rfl, rtF_end hb⟩
  · have hp : 0 ≤ ls.getD m 0 := by
      rw [List.getD_eq_getElem?_getD]
      cases he : ls[m]? with
      | none => exact Int.le_refl _
      | some y => exact hx y (List.mem_of_getElem? he)
    obtain ⟨l, hl⟩ := Int.eq_ofNat_of_zero_le hp
    obtain ⟨hlt, e⟩ := rtF_step hb hl
    exact .inr ⟨l, rfl, by simp only [if_true]; exact hl, by omega, hlt, e.symm⟩
theorem int_info : (Tryd.prog.info? 3).map (fun i => (i.zero, i.size, i.bytes)) = some (some (.int .i64 0), 1, 8) := by kernel_rfl
/-- Block q holds n numbers; the first k of them are R's. -/
def RtT (w : World) (q n k : Nat) (R : Nat → Nat) : Prop := ∃ cs, Blk w q 3 cs ∧ cs.size = n ∧ ∀ m, m < k → cs[m]? = some (.int .i64 (R m : Nat))
theorem RtT.step {w : World} {q n k : Nat} {R : Nat → Nat} (h : RtT w q n k R) (hk : k < n) (x : Nat) (hx : R k = x) : RtT (w.setCell ⟨q, k, none⟩ (.int .i64 (x : Nat))) q n (k + 1) R := by
  obtain ⟨cs, hb, hs, hc⟩ := h
  refine ⟨_, hb.set_ k _, by simp [hs], fun m hm => ?_⟩
  rw [Array.getElem?_setIfInBounds]
  by_cases e : k = m
  · subst e; rw [if_pos rfl, if_pos (by omega), hx]
  · rw [if_neg e]; exact hc m (by omega)
theorem RtT.cell {w : World} {q n k : Nat} {R : Nat → Nat} (h : RtT w q n k R) {m : Nat} (hm : m < k) : w.cell? ⟨q, m, none⟩ = some (.int .i64 (R m : Nat)) := by
  obtain ⟨cs, hb, hs, hc⟩ := h
  exact (hb.cell m).trans (hc m hm)
theorem RtT.old {w : World} {q n k : Nat} {R : Nat → Nat} (h : RtT w q n k R) {m : Nat} (hm : m < n) : ∃ v, w.cell? ⟨q, m, none⟩ = some v := by
  obtain ⟨cs, hb, hs, hc⟩ := h
  exact ⟨cs[m]'(by omega), (hb.cell m).trans (Array.getElem?_eq_getElem (by omega))⟩
theorem RtT.frozen {w : World} {q n k : Nat} {R : Nat → Nat} (h : RtT w q n k R) (m : Nat) : w.frozen? ⟨q, m, none⟩ = false := by obtain ⟨cs, hb, _⟩ := h; exact hb.frozen m
theorem RtT.lt {w : World} {q n k : Nat} {R : Nat → Nat} (h : RtT w q n k R) : q < w.heap.size := by obtain ⟨cs, hb, _⟩ := h; exact hb.lt
theorem RtT.turned {w w' : World} {T : Nat → Prop} {q n k : Nat} {R : Nat → Nat} (h : RtT w q n k R) (ht : Turned T w w') (hn : ¬ T q) : RtT w' q n k R := by
  obtain ⟨cs, hb, hr⟩ := h; exact ⟨cs, ht.blk hb hn, hr⟩
def RtsPost (w : World) (n : Nat) (R : Nat → Nat) (e : Ending) (w' : World) : Prop := ∃ q, e = .returned (.slice (some ⟨q, 0, none⟩) n n) ∧ w.heap.size ≤ q ∧ RtT w' q n n R ∧ Below w.heap.size w w'
set_option maxHeartbeats 8000000 in
set_option maxRecDepth 100000 in
theorem roots_any (A : Option Addr) (n4 c : Nat) (ls : List Int) (n : Nat) (w : World) (h : Reads w w.heap.size 1 A n4 (ls.map (Value.int .u32))) (h4 : n4 ≤ 65536) (hn : n ≤ 65536) (hx : ∀ x ∈ ls, 0 ≤ x ∧ x ≤ 4294967295) :
    Calls Tryd.prog 5 #[.slice A n4 c, .int .i64 (n : Int)] w (RtsPost w n (rtF ls n4)) := by
  obtain ⟨i0, hi, hz0, hz1, hz2⟩ := info_parts int_info
  have hmk : ∀ W : World, (Instr.makeSlice 26 (.int .i64 (n : Int)) (.int .i64 (n : Int))).run Tryd.prog W = .ok (.slice (some ⟨W.heap.size, 0, none⟩) n n) (W.alloc (.cells (madeCells #[.int .i64 0] n) 3)) := fun W => by
    have hr := run_make (P := Tryd.prog) W 26 3 i0 (.int .i64 0) Tryd.underlying26 hi hz0 .i64 .i64 n n (by omega) (by omega) (by rw [hz2]; omega) (by omega)
    simp only [Int.toNat_natCast, hz1, Nat.mul_one] at hr
    exact hr
  have H := Lib.hid h; have HX := Lib.hid hx
  obtain ⟨W0, hW0⟩ : ∃ W0, W0 = w.alloc (.cells (madeCells #[.int .i64 0] n) 3) := ⟨_, rfl⟩
  obtain ⟨q, hq⟩ : ∃ q, q = w.heap.size := ⟨_, rfl⟩
  have HT0 : Hid (RtT W0 q n 0 (rtF ls n4)) := Lib.hid (by
    rw [hW0, hq]
    exact ⟨_, Blk.new _ _ _, by simp [madeCells], fun m hm => by omega⟩)
  have HB0 : Hid (Below w.heap.size w W0) := Lib.hid (by rw [hW0]; exact (Below.refl _ _).alloc (Nat.le_refl _) _)
  have HQ : Hid (w.heap.size ≤ q) := Lib.hid (by omega)
  have HW0 := Lib.hid hW0; have HG := Lib.hid hq
  clear h hx hW0 hq
  go_enter Tryd.func5, Tryd.ntmps5
  go_upto_region 2 with fail
  rw [← HW0.out, ← HG.out]
  clear HW0 HG hmk
  go_wp2_with fail
  go_loopw [6, 7, 8] (fun t s1 s2 wr => ∃ k : Nat, t = .int .i64 k ∧ k ≤ n ∧ RtT wr q n k (rtF ls n4) ∧ Below w.heap.size w wr) (fun t s1 s2 _ => n - (intOf t).toNat)
  case atStart => exact ⟨0, rfl, by omega, HT0.out, HB0.out⟩
  case round =>
    obtain ⟨k, rfl, hk, htab, hbel⟩ := hrel
    have HTAB := Lib.hid htab; have HBEL := Lib.hid hbel
    clear htab hbel
    by_cases hlt : k < n
    · obtain ⟨v0, d0⟩ := HTAB.out.old hlt
      have z0 := HTAB.out.frozen k
      go_wp2_with (go_at_call 13; refine (link_ex A n4 c ls k _ ((H.out.below HBEL.out).more HBEL.out.size) h4 (by omega) HX.out).mono ?_)
      rintro e w2 ⟨lv, rfl, hlv, hlv2, rfl⟩
      cases hb : lkd ls n4 k
      · have HN := Lib.hid (HTAB.out.step hlt k (rtF_end hb))
        have HF := Lib.hid (HBEL.out.setCell (p := ⟨q, k, none⟩) HQ.out (.int .i64 (k : Nat)))
        clear hlv hb
        go_wp2_with fail
        go_roundw
        case rel => exact ⟨k + 1, by go_num, by omega, HN.out, HF.out⟩
        case measure => simp [intOf]; omega
      · obtain ⟨hl, he⟩ := rtF_step hb (hlv hb)
        have dl := HTAB.out.cell hl
        have HN := Lib.hid (HTAB.out.step hlt _ he)
        have HF := Lib.hid (HBEL.out.setCell (p := ⟨q, k, none⟩) HQ.out (.int .i64 ((rtF ls n4 lv : Nat) : Int)))
        clear hlv hb he
        go_wp2_with fail
        go_roundw
        case rel => exact ⟨k + 1, by go_num, by omega, HN.out, HF.out⟩
        case measure => simp [intOf]; omega
    · obtain rfl : k = n := by omega
      go_wp2_with fail
      go_ret
      exact ⟨q, rfl, HQ.out, HTAB.out, HBEL.out⟩
theorem sct_size : (Tryd.prog.info? 35).map (·.size) = some 4 := by kernel_rfl
set_option maxHeartbeats 4000000 in
set_option maxRecDepth 100000 in
theorem sc_any (c0 c1 : Int) (w : World) : Calls Tryd.prog 8 #[.int .u32 c0, .int .u32 c1] w (KPost (.agg #[.int .u32 c0, .int .u32 c1, .int .u32 0, .int .u32 0]) w) := by
  go_enter Tryd.func8, Tryd.ntmps8
  go_wp2
  have HF := Lib.hid ((Blk.new w 35 #[.int .u32 c0, .int .u32 c1, .int .u32 0, .int .u32 0]).alloc (.cells #[.int .u32 c0, .int .u32 c1, .int .u32 0, .int .u32 0] 35))
  refine bodyPost_ret (results_cell_row rfl _ _ w.heap.size _ #[.int .u32 c0, .int .u32 c1, .int .u32 0, .int .u32 0] (0, 0) _ rfl HF.out Tryd.underlying35 rfl sct_size) rfl ?_
  exact ⟨rfl, only_alloc (only_alloc (World.grownBy.refl _ _) _) _⟩
set_option maxHeartbeats 1000000 in
set_option maxRecDepth 100000 in
theorem slotLen {o : Nat} {mo : Option Nat} {br gm : Nat} {gs cn : Nat → Nat} {cf pf : Nat → Nat → Int} (j : Nat) (hj : j < 4) (w : World) (h : RS o mo br gm gs cn cf pf w) :
    Calls Tryd.prog 26 #[.pointer (some ⟨br, 0, none⟩), .int .i64 j] w fun e w' => e = .returned (.int .i64 (cn j)) ∧ w = w' := by
  have c0 : w.cell? ⟨br, 1, none⟩ = some (slV gs cn 0) := h.blk.cell 1
  have c1 : w.cell? ⟨br, 2, none⟩ = some (slV gs cn 1) := h.blk.cell 2
  have c2 : w.cell? ⟨br, 3, none⟩ = some (slV gs cn 2) := h.blk.cell 3
  have c3 : w.cell? ⟨br, 4, none⟩ = some (slV gs cn 3) := h.blk.cell 4
  unfold slV at c0 c1 c2 c3
  clear h
  rcases (by omega : j = 0 ∨ j = 1 ∨ j = 2 ∨ j = 3) with rfl | rfl | rfl | rfl
  all_goals
    go_enter Tryd.func26, Tryd.ntmps26
    go_wp2
    go_ret
    exact ⟨rfl, rfl⟩
set_option maxHeartbeats 1000000 in
set_option maxRecDepth 100000 in
theorem slotCount {o : Nat} {mo : Option Nat} {br gm : Nat} {gs cn : Nat → Nat} {cf pf : Nat → Nat → Int} (j k : Nat) (hj : j < 4) (hk : k < cn j) (hc : cn j ≤ 65536) (w : World) (h : RS o mo br gm gs cn cf pf w) :
    Calls Tryd.prog 27 #[.pointer (some ⟨br, 0, none⟩), .int .i64 j, .int .i64 k] w fun e w' => e = .returned (.int .u32 (cf j k)) ∧ w = w' := by
  have c0 : w.cell? ⟨br, 1, none⟩ = some (slV gs cn 0) := h.blk.cell 1
  have c1 : w.cell? ⟨br, 2, none⟩ = some (slV gs cn 1) := h.blk.cell 2
  have c2 : w.cell? ⟨br, 3, none⟩ = some (slV gs cn 2) := h.blk.cell 3
  have c3 : w.cell? ⟨br, 4, none⟩ = some (slV gs cn 3) := h.blk.cell 4
  have d := (h.slt j hj).cnt hk
  unfold slV at c0 c1 c2 c3
  clear h
  rcases (by omega : j = 0 ∨ j = 1 ∨ j = 2 ∨ j = 3) with rfl | rfl | rfl | rfl
  all_goals
    go_enter Tryd.func27, Tryd.ntmps27
    go_wp2
    go_ret
    exact ⟨rfl, rfl⟩
set_option maxHeartbeats 1000000 in
set_option maxRecDepth 100000 in
theorem slotCap {o : Nat} {mo : Option Nat} {br gm : Nat} {gs cn : Nat → Nat} {cf pf : Nat → Nat → Int} (j k : Nat) (hj : j < 4) (hk : k < cn j) (hc : cn j ≤ 65536) (w : World) (h : RS o mo br gm gs cn cf pf w) :
    Calls Tryd.prog 28 #[.pointer (some ⟨br, 0, none⟩), .int .i64 j, .int .i64 k] w fun e w' => e = .returned (.int .u32 (pf j k)) ∧ w = w' := by
  have c0 : w.cell? ⟨br, 1, none⟩ = some (slV gs cn 0) := h.blk.cell 1
  have c1 : w.cell? ⟨br, 2, none⟩ = some (slV gs cn 1) := h.blk.cell 2
  have c2 : w.cell? ⟨br, 3, none⟩ = some (slV gs cn 2) := h.blk.cell 3
  have c3 : w.cell? ⟨br, 4, none⟩ = some (slV gs cn 3) := h.blk.cell 4
  have d := (h.slt j hj).cap_ hk
  unfold slV at c0 c1 c2 c3
  clear h
  rcases (by omega : j = 0 ∨ j = 1 ∨ j = 2 ∨ j = 3) with rfl | rfl | rfl | rfl
  all_goals
    go_enter Tryd.func28, Tryd.ntmps28
    go_wp2
    go_ret
    exact ⟨rfl, rfl⟩
def TrueSame (w : World) (e : Ending) (w' : World) : Prop := e = .returned (.bool true) ∧ w = w'
set_option maxHeartbeats 4000000 in
set_option maxRecDepth 100000 in
theorem sameSlots {o o' : Nat} {mo mo' : Option Nat} {br br' gm gm' : Nat} {gs gs' cn : Nat → Nat} {cf pf : Nat → Nat → Int} (hc : ∀ j, j < 4 → cn j ≤ 65536) (w : World) (h : RS o mo br gm gs cn cf pf w) (h' : RS o' mo' br' gm' gs' cn cf pf w) :
    Calls Tryd.prog 12 #[.pointer (some ⟨br, 0, none⟩), .pointer (some ⟨br', 0, none⟩)] w (TrueSame w) := by
  have H := Lib.hid h; have H' := Lib.hid h'; have HC := Lib.hid hc
  clear h h' hc
  go_enter Tryd.func12, Tryd.ntmps12
  go_wp2
  go_loop [5, 6, 7] (fun a b c => ∃ j : Nat, a = .int .i64 j ∧ j ≤ 4) (fun a b c => 4 - (intOf a).toNat)
  case atStart => exact ⟨0, rfl, by omega⟩
  case round =>
    obtain ⟨j, rfl, hj⟩ := hrel
    by_cases hlt : j < 4
    · have hcj := HC.out j hlt
      go_wp2_with (go_at_call 26; (first | (with_reducible refine (slotLen j hlt _ H.out).mono ?_) | (with_reducible refine (slotLen j hlt _ H'.out).mono ?_)); rintro e wz ⟨rfl, rfl⟩)
      go_loop [7] (fun c => ∃ k : Nat, c = .int .i64 k ∧ k ≤ cn j) (fun c => cn j - (intOf c).toNat)
      case atStart => exact ⟨0, rfl, by omega⟩
      case round =>
        obtain ⟨k, rfl, hk⟩ := hrel
        by_cases hkl : k < cn j
        · go_wp2_with (first | (go_at_call 27; (first | (with_reducible refine (slotCount j k hlt hkl hcj _ H.out).mono ?_) | (with_reducible refine (slotCount j k hlt hkl hcj _ H'.out).mono ?_)); rintro e wz ⟨rfl, rfl⟩) | (go_at_call 28; (first | (with_reducible refine (slotCap j k hlt hkl hcj _ H.out).mono ?_) | (with_reducible refine (slotCap j k hlt hkl hcj _ H'.out).mono ?_)); rintro e wz ⟨rfl, rfl⟩))
          go_round
          case rel => exact ⟨k + 1, by go_num, by omega⟩
          case measure => simp [intOf]; omega
        · obtain rfl : k = cn j := by omega
          go_wp2
          go_round
          case rel => exact ⟨j + 1, by go_num, by omega⟩
          case measure => simp [intOf]; omega
    · obtain rfl : j = 4 := by omega
      go_wp2
      go_ret
      exact ⟨rfl, rfl⟩
def AnyBool (w : World) (e : Ending) (w' : World) : Prop := ∃ b, e = .returned (.bool b) ∧ w = w'
set_option maxHeartbeats 4000000 in
set_option maxRecDepth 100000 in
theorem zbytes (A1 : Option Addr) (n1 c1 : Nat) (A2 : Option Addr) (n2 c2 : Nat) (A3 : Option Addr) (n3 c3 : Nat) (k0 : Int) (A4 : Option Addr) (n4 c4 : Nat) (A5 : Option Addr) (n5 c5 : Nat) (A6 : Option Addr) (n6 c6 : Nat) (k1 : Int) (w : World)
    (l1 : n1 ≤ 9223372036854775807) (l2 : n2 ≤ 9223372036854775807) (l3 : n3 ≤ 9223372036854775807) (l4 : n4 ≤ 9223372036854775807) (l5 : n5 ≤ 9223372036854775807) (l6 : n6 ≤ 9223372036854775807) :
    Calls Tryd.prog 4 #[.slice A1 n1 c1, .slice A2 n2 c2, .slice A3 n3 c3, .int .u32 k0, .slice A4 n4 c4, .slice A5 n5 c5, .slice A6 n6 c6, .int .u32 k1] w (AnyBool w) := by
  go_enter Tryd.func4, Tryd.ntmps4
  go_wp2
  all_goals (go_ret; exact ⟨_, rfl, rfl⟩)
end Go.Proofs.YtdmllmipcfkaaaaDoor
