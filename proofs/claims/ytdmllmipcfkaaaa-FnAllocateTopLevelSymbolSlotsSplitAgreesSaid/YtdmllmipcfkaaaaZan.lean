/- n011_287, SplitAgrees: the entries, the slot of a symbol. -/
import Derived.Test.YtdmllmipcfkaaaaZam
namespace Go.Proofs.Ytdmllmipcfkaaaa
open Go.RowKit Go.Maps Go.WideMaps
set_option linter.unusedVariables false
set_option linter.unusedSimpArgs false
/-- Entry m: symbol and count. -/
def entF (nn : Nat) (rs cts : List Int) (m : Nat) : Nat × Int := ((rs.getD m 0 % (nn : Int)).toNat, cts.getD m 0)
/-- Block g holds n entries; the first k of them are laid. -/
def EntT (w : World) (g n k nn : Nat) (rs cts : List Int) : Prop :=
  ∃ cs : Array Value, Blk w g 71 cs ∧ cs.size = n * 4 ∧ ∀ m, m < k → cs[m * 4]? = some (.int .u32 m) ∧ cs[m * 4 + 1]? = some (.int .u32 0) ∧ cs[m * 4 + 2]? = some (.int .u32 (entF nn rs cts m).1) ∧ cs[m * 4 + 3]? = some (.int .u32 (entF nn rs cts m).2)
theorem EntT.step {w : World} {g n k nn : Nat} {rs cts : List Int} (h : EntT w g n k nn rs cts) (hk : k < n) (i : Nat) (x : Int) (hx : entF nn rs cts k = (i, x)) :
    EntT ((((w.setCell ⟨g, k * 4, none⟩ (.int .u32 k)).setCell ⟨g, k * 4 + 1, none⟩ (.int .u32 0)).setCell ⟨g, k * 4 + 2, none⟩ (.int .u32 i)).setCell ⟨g, k * 4 + 3, none⟩ (.int .u32 x)) g n (k + 1) nn rs cts := by
  obtain ⟨cs, hb, hs, hc⟩ := h
  refine ⟨_, (((hb.set_ _ _).set_ _ _).set_ _ _).set_ _ _, by simpa using hs, fun m hm => ?_⟩
  simp only [Array.getElem?_setIfInBounds, Array.size_setIfInBounds, hs]
  by_cases e : m = k
  · subst e
    rw [hx]
    refine ⟨?_, ?_, ?_, ?_⟩
    · rw [if_neg (by omega), if_neg (by omega), if_neg (by omega), if_pos rfl, if_pos (by omega)]
    · rw [if_neg (by omega), if_neg (by omega), if_pos rfl, if_pos (by omega)]
    · rw [if_neg (by omega), if_pos rfl, if_pos (by omega)]
    · rw [if_pos rfl, if_pos (by omega)]
  · obtain ⟨h0, h1, h2, h3⟩ := hc m (by omega)
    refine ⟨?_, ?_, ?_, ?_⟩
    · rw [if_neg (by omega), if_neg (by omega), if_neg (by omega), if_neg (by omega)]; exact h0
    · rw [if_neg (by omega), if_neg (by omega), if_neg (by omega), if_neg (by omega)]; exact h1
    · rw [if_neg (by omega), if_neg (by omega), if_neg (by omega), if_neg (by omega)]; exact h2
    · rw [if_neg (by omega), if_neg (by omega), if_neg (by omega), if_neg (by omega)]; exact h3
theorem EntT.grown {w w' : World} {g n k nn : Nat} {rs cts : List Int} (h : EntT w g n k nn rs cts) (hg : w.grownBy w' none) : EntT w' g n k nn rs cts := by
  obtain ⟨cs, hb, h2⟩ := h
  exact ⟨cs, hb.grown hg (by simp), h2⟩
theorem EntT.cells {w : World} {g n k j nn : Nat} {rs cts : List Int} (h : EntT w g n j nn rs cts) (hk : k < n) : ∃ u0 u1 u2 u3, w.cell? ⟨g, k * 4, none⟩ = some u0 ∧ w.cell? ⟨g, k * 4 + 1, none⟩ = some u1 ∧ w.cell? ⟨g, k * 4 + 2, none⟩ = some u2 ∧ w.cell? ⟨g, k * 4 + 3, none⟩ = some u3 := by
  obtain ⟨cs, hb, hs, _⟩ := h
  exact ⟨_, _, _, _, (hb.cell _).trans (Array.getElem?_eq_getElem (by omega)), (hb.cell _).trans (Array.getElem?_eq_getElem (by omega)), (hb.cell _).trans (Array.getElem?_eq_getElem (by omega)), (hb.cell _).trans (Array.getElem?_eq_getElem (by omega))⟩
theorem EntT.frozen {w : World} {g n k nn : Nat} {rs cts : List Int} (h : EntT w g n k nn rs cts) (i : Nat) : w.frozen? ⟨g, i, none⟩ = false := by obtain ⟨cs, hb, _⟩ := h; exact hb.frozen i
theorem sscI : (Try.prog.info? 71).map (fun i => (i.zero, i.size, i.bytes)) = some (some (.agg #[.int .u32 0, .int .u32 0, .int .u32 0, .int .u32 0]), 4, 16) := by kernel_rfl
def mkEn (n : Nat) : Array Value := madeCells (Value.cells (.agg #[.int .u32 0, .int .u32 0, .int .u32 0, .int .u32 0])) (n * 4)
def EntPost (w : World) (n nn : Nat) (rs cts : List Int) (e : Ending) (w' : World) : Prop :=
  ∃ g, e = .returned (.slice (some ⟨g, 0, none⟩) n n) ∧ w.heap.size ≤ g ∧ EntT w' g n n nn rs cts ∧ Below w.heap.size w w'
set_option maxHeartbeats 8000000 in
set_option maxRecDepth 100000 in
theorem entries_any (nn : Nat) (hnn : 0 < nn) (hnn2 : nn ≤ 65536) (A : Option Addr) (n c : Nat) (rs : List Int) (A2 : Option Addr) (n2 c2 : Nat) (cts : List Int) (w : World) (hr : Reads w w.heap.size 1 A n (rs.map (Value.int .u32))) (hr2 : Reads w w.heap.size 1 A2 n2 (cts.map (Value.int .u32))) (hn : n ≤ 65536) (hn2 : n2 ≤ 65536) (hx : ∀ x ∈ rs, 0 ≤ x ∧ x ≤ 4294967295) :
    Calls Try.prog 8 #[.int .i64 (nn : Int), .slice A n c, .slice A2 n2 c2] w (EntPost w n nn rs cts) := by
  obtain ⟨i0, hi, hz0, hz1, hz2⟩ := info_parts sscI
  have hlen : rs.length = n := by have := hr.1; simpa using this
  have hmk : ∀ W : World, (Instr.makeSlice 37 (.int .i64 (n : Int)) (.int .i64 (n : Int))).run Try.prog W = .ok (.slice (some ⟨W.heap.size, 0, none⟩) n n) (W.alloc (.cells (mkEn n) 71)) := fun W => by
    have hr := run_make (P := Try.prog) W 37 71 i0 (.agg #[.int .u32 0, .int .u32 0, .int .u32 0, .int .u32 0]) Try.underlying37 hi hz0 .i64 .i64 n n (by omega) (by omega) (by rw [hz2]; omega) (by omega)
    simp only [Int.toNat_natCast, hz1] at hr
    exact hr
  have HR := Lib.hid hr; have HR2 := Lib.hid hr2; have HL := Lib.hid hlen; have HX := Lib.hid hx
  obtain ⟨W0, hW0⟩ : ∃ W0, W0 = w.alloc (.cells (mkEn n) 71) := ⟨_, rfl⟩
  obtain ⟨q, hq⟩ : ∃ q, q = w.heap.size := ⟨_, rfl⟩
  have HP0 : Hid (EntT W0 q n 0 nn rs cts) := Lib.hid (by rw [hW0, hq]; exact ⟨_, Blk.new _ _ _, by simp [mkEn, madeCells, Value.cells], fun m hm => by omega⟩)
  have HB0 : Hid (Below w.heap.size w W0) := Lib.hid (by rw [hW0]; exact (Below.refl _ w).alloc (Nat.le_refl _) _)
  have HQ : Hid (w.heap.size ≤ q) := Lib.hid (by omega)
  have HW0 := Lib.hid hW0; have HG := Lib.hid hq
  clear hr hr2 hlen hx hW0 hq
  go_enter Try.func8, Try.ntmps8
  go_upto_region 2 with fail
  rw [← HW0.out, ← HG.out]
  clear HW0 HG hmk
  go_wp2_with fail
  go_loopw [8, 9] (fun c s1 wr => ∃ k : Nat, c = .int .i64 k ∧ k ≤ n ∧ EntT wr q n k nn rs cts ∧ Below w.heap.size w wr) (fun c s1 _ => n - (intOf c).toNat)
  case atStart => exact ⟨0, rfl, by omega, HP0.out, HB0.out⟩
  case round =>
    obtain ⟨k, rfl, hk, hp, hb⟩ := hrel
    have HP := Lib.hid hp; have HB := Lib.hid hb
    clear hp hb
    by_cases hlt : k < n
    · obtain ⟨b5, o5, rfl, hb5, hc5⟩ := reads_any HR.out (show 0 < n by omega)
      obtain ⟨rv, hrv⟩ : ∃ x, rs[k]? = some x := ⟨_, List.getElem?_eq_getElem (by have := HL.out; omega)⟩
      have ck : wr.cell? ⟨b5, o5 + k, none⟩ = some (.int .u32 rv) := (HB.out.cell (p := ⟨b5, o5 + k, none⟩) hb5).trans (hc5 k rv hrv)
      have rg := HX.out rv (List.mem_of_getElem? hrv)
      obtain ⟨i, hi⟩ : ∃ i : Nat, rv % (nn : Int) = i := ⟨(rv % (nn : Int)).toNat, by have := Int.emod_nonneg rv (show (nn : Int) ≠ 0 by omega); omega⟩
      have hil : i < nn := by have := Int.emod_lt_of_pos rv (show 0 < (nn : Int) by omega); omega
      have hw1 : IntKind.u32.wrap (nn : Int) = nn := by rw [IntKind.wrap_u32]; omega
      have hw2 : IntKind.i64.wrap (i : Int) = i := IntWalk.i64_in _ (by omega)
      have hw3 : IntKind.u32.wrap (k : Int) = k := by rw [IntKind.wrap_u32]; omega
      have t0 : ((nn : Int) == 0) = false := by rw [beq_eq_false_iff_ne]; omega
      have t1 : ¬ ((nn : Int) = 0) := by omega
      obtain ⟨cv, hcv⟩ : ∃ x, x = cts.getD k 0 := ⟨_, rfl⟩
      have HEN : Hid (entF nn rs cts k = (i, cv)) := Lib.hid (by
        unfold entF
        rw [List.getD_eq_getElem?_getD, hrv, Option.getD_some, hi, hcv, Int.toNat_natCast])
      have hcvs := hcv.symm
      have HCV := Lib.hid hcv
      clear hc5 hrv hcv hcvs
      go_upto_region 6 with fail
      clear ck t0 t1 rg hi
      go_wp2_with (go_at_call 12; refine (ref_any i (by omega) _).mono ?_)
      rintro e w5 ⟨rfl, hg5⟩
      have HP5 := Lib.hid (HP.out.grown hg5)
      have HB5 := Lib.hid (HB.out.grown hg5 HB.out.size (fun k hk => by cases hk))
      have HWO := Lib.hid (word_any A2 n2 c2 cts k w5 ((HR2.out.below HB5.out).more HB5.out.size) (by omega))
      rw [← HCV.out] at HWO
      clear hg5 HP HB
      obtain ⟨u0, u1, u2, u3, z0, z1, z2, z3⟩ := HP5.out.cells hlt
      have y0 := HP5.out.frozen (k * 4); have y1 := HP5.out.frozen (k * 4 + 1); have y2 := HP5.out.frozen (k * 4 + 2); have y3 := HP5.out.frozen (k * 4 + 3)
      have HFN := Lib.hid (HP5.out.step hlt i cv HEN.out)
      have HFB := Lib.hid ((((HB5.out.setCell (p := ⟨q, k * 4, none⟩) HQ.out (.int .u32 k)).setCell (p := ⟨q, k * 4 + 1, none⟩) HQ.out (.int .u32 0)).setCell (p := ⟨q, k * 4 + 2, none⟩) HQ.out (.int .u32 i)).setCell (p := ⟨q, k * 4 + 3, none⟩) HQ.out (.int .u32 cv))
      go_wp2_with (go_at_call 18; refine HWO.out.mono ?_; rintro e w' ⟨rfl, rfl⟩)
      go_roundw
      case rel => exact ⟨k + 1, by go_num, by omega, HFN.out, HFB.out⟩
      case measure => simp [intOf]; omega
    · obtain rfl : k = n := by omega
      go_wp2
      go_ret
      exact ⟨_, rfl, HQ.out, HP.out, HB.out⟩
end Go.Proofs.Ytdmllmipcfkaaaa
