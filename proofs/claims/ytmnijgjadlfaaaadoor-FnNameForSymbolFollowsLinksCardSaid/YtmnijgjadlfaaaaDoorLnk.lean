/- Roots of links that point to earlier symbols, and the law's own maker of a linked table (zzLinkedSymbols). -/
import Derived.Test.YtmnijgjadlfaaaaDoorNub
import Derived.Deep.Light
namespace Go.Proofs.YtmnijgjadlfaaaaDoor
open Go.RowKit
set_option linter.unusedVariables false
set_option linter.unusedSimpArgs false

/-- The end of the chain of links. -/
def root (L : Nat → Int) (k : Nat) : Nat := if h : 0 ≤ L k ∧ (L k).toNat < k then root L (L k).toNat else k
  termination_by k
  decreasing_by exact h.2
theorem root_step {L : Nat → Int} {k : Nat} (h0 : 0 ≤ L k) (h1 : L k < k) : root L k = root L (L k).toNat := by
  rw [root, dif_pos ⟨h0, by omega⟩]
theorem root_end {L : Nat → Int} {k : Nat} (h0 : ¬ 0 ≤ L k) : root L k = k := by
  rw [root, dif_neg (fun h => h0 h.1)]
theorem root_le (L : Nat → Int) : ∀ k, root L k ≤ k ∧ root L (root L k) = root L k := by
  intro k
  induction k using Nat.strongRecOn with
  | ind k ih =>
    by_cases h : 0 ≤ L k ∧ (L k).toNat < k
    · have e : root L k = root L (L k).toNat := by rw [root, dif_pos h]
      have := ih _ h.2
      rw [e]
      exact ⟨by omega, this.2⟩
    · have e : root L k = k := by rw [root, dif_neg h]
      rw [e]; exact ⟨Nat.le_refl _, e⟩
theorem roots_root (n : Nat) (L : Nat → Int) : Roots n (root L) := fun m _ => root_le L m
theorem Syms.ext {w : World} {g n k : Nat} {nm : Nat → ByteArray} {la lb la' lb' : Nat → Int} (h : Syms w g n k nm la lb) (hE : ∀ m, m < k → la m = la' m ∧ lb m = lb' m) : Syms w g n k nm la' lb' := by
  obtain ⟨cs, h1, h2, h3⟩ := h
  exact ⟨cs, h1, h2, fun m hm => by rw [← (hE m hm).1, ← (hE m hm).2]; exact h3 m hm⟩
def lkA (L : Nat → Int) (k m : Nat) : Int := if m < k ∧ 0 ≤ L m then 0 else 4294967295
def lkB (L : Nat → Int) (k m : Nat) : Int := if m < k ∧ 0 ≤ L m then L m else 4294967295
theorem linked_of {w : World} {g n : Nat} {nm : Nat → ByteArray} {L : Nat → Int} (hL : ∀ k, k < n → L k < k) (h : Syms w g n n nm (lkA L n) (lkB L n)) : Linked w g n nm (root L) 0 := by
  refine ⟨_, _, h, fun m hm => ?_⟩
  by_cases h0 : 0 ≤ L m
  · have := hL m hm
    refine .inr ⟨(L m).toNat, by unfold lkA; rw [if_pos ⟨hm, h0⟩]; rfl, by unfold lkB; rw [if_pos ⟨hm, h0⟩]; omega, by omega, (root_step h0 this).symm⟩
  · exact .inl ⟨by unfold lkA; rw [if_neg (fun h => h0 h.2)], by unfold lkB; rw [if_neg (fun h => h0 h.2)], root_end h0⟩
def LnkPost (w : World) (n : Nat) (ss : List ByteArray) (L : Nat → Int) (e : Ending) (w' : World) : Prop :=
  ∃ g, e = .returned (.slice (some ⟨g, 0, none⟩) n n) ∧ w.heap.size ≤ g ∧ Linked w' g n (fun m => ss.getD m ByteArray.empty) (root L) 0 ∧ Below w.heap.size w w'
set_option maxHeartbeats 2000000 in
set_option maxRecDepth 100000 in
theorem linkedS (A : Option Addr) (n c : Nat) (ss : List ByteArray) (A2 : Option Addr) (c2 : Nat) (zs : List Int) (w : World) (h : Lv.ok w w.heap.size ⟨A, n, c, ss⟩) (h2 : Reads w w.heap.size 1 A2 n (zs.map (Value.int .i32))) (hn : n ≤ 4096)
    (hL : ∀ k, k < n → zs.getD k 0 < k) :
    Calls Tryd.prog 14 #[.slice A n c, .slice A2 n c2] w (LnkPost w n ss (fun m => zs.getD m 0)) := by
  have H := Lib.hid h; have H2 := Lib.hid h2; have HL := Lib.hid hL
  have hlen : zs.length = n := by have := h2.1; simpa using this
  have HLEN := Lib.hid hlen
  clear h h2 hL hlen
  go_enter Tryd.func14, Tryd.ntmps14
  go_wp2_with (go_at_call 8; refine (plain A n c ss _ H.out (by omega)).mono ?_)
  rintro e w1 ⟨g, rfl, hg, hsy, hb⟩
  have HS : Hid (Syms w1 g n n (fun m => ss.getD m ByteArray.empty) (lkA (fun m => zs.getD m 0) 0) (lkB (fun m => zs.getD m 0) 0)) := Lib.hid (hsy.ext (fun m hm => ⟨by unfold lkA; rw [if_neg (by omega)], by unfold lkB; rw [if_neg (by omega)]⟩))
  have HB := Lib.hid hb
  clear hsy hb
  go_wp2
  go_loopw [6] (fun t wr => ∃ k : Nat, t = .int .i64 k ∧ k ≤ n ∧ Syms wr g n n (fun m => ss.getD m ByteArray.empty) (lkA (fun m => zs.getD m 0) k) (lkB (fun m => zs.getD m 0) k) ∧ Below w.heap.size w wr) (fun t _ => n - (intOf t).toNat)
  case atStart => exact ⟨0, rfl, by omega, HS.out, HB.out⟩
  case round =>
    clear HS HB
    obtain ⟨k, rfl, hk, hp, hb⟩ := hrel
    have HP := Lib.hid hp; have HB := Lib.hid hb
    by_cases hlt : k < n
    · obtain ⟨b, off, e1, hbk, hc⟩ := reads_any (H2.out.below hb) (by omega)
      subst e1
      obtain ⟨x, hx⟩ : ∃ x, zs[k]? = some x := ⟨_, List.getElem?_eq_getElem (by have := HLEN.out; omega)⟩
      have c0 := hc k x hx
      have hxx : zs.getD k 0 = x := by rw [List.getD_eq_getElem?_getD, hx]; rfl
      have hxk : x < k := by rw [← hxx]; exact HL.out k hlt
      obtain ⟨v2, d2⟩ := hp.old (show k * 10 + 2 < n * 10 by omega)
      obtain ⟨v3, d3⟩ := hp.old (show k * 10 + 3 < n * 10 by omega)
      have z2 := hp.frozen (k * 10 + 2)
      have z3 := hp.frozen (k * 10 + 3)
      by_cases h0 : 0 ≤ x
      · obtain ⟨y, rfl⟩ : ∃ y : Nat, x = y := ⟨x.toNat, by omega⟩
        have hw32 : IntKind.u32.wrap (y : Int) = y := by first | (rw [IntKind.wrap_u32]; omega) | (simp [IntKind.wrap, IntKind.bits, IntKind.signed]; omega)
        have HN : Hid (Syms ((wr.setCell ⟨g, k * 10 + 2, none⟩ (.int .u32 0)).setCell ⟨g, k * 10 + 3, none⟩ (.int .u32 (y : Nat))) g n n (fun m => ss.getD m ByteArray.empty) (lkA (fun m => zs.getD m 0) (k + 1)) (lkB (fun m => zs.getD m 0) (k + 1))) := Lib.hid ((hp.setLink hlt (Nat.le_refl _) 0 y).ext (fun m hm => by
          unfold lkA lkB
          by_cases e : m = k
          · subst e
            have i2 : m < m + 1 ∧ 0 ≤ zs.getD m 0 := ⟨by omega, by rw [hxx]; omega⟩
            constructor
            · show (if m = m then (0 : Int) else _) = if m < m + 1 ∧ 0 ≤ zs.getD m 0 then 0 else _
              rw [if_pos rfl, if_pos i2]
            · show (if m = m then (y : Int) else _) = if m < m + 1 ∧ 0 ≤ zs.getD m 0 then zs.getD m 0 else _
              rw [if_pos rfl, if_pos i2, hxx]
          · have i1 : (m < k + 1 ∧ 0 ≤ zs.getD m 0) ↔ (m < k ∧ 0 ≤ zs.getD m 0) := by constructor <;> rintro ⟨q1, q2⟩ <;> exact ⟨by omega, q2⟩
            constructor <;> simp only [i1, if_neg e]))
        have HBN := Lib.hid ((hb.setCell (p := ⟨g, k * 10 + 2, none⟩) hg (.int .u32 0)).setCell (p := ⟨g, k * 10 + 3, none⟩) hg (.int .u32 (y : Nat)))
        clear hp hb hc hx hxx
        go_wp2
        go_roundw
        case rel => exact ⟨k + 1, by go_num, by omega, HN.out, HBN.out⟩
        case measure => simp [intOf]; omega
      · have HN : Hid (Syms wr g n n (fun m => ss.getD m ByteArray.empty) (lkA (fun m => zs.getD m 0) (k + 1)) (lkB (fun m => zs.getD m 0) (k + 1))) := Lib.hid (hp.ext (fun m hm => by
          unfold lkA lkB
          by_cases e : m = k
          · subst e
            simp only [hxx]
            rw [if_neg (fun h => h0 h.2), if_neg (fun h => h0 h.2), if_neg (fun h => h0 h.2), if_neg (fun h => h0 h.2)]; exact ⟨rfl, rfl⟩
          · have i1 : (m < k + 1 ∧ 0 ≤ zs.getD m 0) ↔ (m < k ∧ 0 ≤ zs.getD m 0) := by constructor <;> rintro ⟨q1, q2⟩ <;> exact ⟨by omega, q2⟩
            constructor <;> simp only [i1]))
        clear hp hb hc hx hxx
        go_wp2
        go_roundw
        case rel => exact ⟨k + 1, by go_num, by omega, HN.out, HB.out⟩
        case measure => simp [intOf]; omega
    · obtain rfl : n = k := by omega
      clear hp hb
      go_wp2
      go_ret
      exact ⟨_, rfl, hg, linked_of HL.out HP.out, HB.out⟩
end Go.Proofs.YtmnijgjadlfaaaaDoor
