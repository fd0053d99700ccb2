/- The walk of AdvanceBytes: what it leaves in the two cells of its receiver. -/
import Derived.Test.YtkciffbedngdnaaDoorRows
import Derived.Test.YtkciffbedngdnaaDoorDec
import Derived.Test.YtkciffbedngdnaaDoorDrn
import Derived.Test.YtkciffbedngdnaaDoorLine
import Derived.Test.YtkciffbedngdnaaDoorWords
import Derived.WalkKit
import Derived.WalkSpells
import Derived.LoopTactic
import Derived.Outline
import Derived.Deep.Light
namespace Go.Proofs.YtkciffbedngdnaaDoor
open Go.RowKit
set_option linter.unusedVariables false
set_option linter.unusedSimpArgs false

theorem byte_out (s : ByteArray) (i : Nat) (h : ¬ i < s.size) : byteAt s i = 0 := by
  unfold byteAt
  obtain ⟨d⟩ := s
  show (d[i]!).toNat = 0
  rw [getElem!_neg d i (by exact h)]; rfl
theorem cut_size (s : ByteArray) (pos : Nat) : (s.extract pos s.size).size = s.size - pos := by rw [ByteArray.size_extract]; omega
theorem byte_cut (s : ByteArray) (pos k : Nat) : byteAt (s.extract pos s.size) k = byteAt s (pos + k) := by
  by_cases h : k < s.size - pos
  · rw [byteAt_eq _ _ (by rw [cut_size]; exact h), byteAt_eq _ _ (by omega), ByteArray.getElem_extract]
  · rw [byte_out _ _ (by rw [cut_size]; exact h), byte_out _ _ (by omega)]
theorem decode_cut (s : ByteArray) (pos : Nat) (h : pos < s.size) : Lib.decodeGo (s.extract pos s.size) = Utf8.decode s pos := by
  have e : Lib.decodeGo (s.extract pos s.size) = Utf8.decode (s.extract pos s.size) 0 := by
    unfold Lib.decodeGo
    rw [if_neg (by rw [cut_size]; omega)]
  rw [e, decode_dec, decode_dec, byte_cut, byte_cut, byte_cut, byte_cut, cut_size]
  simp
theorem decode_fit (s : ByteArray) (pos : Nat) (h : pos < s.size) : (Utf8.decode s pos).2 ≤ s.size - pos := by
  rw [decode_dec]
  generalize byteAt s pos = b0
  generalize byteAt s (pos + 1) = b1
  generalize byteAt s (pos + 2) = b2
  generalize byteAt s (pos + 3) = b3
  have hn : 1 ≤ s.size - pos := by omega
  generalize s.size - pos = n at hn
  unfold dec
  repeat' split
  all_goals first | (simp; done) | (simp; omega) | (simp_all; omega)
def sliceLen : Value → Nat
  | .slice _ n _ => n
  | _ => 0
def baseB (C : Int) (n : Nat) : Int := if n = 0 then C else 0
def DrPost (c wd : Nat) (w : World) (e : Ending) (w' : World) : Prop := e = .returned (.tuple #[.int .i32 c, .int .i64 wd]) ∧ Below w.heap.size w w'
theorem decodeAt (s : ByteArray) (gb pos c wd : Nat) (w : World) (hT : Lib.Utf8Tabs 0 1 w) (hpos : pos < s.size) (hd : Utf8.decode s pos = (c, wd)) (hp : ∀ j, j < s.size → w.cell? ⟨gb, j, none⟩ = some (.int .u8 (s.get! j).toNat)) :
    Calls Tryd.prog 8 #[.slice (some ⟨gb, pos, none⟩) (s.size - pos : Nat) (s.size - pos)] w (DrPost c wd w) := by
  have h := decodeR (s.extract pos s.size) gb pos (s.size - pos) w hT (fun j hj => by
    rw [cut_size] at hj
    rw [hp (pos + j) (by omega)]
    have := byte_cut s pos j
    unfold byteAt at this
    rw [this])
  rw [decode_cut s pos hpos, hd, cut_size] at h
  exact h
structure AdS (s : ByteArray) (R : Nat × Nat × Nat) (w W : World) (gb bo : Nat) (L C : Int) (pos n u t : Nat) : Prop where
  ln : lineF s pos n u t = R
  blk : Blk W bo 26 #[.int .i64 (wrap64 (L + n)), .int .i64 C]
  gr : w.grownBy W (some bo)
  np : n ≤ pos
  up : u ≤ 2 * pos
theorem cut_at (gb pos n k : Nat) (hk : k ≤ n) (h1 : 1 ≤ k) (hn : n ≤ 1048576) (W : World) : (Instr.slice 22 (.slice (some ⟨gb, pos, none⟩) n n) (some (.int .i64 (k : Int))) none none).run Tryd.prog W = .ok (.slice (some ⟨gb, if n = k then pos else pos + k, none⟩) (n - k) (n - k)) W := by
  have he : Tryd.prog.elem 22 = 5 := by kernel_rfl
  have hu : Tryd.prog.underlying 22 = some (.slice (Tryd.prog.elem 22)) := by kernel_rfl
  rw [run_slice_l W 22 (some ⟨gb, pos, none⟩) n n hu .i64 (k : Int) (by omega) (by omega), he, Tryd.sizeOf5]
  by_cases h0 : n = k
  · simp [sliced, Addr.add, h0]
  · have : ¬ k = 0 := by omega
    simp [sliced, Addr.add, h0, this]
theorem AdS.keep {s : ByteArray} {R : Nat × Nat × Nat} {w W W' : World} {gb bo : Nat} {L C : Int} {pos n u t : Nat} (h : AdS s R w W gb bo L C pos n u t) (hb : Below W.heap.size W W') {pos' u' : Nat} (hl : lineF s pos' n u' t = R) (h1 : n ≤ pos') (h2 : u' ≤ 2 * pos') : AdS s R w W' gb bo L C pos' n u' t :=
  ⟨hl, h.blk.below hb h.blk.lt, h.gr.trans (only_of_below hb _), h1, h2⟩
theorem AdS.brk {s : ByteArray} {R : Nat × Nat × Nat} {w W W' : World} {gb bo : Nat} {L C : Int} {pos n u t : Nat} (h : AdS s R w W gb bo L C pos n u t) (hb : Below W.heap.size W W') {pos' : Nat} (hl : lineF s pos' (n + 1) 0 pos' = R) (h1 : n + 1 ≤ pos') :
    AdS s R w (W'.setCell ⟨bo, 0, none⟩ (.int .i64 (wrap64 (wrap64 (L + n) + 1)))) gb bo L C pos' (n + 1) 0 pos' := by
  have hk := h.blk.below hb h.blk.lt
  refine ⟨hl, ?_, only_setCell (p := ⟨bo, 0, none⟩) (h.gr.trans (only_of_below hb _)) (.inl rfl) _, h1, by omega⟩
  have e : wrap64 (wrap64 (L + n) + 1) = wrap64 (L + ((n + 1 : Nat) : Int)) := by unfold wrap64; omega
  rw [e]
  simpa using hk.set_ 0 (.int .i64 (wrap64 (L + ((n + 1 : Nat) : Int))))
set_option maxHeartbeats 2000000 in
set_option maxRecDepth 100000 in
theorem advB (s : ByteArray) (A : Option Addr) (gb bo : Nat) (L C : Int) (w : World) (hs : s.size ≤ 1048576) (hA : 0 < s.size → A = some ⟨gb, 0, none⟩) (hgb : gb < w.heap.size) (hne : gb ≠ bo)
    (hp : ∀ j, j < s.size → w.cell? ⟨gb, j, none⟩ = some (.int .u8 (s.get! j).toNat)) (hT : ∀ W : World, w.grownBy W (some bo) → Lib.Utf8Tabs 0 1 W) (hL : wrap64 L = L) (hC : wrap64 C = C) (hb : Blk w bo 26 #[.int .i64 L, .int .i64 C]) :
    Calls Tryd.prog 6 #[.pointer (some ⟨bo, 0, none⟩), .slice A (s.size : Nat) s.size] w fun e w' => e = .returned (.tuple #[]) ∧
      Blk w' bo 26 #[.int .i64 (wrap64 (L + (lineF s 0 0 0 0).1)), .int .i64 (wrap64 (baseB C (lineF s 0 0 0 0).1 + (lineF s 0 0 0 0).2.1))] ∧ w.grownBy w' (some bo) := by
  obtain ⟨R, hR⟩ : ∃ R, R = lineF s 0 0 0 0 := ⟨_, rfl⟩
  rw [← hR]
  have h1 : w.cell? ⟨bo, 1, none⟩ = some (.int .i64 C) := hb.cell 1
  have HP := Lib.hid hp; have HT := Lib.hid hT; have HA := Lib.hid hA
  have HS0 : Hid (AdS s R w w gb bo L C 0 0 0 0) := Lib.hid ⟨hR.symm, by simpa [hL] using hb, World.grownBy.refl _ _, by omega, by omega⟩
  have HC := Lib.hid hC
  have hbl := hb.lt
  clear hp hT hA hL hC hb hR
  go_enter Tryd.func6, Tryd.ntmps6
  go_wp2
  go_loopw [1, 4] (fun v cv wr => ∃ (pos n u t : Nat) (A' : Option Addr) (x : Int), v = .slice A' (s.size - pos : Nat) (s.size - pos) ∧ (pos < s.size → A' = some ⟨gb, pos, none⟩) ∧ cv = .int .i64 x ∧ x = wrap64 (baseB C n + u) ∧ pos ≤ s.size ∧ AdS s R w wr gb bo L C pos n u t) (fun v _ _ => sliceLen v)
  case atStart => exact ⟨0, 0, 0, 0, A, C, rfl, HA.out, rfl, by unfold baseB; simp [HC.out], by omega, HS0.out⟩
  case round =>
    obtain ⟨pos, n, u, t, A', x, rfl, hA', rfl, hx, hpos, hst⟩ := hrel
    have HX := Lib.hid hx; have HST := Lib.hid hst
    have k0 : wr.cell? ⟨bo, 0, none⟩ = some (.int .i64 (wrap64 (L + n))) := hst.blk.cell 0
    have k1 : wr.cell? ⟨bo, 1, none⟩ = some (.int .i64 C) := hst.blk.cell 1
    have z0 : wr.frozen? ⟨bo, 0, none⟩ = false := hst.blk.frozen 0
    have z1 : wr.frozen? ⟨bo, 1, none⟩ = false := hst.blk.frozen 1
    by_cases hlt : pos < s.size
    · obtain rfl := hA' hlt
      obtain ⟨c, wd, hd⟩ : ∃ c wd, Utf8.decode s pos = (c, wd) := ⟨_, _, rfl⟩
      have hw : 1 ≤ wd := by have := line_width s pos hlt; rw [hd] at this; exact this
      have hwf : wd ≤ s.size - pos := by have := decode_fit s pos hlt; rw [hd] at this; exact this
      have HD := Lib.hid hd
      have HPW := Lib.hid (show ∀ j, j < s.size → wr.cell? ⟨gb, j, none⟩ = some (.int .u8 (s.get! j).toNat) from fun j hj => (World.cell?_of_block (hst.gr.block gb hgb (fun e => hne (Option.some.inj e)))).trans (HP.out j hj))
      have HTW := Lib.hid (HT.out wr hst.gr)
      clear hd hx hst hA'
      go_wp2_with (go_at_call 8; refine (decodeAt s gb pos c wd _ HTW.out hlt HD.out HPW.out).mono ?_)
      rintro e w1 ⟨rfl, hb1⟩
      obtain ⟨off2, hoff, hsl⟩ : ∃ off2, (pos + wd < s.size → some (⟨gb, off2, none⟩ : Addr) = some ⟨gb, pos + wd, none⟩) ∧ ∀ W : World, (Instr.slice 22 (.slice (some ⟨gb, pos, none⟩) (s.size - pos : Nat) (s.size - pos)) (some (.int .i64 (wd : Int))) none none).run Tryd.prog W = .ok (.slice (some ⟨gb, off2, none⟩) (s.size - (pos + wd) : Nat) (s.size - (pos + wd))) W := by
        exact ⟨if s.size - pos = wd then pos else pos + wd, fun h => by rw [if_neg (by omega)], fun W => by rw [cut_at gb pos (s.size - pos) wd hwf hw (by omega) W, show s.size - pos - wd = s.size - (pos + wd) by omega]⟩
      have HB1 := Lib.hid hb1
      have k0 : w1.cell? ⟨bo, 0, none⟩ = some (.int .i64 (wrap64 (L + n))) := (HST.out.blk.below hb1 HST.out.blk.lt).cell 0
      have z0 : w1.frozen? ⟨bo, 0, none⟩ = false := (HST.out.blk.below hb1 HST.out.blk.lt).frozen 0
      have HOFF := Lib.hid hoff
      have hc := decode_le s pos
      rw [HD.out] at hc
      have HUP := Lib.hid HST.out.up; have HNP := Lib.hid HST.out.np
      clear hb1 hoff
      by_cases h13 : c = 13
      · subst h13
        have hwd1 : wd = 1 := by
          have hd := HD.out
          by_cases ha : (s[pos]'hlt).toNat < 128
          · rw [decode_ascii s pos hlt ha] at hd; injection hd with _ h2; exact h2.symm
          · have := (decode_high s pos hlt (by omega)).1; rw [hd] at this; simp at this
        subst hwd1
        by_cases h1' : pos + 1 < s.size
        · obtain rfl : off2 = pos + 1 := by have := HOFF.out h1'; injection this with this; injection this
          have hlen : 0 < s.size - (pos + 1) := by omega
          have kn : w1.cell? ⟨gb, pos + 1, none⟩ = some (.int .u8 (s.get! (pos + 1)).toNat) := (HB1.out.cell (p := ⟨gb, pos + 1, none⟩) (Nat.lt_of_lt_of_le hgb HST.out.gr.size)).trans (HPW.out (pos + 1) h1')
          by_cases h10 : (s.get! (pos + 1)).toNat = 10
          · have HN := Lib.hid ((lineF_crlf (n := n) (u := u) (t := t) hlt HD.out ⟨rfl, h1', h10⟩).symm.trans HST.out.ln)
            have q10 : (((s.get! (pos + 1)).toNat : Int) == 10) = true := by rw [h10]; rfl
            generalize (s.get! (pos + 1)).toNat = by1 at *
            go_wp2
            go_roundw
            case rel => exact ⟨pos + 1, n, u + 1, t, _, _, rfl, (fun h => by first | rfl | exact HOFF.out h | (exfalso; omega)), rfl, by rw [HX.out]; unfold wrap64; omega, by omega, HST.out.keep HB1.out HN.out (by have := HNP.out; omega) (by have := HUP.out; omega)⟩
            case measure => simp [sliceLen]; omega
          · have HN := Lib.hid ((lineF_brk (n := n) (u := u) (t := t) hlt HD.out (fun h => h10 h.2.2) (.inl rfl)).symm.trans HST.out.ln)
            have q10 : (((s.get! (pos + 1)).toNat : Int) == 10) = false := by rw [beq_eq_false_iff_ne]; omega
            generalize (s.get! (pos + 1)).toNat = by1 at *
            go_wp2
            go_roundw
            case rel => exact ⟨pos + 1, n + 1, 0, pos + 1, _, _, rfl, (fun h => by first | rfl | exact HOFF.out h | (exfalso; omega)), rfl, by unfold baseB; rw [if_neg (by omega)]; simp [wrap64], by omega, HST.out.brk HB1.out HN.out (by have := HNP.out; omega)⟩
            case measure => simp [sliceLen]; omega
        · have HN := Lib.hid ((lineF_brk (n := n) (u := u) (t := t) hlt HD.out (fun h => h1' h.2.1) (.inl rfl)).symm.trans HST.out.ln)
          have hlen : s.size - (pos + 1) = 0 := by omega
          go_wp2
          go_roundw
          case rel => exact ⟨pos + 1, n + 1, 0, pos + 1, _, _, rfl, (fun h => by first | rfl | exact HOFF.out h | (exfalso; omega)), rfl, by unfold baseB; rw [if_neg (by omega)]; simp [wrap64], by omega, HST.out.brk HB1.out HN.out (by have := HNP.out; omega)⟩
          case measure => simp [sliceLen]; omega
      · have t13 : ((c : Int) == 13) = false := by simp; omega
        by_cases ht : isTerm c
        · have HN := Lib.hid ((lineF_brk (n := n) (u := u) (t := t) hlt HD.out (fun h => h13 h.1) ht).symm.trans HST.out.ln)
          have hcs : c = 10 ∨ c = 8232 ∨ c = 8233 := by unfold isTerm at ht; omega
          rcases hcs with rfl | rfl | rfl
          all_goals
            go_wp2
            go_roundw
            case rel => exact ⟨pos + wd, n + 1, 0, pos + wd, _, _, rfl, HOFF.out, rfl, by unfold baseB; rw [if_neg (by omega)]; simp [wrap64], by omega, HST.out.brk HB1.out HN.out (by have := HNP.out; omega)⟩
            case measure => simp [sliceLen]; omega
        · have t10 : ((c : Int) == 10) = false := by unfold isTerm at ht; simp; omega
          have t28 : ((c : Int) == 8232) = false := by unfold isTerm at ht; simp; omega
          have t29 : ((c : Int) == 8233) = false := by unfold isTerm at ht; simp; omega
          by_cases h16 : c ≤ 65535
          · have hu : units c = 1 := by unfold units; rw [if_pos h16]
            have HN := Lib.hid ((lineF_plain (n := n) (u := u) (t := t) hlt HD.out ht).symm.trans HST.out.ln)
            rw [hu] at HN
            go_wp2
            go_roundw
            case rel => exact ⟨pos + wd, n, u + 1, t, _, _, rfl, HOFF.out, rfl, by rw [HX.out]; unfold wrap64; omega, by omega, HST.out.keep HB1.out HN.out (by have := HNP.out; omega) (by have := HUP.out; omega)⟩
            case measure => simp [sliceLen]; omega
          · have hu : units c = 2 := by unfold units; rw [if_neg h16]
            have HN := Lib.hid ((lineF_plain (n := n) (u := u) (t := t) hlt HD.out ht).symm.trans HST.out.ln)
            rw [hu] at HN
            have hwd2 : 2 ≤ wd ∨ True := .inr trivial
            go_wp2
            go_roundw
            case rel => exact ⟨pos + wd, n, u + 2, t, _, _, rfl, HOFF.out, rfl, by rw [HX.out]; unfold wrap64; omega, by omega, HST.out.keep HB1.out HN.out (by have := HNP.out; omega) (by have := HUP.out; omega)⟩
            case measure => simp [sliceLen]; omega
    · obtain rfl : pos = s.size := by omega
      clear hx hst
      have hln := HST.out.ln
      rw [lineF_end hlt] at hln
      subst hln
      have HF := Lib.hid (HST.out.blk.set_ 1 (.int .i64 x))
      have HG := Lib.hid (only_setCell (p := ⟨bo, 1, none⟩) HST.out.gr (.inl rfl) (.int .i64 x))
      have e0 : s.size - s.size = 0 := by omega
      rw [e0]
      go_wp2
      go_end0
      exact ⟨rfl, by rw [← HX.out]; simpa using HF.out, HG.out⟩
end Go.Proofs.YtkciffbedngdnaaDoor
