/- The walk of AdvanceString: what it leaves in the two cells of its receiver. -/
import Derived.Test.YtniamejelnmdgaaRows
import Derived.Test.YtniamejelnmdgaaWords
import Derived.Test.YtniamejelnmdgaaAdv
import Derived.WalkKit
import Derived.ProofKit
import Derived.Outline
namespace Go.Proofs.Ytniamejelnmdgaa
open Go.RowKit
set_option linter.unusedVariables false

def AdvRel (s : ByteArray) (w : World) (b : Nat) (L C : Int) (c : Value) (w' : World) : Prop :=
  ∃ (W : World) (pos f n u : Nat) (x l : Int), c = .int .i64 x ∧ w' = W.iter s pos ∧ Blk W b 50 #[.int .i64 l, .int .i64 C] ∧ x = wrap64 (advBase C n + u) ∧ l = wrap64 (L + n) ∧
    advTo s f pos n u = advTo s s.size 0 0 0 ∧ s.size ≤ pos + f ∧ w.grownBy W (some b) ∧ W.heap.size = w.heap.size

structure AdvAt (s : ByteArray) (w : World) (b : Nat) (L C : Int) (W : World) (pos f n u : Nat) (x l : Int) (c wd : Nat) : Prop where
  blk : Blk W b 50 #[.int .i64 l, .int .i64 C]
  hx : x = wrap64 (advBase C n + u)
  hl : l = wrap64 (L + n)
  ht : advTo s f pos n u = advTo s s.size 0 0 0
  hf : s.size ≤ pos + f
  hg : w.grownBy W (some b)
  hz : W.heap.size = w.heap.size
  hp : pos < s.size
  hd : Utf8.decode s pos = (c, wd)
theorem AdvAt.wide {s : ByteArray} {w : World} {b : Nat} {L C : Int} {W : World} {pos f n u : Nat} {x l : Int} {c wd : Nat} (h : AdvAt s w b L C W pos f n u x l c wd) : 1 ≤ wd := by
  have := adv_width s pos h.hp; rw [h.hd] at this; exact this
theorem AdvAt.next {s : ByteArray} {w : World} {b : Nat} {L C : Int} {W : World} {pos f n u : Nat} {x l : Int} {c wd : Nat} (h : AdvAt s w b L C W pos f n u x l c wd) (n' u' : Nat) (hs : advStep s pos c n u = (n', u')) :
    ∃ f', advTo s f' (pos + wd) n' u' = advTo s s.size 0 0 0 ∧ s.size ≤ (pos + wd) + f' := by
  have h1 := h.wide
  have h2 := h.hp
  have h3 := h.hf
  have h4 := h.ht
  cases f with
  | zero => omega
  | succ f =>
    rw [advTo, if_pos h2, h.hd] at h4
    simp only [hs] at h4
    exact ⟨f, h4, by omega⟩
theorem AdvAt.plain {s : ByteArray} {w : World} {b : Nat} {L C : Int} {W : World} {pos f n u : Nat} {x l : Int} {c wd : Nat} (h : AdvAt s w b L C W pos f n u x l c wd) (d : Nat) (hs : advStep s pos c n u = (n, u + d)) (y : Int) (hy : y = wrap64 (x + d)) :
    AdvRel s w b L C (.int .i64 y) (W.iter s (pos + wd)) := by
  obtain ⟨f', h1, h2⟩ := h.next _ _ hs
  refine ⟨W, pos + wd, f', n, u + d, _, l, rfl, rfl, h.blk, ?_, h.hl, h1, h2, h.hg, h.hz⟩
  rw [hy, h.hx]; unfold wrap64; omega
theorem AdvAt.breaks {s : ByteArray} {w : World} {b : Nat} {L C : Int} {W : World} {pos f n u : Nat} {x l : Int} {c wd : Nat} (h : AdvAt s w b L C W pos f n u x l c wd) (hs : advStep s pos c n u = (n + 1, 0)) :
    AdvRel s w b L C (.int .i64 0) ((W.iter s (pos + wd)).setCell ⟨b, 0, none⟩ (.int .i64 (wrap64 (l + 1)))) := by
  obtain ⟨f', h1, h2⟩ := h.next _ _ hs
  refine ⟨W.setCell ⟨b, 0, none⟩ (.int .i64 (wrap64 (l + 1))), pos + wd, f', n + 1, 0, 0, wrap64 (l + 1), rfl, iter_setCell _ _ _ _ _ h.blk.lt, by simpa using h.blk.set_ 0 (.int .i64 (wrap64 (l + 1))), by simp [advBase, wrap64], ?_, h1, h2, only_setCell h.hg (.inl rfl) _, by rw [size_setCell]; exact h.hz⟩
  rw [h.hl]; unfold wrap64; omega
theorem AdvAt.lower {s : ByteArray} {w : World} {b : Nat} {L C : Int} {W : World} {pos f n u : Nat} {x l : Int} {c wd : Nat} (h : AdvAt s w b L C W pos f n u x l c wd) :
    s.size - (W.iter s (pos + wd)).iterPos w.heap.size < s.size - (W.iter s pos).iterPos w.heap.size := by
  have h1 := h.wide
  have h2 := h.hp
  rw [← h.hz]; simp; omega
theorem AdvAt.lower' {s : ByteArray} {w : World} {b : Nat} {L C : Int} {W : World} {pos f n u : Nat} {x l : Int} {c wd : Nat} (h : AdvAt s w b L C W pos f n u x l c wd) (y : Value) :
    s.size - ((W.iter s (pos + wd)).setCell ⟨b, 0, none⟩ y).iterPos w.heap.size < s.size - (W.iter s pos).iterPos w.heap.size := by
  have h1 := h.wide
  have h2 := h.hp
  rw [iter_setCell _ _ _ _ _ h.blk.lt, ← h.hz]
  have e : ((W.setCell ⟨b, 0, none⟩ y).iter s (pos + wd)).iterPos W.heap.size = pos + wd := by
    have := World.iterPos_iter (W.setCell ⟨b, 0, none⟩ y) s (pos + wd)
    rwa [size_setCell] at this
  rw [e]; simp; omega
theorem step_crlf (s : ByteArray) (pos c n u : Nat) (ci : Int) (hc : ci = c) (h1 : (ci == 13) = true) (h2 : (pos : Int) + 1 < s.size) (h3 : ((s[pos + 1]'(by omega)).toNat : Int) == 10) : advStep s pos c n u = (n, u + 1) := by
  have : ci = 13 := by simpa using h1
  have h4 : (s[pos + 1]'(by omega)).toNat = 10 := by have : ((s[pos + 1]'(by omega)).toNat : Int) = 10 := by simpa using h3
                                                     omega
  have hq : pos + 1 < s.size := by omega
  have e : s.get! (pos + 1) = s[pos + 1]'hq := get_at s (pos + 1) hq
  unfold advStep
  rw [if_pos ⟨by omega, hq, by rw [e]; exact h4⟩]
theorem step_cr1 (s : ByteArray) (pos c n u : Nat) (ci : Int) (hc : ci = c) (h1 : (ci == 13) = true) (h2 : (pos : Int) + 1 < s.size) (h3 : (((s[pos + 1]'(by omega)).toNat : Int) == 10) = false) : advStep s pos c n u = (n + 1, 0) := by
  have : ci = 13 := by simpa using h1
  have h4 : ¬ (s[pos + 1]'(by omega)).toNat = 10 := by have : ¬ ((s[pos + 1]'(by omega)).toNat : Int) = 10 := by simpa using h3
                                                       omega
  have hq : pos + 1 < s.size := by omega
  have e : s.get! (pos + 1) = s[pos + 1]'hq := get_at s (pos + 1) hq
  unfold advStep
  rw [if_neg (fun hh => h4 (by rw [← e]; exact hh.2.2)), if_pos (.inl (by omega))]
theorem step_cr2 (s : ByteArray) (pos c n u : Nat) (ci : Int) (hc : ci = c) (h1 : (ci == 13) = true) (h2 : ¬ (pos : Int) + 1 < s.size) : advStep s pos c n u = (n + 1, 0) := by
  have : ci = 13 := by simpa using h1
  unfold advStep
  rw [if_neg (fun hh => h2 (by omega)), if_pos (.inl (by omega))]
theorem step_brk (s : ByteArray) (pos c n u : Nat) (ci : Int) (hc : ci = c) (h0 : (ci == 13) = false) (h1 : ci = 10 ∨ ci = 8232 ∨ ci = 8233) : advStep s pos c n u = (n + 1, 0) := by
  have : ¬ ci = 13 := by simpa using h0
  unfold advStep
  rw [if_neg (fun hh => this (by omega)), if_pos (by omega)]
theorem step_one (s : ByteArray) (pos c n u : Nat) (ci : Int) (hc : ci = c) (h0 : (ci == 13) = false) (h1 : (ci == 10) = false) (h2 : (ci == 8232) = false) (h3 : (ci == 8233) = false) (h4 : ci ≤ 65535) : advStep s pos c n u = (n, u + 1) := by
  simp at h0 h1 h2 h3
  unfold advStep
  rw [if_neg (fun hh => h0 (by omega)), if_neg (by omega), if_pos (by omega)]
theorem step_two (s : ByteArray) (pos c n u : Nat) (ci : Int) (hc : ci = c) (h0 : (ci == 13) = false) (h1 : (ci == 10) = false) (h2 : (ci == 8232) = false) (h3 : (ci == 8233) = false) (h4 : 65535 < ci) : advStep s pos c n u = (n, u + 2) := by
  simp at h0 h1 h2 h3
  unfold advStep
  rw [if_neg (fun hh => h0 (by omega)), if_neg (by omega), if_neg (by omega)]

set_option maxRecDepth 100000 in
theorem adv_walk (s : ByteArray) (b : Nat) (L C : Int) (w : World) (hs : s.size ≤ maxLen) (hL : wrap64 L = L) (hC : wrap64 C = C) (hb : Blk w b 50 #[.int .i64 L, .int .i64 C]) :
    Calls Try.prog 20 #[.pointer (some ⟨b, 0, none⟩), .string s] w fun e w' => e = .returned (.tuple #[]) ∧
      Blk w' b 50 #[.int .i64 (wrap64 (L + (advTo s s.size 0 0 0).1)), .int .i64 (wrap64 (advBase C (advTo s s.size 0 0 0).1 + (advTo s s.size 0 0 0).2))] ∧ w.grownBy w' (some b) := by
  unfold maxLen at hs
  have h1 : w.cell? ⟨b, 1, none⟩ = some (.int .i64 C) := hb.cell 1
  have hlt := hb.lt
  have HL := Lib.hid hL; have HC := Lib.hid hC; have HB := Lib.hid hb
  clear hL hC hb
  go_enter Try.func20, Try.ntmps20
  go_wp2
  clear h1
  go_loopw [4] (fun c w' => AdvRel s w b L C c w') (fun _ w' => s.size - w'.iterPos w.heap.size)
  case atStart => exact ⟨w, 0, s.size, 0, 0, C, L, rfl, rfl, HB.out, by simp [advBase, HC.out], by simp [HL.out], rfl, by omega, World.grownBy.refl w _, rfl⟩
  case round =>
    obtain ⟨W, pos, f, n, u, x, l, rfl, rfl, hb, hx, hl, ht, hf, hg, hz⟩ := hrel
    have hlt' : b < W.heap.size := hb.lt
    have HT := Lib.hid ht; have HX := Lib.hid hx; have HL := Lib.hid hl; have HG := Lib.hid hg; have HZ := Lib.hid hz; have HB := Lib.hid hb
    clear ht hx hl hg hz hb
    by_cases hp : pos < s.size
    · obtain ⟨c, wd, hd⟩ : ∃ c wd, Utf8.decode s pos = (c, wd) := ⟨_, _, rfl⟩
      obtain ⟨ci, hci⟩ : ∃ ci : Int, ci = (c : Int) := ⟨_, rfl⟩
      have hwd : 1 ≤ wd := by have := adv_width s pos hp; rw [hd] at this; exact this
      have hc0 : 0 ≤ ci := by omega
      have hnx : ∀ ty, (Instr.next (.pointer (some ⟨w.heap.size, 0, none⟩)) true ty).run Try.prog (W.iter s pos) = .ok (.tuple #[.bool true, .int .i64 pos, .int .i32 ci]) (W.iter s (pos + wd)) := fun ty => by
        rw [← HZ.out, run_next_any W s pos ty hp, hd, hci]
      have HA : AdvAt s w b L C W pos f n u x l c wd := ⟨HB.out, HX.out, HL.out, HT.out, hf, HG.out, HZ.out, hp, hd⟩
      have HCI := Lib.hid hci
      clear hd hci hf
      have c0 : (W.iter s (pos + wd)).cell? ⟨b, 0, none⟩ = some (.int .i64 l) := ((HB.out.alloc (.stringIter s (pos + wd))).cell 0)
      have z0 : (W.iter s (pos + wd)).frozen? ⟨b, 0, none⟩ = false := ((HB.out.alloc (.stringIter s (pos + wd))).frozen 0)
      go_wp2
      · exact ⟨HA.plain 1 (step_crlf s pos c n u ci HCI.out ‹_› ‹_› ‹_›) _ rfl, HA.lower⟩
      · exact ⟨HA.breaks (step_cr1 s pos c n u ci HCI.out ‹_› ‹_› ‹_›), HA.lower' _⟩
      · exact ⟨HA.breaks (step_cr2 s pos c n u ci HCI.out ‹_› ‹_›), HA.lower' _⟩
      · exact ⟨HA.breaks (step_brk s pos c n u ci HCI.out ‹_› (.inl (beq_iff_eq.1 ‹(ci == 10) = true›))), HA.lower' _⟩
      · exact ⟨HA.breaks (step_brk s pos c n u ci HCI.out ‹_› (.inr (.inl (beq_iff_eq.1 ‹(ci == 8232) = true›)))), HA.lower' _⟩
      · exact ⟨HA.breaks (step_brk s pos c n u ci HCI.out ‹_› (.inr (.inr (beq_iff_eq.1 ‹(ci == 8233) = true›)))), HA.lower' _⟩
      · exact ⟨HA.plain 1 (step_one s pos c n u ci HCI.out ‹_› ‹_› ‹_› ‹_› ‹_›) _ rfl, HA.lower⟩
      · exact ⟨HA.plain 2 (step_two s pos c n u ci HCI.out ‹_› ‹_› ‹_› ‹_› ‹_›) _ rfl, HA.lower⟩
    · have hnx : ∀ ty, (Instr.next (.pointer (some ⟨w.heap.size, 0, none⟩)) true ty).run Try.prog (W.iter s pos) = .ok (.tuple #[.bool false]) (W.iter s pos) := fun ty => by
        rw [← HZ.out, run_next_end W s pos ty hp]
      have c0 : (W.iter s pos).cell? ⟨b, 1, none⟩ = some (.int .i64 C) := ((HB.out.alloc (.stringIter s pos)).cell 1)
      have z0 : (W.iter s pos).frozen? ⟨b, 1, none⟩ = false := ((HB.out.alloc (.stringIter s pos)).frozen 1)
      go_wp2
      go_end0
      have e := HT.out
      rw [advTo_end s f pos n u hp] at e
      rw [← e]
      refine ⟨rfl, ?_, ?_⟩
      · have := (HB.out.alloc (.stringIter s pos)).set_ 1 (.int .i64 x)
        rw [HL.out, HX.out] at this
        rw [HX.out]
        simpa [World.iter] using this
      · exact only_setCell (only_alloc HG.out _) (.inl rfl) _
end Go.Proofs.Ytniamejelnmdgaa
