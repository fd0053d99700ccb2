/- Printing a text to the CSS printer: its bytes stand behind what stood there. -/
import Derived.Test.YtemefojfnghhoaaFmtIsP
namespace Go.Proofs.YtemefojfnghhoaaFmt
open Go.RowKit
set_option linter.unusedVariables false
set_option linter.unusedSimpArgs false
/-- What printing bytes to the printer leaves. -/
def Printed (B b : Nat) (K : Array Value) (A : Option Addr) (bs : List Value) (w : World) (e : Ending) (w' : World) : Prop :=
  e = .returned (.tuple #[]) ∧ (∃ A' cap', IsP B b K A' cap' bs w' ∧ RowAt (rb A) (rb A') w.heap.size) ∧ Below B w w' ∧ Kept b (rb A) w w'
set_option maxHeartbeats 2000000 in
set_option maxRecDepth 100000 in
theorem print_any {B b : Nat} {K : Array Value} {A : Option Addr} {cap : Nat} {bs : List Value} (s : ByteArray) (hs0 : 0 < s.size) (hs : s.size ≤ 16777216) (w : World) (h : IsP B b K A cap bs w) (hB : B ≤ w.heap.size) (L : Nat) (hL : bs.length = L) (hlen : L ≤ 16777216) :
    Calls Tryf.prog 23 #[.pointer (some ⟨b, 0, none⟩), .string s] w (Printed B b K A (bs ++ byteCells s) w) := by
  obtain ⟨i0, hi, hz0, hz1, hz2⟩ := info_parts u8I
  have H := Lib.hid h; have HL := Lib.hid hL
  have c15 : w.cell? ⟨b, 15, none⟩ = some (.slice A L cap) := h.css hL
  have HSRC : Hid (Src Tryf.prog 1 9 (.string s) s.size (byteCells s) w) := Lib.hid (Src.ofString w Tryf.underlying9 s)
  clear h hL
  go_enter Tryf.func23, Tryf.ntmps23
  go_wp2_with (at_builtin; refine wpList_append_own_src _ rfl _ _ 22 9 rfl B 5 i0 (.int .u8 0) 1 1 Tryf.underlying22 hi hz0 hz1 hz2 rfl _ L bs rfl (H.out.ownL HL.out) _ s.size (byteCells s) rfl HSRC.out ?c2 ?c3 ?c4 ?_)
  case c2 => unfold maxLen; omega
  case c3 => omega
  case c4 => omega
  intro v' w2 hown' hgrow hat
  obtain ⟨g, cap2, rfl, d15, z15, hp2, hb2, hl2, hs2, hk2, hr2⟩ := H.out.app HL.out hB (Below.refl _ _) hs0 hown' hgrow hat
  have HP2 := Lib.hid hp2; have HB2 := Lib.hid hb2; have HK2 := Lib.hid hk2; have HR2 := Lib.hid hr2
  clear hp2 hb2 hown' hgrow hl2 hk2 hr2 hat
  go_wp2
  go_end0
  exact ⟨rfl, ⟨_, _, HP2.out, HR2.out⟩, HB2.out, HK2.out⟩
/-- The state while a method of the printer prints: the printer, and the box (block x) of its argument. -/
structure PSt (B b x : Nat) (t : TypeId) (cs K : Array Value) (w : World) (bs : List Value) (W : World) : Prop where
  p : ∃ A cap, IsP B b K A cap bs W ∧ rb A ≠ some x
  box : Blk W x t cs
  xb : x ≠ b
  bel : Below B w W
theorem PSt.start {B b : Nat} {K : Array Value} {A : Option Addr} {cap : Nat} {bs : List Value} {w : World} (h : IsP B b K A cap bs w) (hB : B ≤ w.heap.size) (t : TypeId) (cs : Array Value) : PSt B b w.heap.size t cs K w bs (w.alloc (.cells cs t)) := by
  refine ⟨⟨A, cap, h.alloc _, ?_⟩, Blk.new _ _ _, by have := h.lt; omega, (Below.refl _ _).alloc hB _⟩
  intro e
  have := (h.own.lt w.heap.size (by rw [ownBlock_slice]; exact e)).2
  omega
def PPost (B b x : Nat) (t : TypeId) (cs K : Array Value) (w : World) (bs : List Value) (e : Ending) (w' : World) : Prop := e = .returned (.tuple #[]) ∧ PSt B b x t cs K w bs w'
theorem PSt.step {B b x : Nat} {t : TypeId} {cs K : Array Value} {w : World} {bs : List Value} {W : World} (h : PSt B b x t cs K w bs W) (hB : B ≤ w.heap.size) (s : ByteArray) (hs0 : 0 < s.size) (hs : s.size ≤ 16777216) (hlen : bs.length ≤ 16777216) :
    Calls Tryf.prog 23 #[.pointer (some ⟨b, 0, none⟩), .string s] W (PPost B b x t cs K w (bs ++ byteCells s)) := by
  obtain ⟨A, cap, hp, hne⟩ := h.p
  refine (print_any s hs0 hs W hp (Nat.le_trans hB h.bel.size) _ rfl hlen).mono ?_
  rintro e w' ⟨rfl, ⟨A', cap', hp', hr⟩, hb, hk⟩
  refine ⟨rfl, ⟨A', cap', hp', ?_⟩, hk.blk h.box h.xb (fun e => hne e.symm), h.xb, h.bel.trans hb⟩
  rcases hr with hr | ⟨g, hr, hg⟩
  · rw [hr]; exact hne
  · rw [hr]
    intro e
    have := h.box.lt
    have := Option.some.inj e
    omega
end Go.Proofs.YtemefojfnghhoaaFmt
