/- The CSS printer as a block of cells: made, read, printed to, indented. -/
import Derived.Test.YtcjeilmecbeifaaRows
import Derived.Test.YtcjeilmecbeifaaWords
import Derived.Test.YtcjeilmecbeifaaApp
import Derived.Test.YtcjeilmecbeifaaPrB
import Derived.WalkKit
import Derived.WalkSpells
import Derived.LoopTactic
import Derived.Deep.Light
import Derived.BigRegion
import Derived.Outline
namespace Go.Proofs.Ytcjeilmecbeifaa
open Go.RowKit
set_option linter.unusedVariables false
set_option linter.unusedSimpArgs false

/-- The printer lies at block b (its 43 cells: the limit, the flag, the text, the line's start and end), and its text is a row of its own. -/
structure IsPr (B b : Nat) (lim : Int) (mn : Bool) (os oe : Int) (A : Option Addr) (cap : Nat) (bs : List Value) (cs : Array Value) (w : World) : Prop where
  base : B ≤ b
  blk : Blk w b 63 cs
  size : cs.size = 43
  lim : cs[3]? = some (.int .i64 lim)
  mn : cs[6]? = some (.bool mn)
  css : cs[15]? = some (.slice A bs.length cap)
  os : cs[41]? = some (.int .i64 os)
  oe : cs[42]? = some (.int .i64 oe)
  own : w.ownsRow B 5 1 (.slice A bs.length cap) bs.length bs

set_option maxHeartbeats 1000000 in
set_option maxRecDepth 100000 in
theorem new_any (B : Nat) (A : Option Addr) (n c : Nat) (bs : List Value) (lim : Int) (mn asc : Bool) (w : World) (hn : bs.length = n) (hown : w.ownsRow B 5 1 (.slice A n c) n bs) (hB : B ≤ w.heap.size) :
    Calls Try.prog 7 #[.slice A n c, .int .i64 lim, .bool mn, .bool asc] w fun e w' =>
      e = .returned (.pointer (some ⟨w.heap.size, 0, none⟩)) ∧ (∃ cs, IsPr B w.heap.size lim mn 0 0 A c bs cs w') ∧ Below w.heap.size w w' := by
  have HOWN := Lib.hid hown
  clear hown
  go_enter Try.func7, Try.ntmps7
  go_wp2
  go_ret
  subst hn
  exact ⟨rfl, ⟨_, ⟨hB, Blk.new w _ _, rfl, rfl, rfl, rfl, rfl, rfl, HOWN.out.alloc _⟩⟩, (Below.refl _ _).alloc (Nat.le_refl _) _⟩

set_option maxRecDepth 100000 in
theorem css_any {B b : Nat} {lim : Int} {mn : Bool} {os oe : Int} {A : Option Addr} {cap : Nat} {bs : List Value} {cs : Array Value} (w : World) (h : IsPr B b lim mn os oe A cap bs cs w) (L : Nat) (hL : bs.length = L) :
    Calls Try.prog 9 #[.pointer (some ⟨b, 0, none⟩)] w fun e w' => e = .returned (.slice A L cap) ∧ w = w' := by
  subst hL
  have c15 : w.cell? ⟨b, 15, none⟩ = some (.slice A bs.length cap) := (h.blk.cell 15).trans h.css
  clear h
  go_enter Try.func9, Try.ntmps9
  go_wp2
  go_ret
  exact ⟨rfl, rfl⟩

/-- The printer behind an append: the text is longer, all else as it was. -/
theorem IsPr.put {B b : Nat} {lim : Int} {mn : Bool} {os oe : Int} {A : Option Addr} {cap : Nat} {bs : List Value} {cs : Array Value} {w w' : World} {A' : Option Addr} {cap' : Nat} {news : List Value} {m : Nat}
    (h : IsPr B b lim mn os oe A cap bs cs w) (hg : w.grownBy w' (Value.ownBlock (.slice A bs.length cap))) (hm : m = (bs ++ news).length) (hown : w'.ownsRow B 5 1 (.slice A' m cap') m (bs ++ news)) :
    IsPr B b lim mn os oe A' cap' (bs ++ news) (cs.setIfInBounds 15 (.slice A' m cap')) (w'.setCell ⟨b, 15, none⟩ (.slice A' m cap')) := by
  subst hm
  have hne := own_blk_ne h.own h.blk (by decide)
  have hb' : Blk w' b _ cs := h.blk.grown hg (fun e => hne e.symm)
  have hne' := own_blk_ne hown hb' (by decide)
  have hsz := h.size
  refine ⟨h.base, hb'.set_ 15 _, by rw [Array.size_setIfInBounds]; exact hsz, ?_, ?_, ?_, ?_, ?_, ?_⟩
  · rw [Array.getElem?_setIfInBounds_ne (by decide)]; exact h.lim
  · rw [Array.getElem?_setIfInBounds_ne (by decide)]; exact h.mn
  · rw [Array.getElem?_setIfInBounds_self_of_lt (by omega)]
  · rw [Array.getElem?_setIfInBounds_ne (by decide)]; exact h.os
  · rw [Array.getElem?_setIfInBounds_ne (by decide)]; exact h.oe
  · refine ⟨hown.1, ?_⟩
    rcases hown.2 with h2 | ⟨g, cap2, cur, a, b2, c2, d⟩
    · exact .inl h2
    · refine .inr ⟨g, cap2, cur, a, b2, ?_, d⟩
      rw [Below.heap_setCell _ _ _ _ (show g ≠ b by
        rintro rfl
        exact hne' (by rw [a]; rfl))]
      exact c2

/-- How often two blanks are laid. -/
def cnt (lim n : Int) : Int := if 0 < lim ∧ lim ≤ n * 2 then lim / 2 else n
def blanks (k : Nat) : List Value := List.replicate (2 * k) (.int .u8 32)
theorem blanks_succ (k : Nat) : blanks (k + 1) = blanks k ++ [.int .u8 32, .int .u8 32] := by
  unfold blanks
  rw [Nat.mul_add, Nat.mul_one, ← List.replicate_append_replicate]; rfl
set_option maxHeartbeats 2000000 in
set_option maxRecDepth 100000 in
theorem indent_any {B b : Nat} {lim : Int} {mn : Bool} {os oe : Int} {A : Option Addr} {cap : Nat} {bs : List Value} {cs : Array Value} (n : Int) (w : World) (h : IsPr B b lim mn os oe A cap bs cs w) (hB : B ≤ w.heap.size)
    (hn0 : -2147483648 ≤ n) (hn1 : n ≤ 65536) (hlim : lim ≤ 9223372036854775807) (hlim0 : -9223372036854775808 ≤ lim) (hlen : bs.length ≤ 16777216) :
    Calls Try.prog 18 #[.pointer (some ⟨b, 0, none⟩), .int .i32 n] w fun e w' => e = .returned (.tuple #[]) ∧
      (∃ A' cap' cs', IsPr B b lim mn os oe A' cap' (bs ++ blanks (cnt lim n).toNat) cs' w') ∧ Below B w w' := by
  obtain ⟨i0, hi, hz0, hz1, hz2⟩ := info_parts u8Info
  have c3 : w.cell? ⟨b, 3, none⟩ = some (.int .i64 lim) := (h.blk.cell 3).trans h.lim
  have H := Lib.hid h
  clear h
  by_cases h1 : 0 < lim
  · by_cases h2 : lim ≤ n * 2
    · have HC := Lib.hid (show cnt lim n = lim / 2 by unfold cnt; rw [if_pos ⟨h1, h2⟩])
      go_enter Try.func18, Try.ntmps18
      go_wp2
      have hq0 : lim / 2 ≤ 65536 := by omega
      have hq1 : 0 ≤ lim / 2 := by omega
      generalize hq : lim / 2 = q at HC hq0 hq1
      clear hq c3 h1 h2
      go_loopw [5] (fun i wr => ∃ (k : Nat) (A' : Option Addr) (cap' : Nat) (cs' : Array Value), i = .int .i64 k ∧ k ≤ q.toNat ∧ IsPr B b lim mn os oe A' cap' (bs ++ blanks k) cs' wr ∧ Below B w wr) (fun i _ => q.toNat - (intOf i).toNat)
      case atStart => exact ⟨0, A, cap, cs, rfl, by omega, by simpa [blanks] using H.out, Below.refl _ _⟩
      case round =>
        obtain ⟨k, A', cap', cs', rfl, hk, hp, hbw⟩ := hrel
        have HP := Lib.hid hp
        clear hp
        by_cases hlt : k < q.toNat
        · have hd : decide ((k : Int) < q) = true := by simp; omega
          obtain ⟨L, hL⟩ : ∃ L, L = (bs ++ blanks k).length := ⟨_, rfl⟩
          have c15 : wr.cell? ⟨b, 15, none⟩ = some (.slice A' L cap') := by rw [hL]; exact (HP.out.blk.cell 15).trans HP.out.css
          have HOWN : Hid (wr.ownsRow B 5 1 (.slice A' L cap') L (bs ++ blanks k)) := Lib.hid (by rw [hL]; exact HP.out.own)
          have hLle : L ≤ 17000000 := by rw [hL]; simp [blanks]; omega
          have HL := Lib.hid hL
          have hsrc : Src Try.prog 1 9 (.string ⟨#[32, 32]⟩) 2 [.int .u8 32, .int .u8 32] wr := Src.ofString wr Try.underlying9 ⟨#[32, 32]⟩
          clear hL
          go_wp2_with (at_builtin; refine wpList_append_own_src _ rfl _ _ 22 9 rfl B 5 i0 (.int .u8 0) 1 1 Try.underlying22 hi hz0 hz1 hz2 rfl _ L (bs ++ blanks k) rfl HOWN.out _ 2 [.int .u8 32, .int .u8 32] rfl hsrc ?c2 ?c3 ?c4 ?_)
          case c2 => unfold maxLen; omega
          case c3 => omega
          case c4 => have := hbw.size; omega
          intro v' w2 hown' hgrow _
          obtain ⟨g, cap2, rfl⟩ : ∃ g cap2, v' = .slice (some ⟨g, 0, none⟩) (L + 2) cap2 := by
            rcases hown'.2 with ⟨_, h0⟩ | ⟨g, cap2, cur, hv, _⟩
            · omega
            · exact ⟨g, cap2, hv⟩
          have hgrow' : wr.grownBy w2 (Value.ownBlock (.slice A' (bs ++ blanks k).length cap')) := by rw [← HL.out]; exact hgrow
          have hput := HP.out.put (news := [.int .u8 32, .int .u8 32]) (m := L + 2) hgrow' (by rw [List.length_append, ← HL.out]; rfl) (by rw [List.append_assoc]; exact hown')
          have hb2 := HP.out.blk.grown hgrow' (fun e => own_blk_ne HP.out.own HP.out.blk (by decide) e.symm)
          have d15 : w2.cell? ⟨b, 15, none⟩ = some (.slice A' L cap') := by rw [hb2.cell 15, HL.out]; exact HP.out.css
          have z15 : w2.frozen? ⟨b, 15, none⟩ = false := hb2.frozen 15
          have HPUT := Lib.hid hput
          have hB2 := ((hbw.grown hgrow (by have := hbw.size; omega) (fun k hk => (HOWN.out.lt k hk).1)).setCell (p := ⟨b, 15, none⟩) HP.out.base (.slice (some ⟨g, 0, none⟩) (L + 2) cap2))
          have HB2 := Lib.hid hB2
          clear hput hb2 hB2 hown' hgrow hgrow' hsrc
          go_wp2
          go_roundw
          case rel =>
            refine ⟨k + 1, some ⟨g, 0, none⟩, cap2, cs'.setIfInBounds 15 (.slice (some ⟨g, 0, none⟩) (L + 2) cap2), by go_num, by omega, ?_, HB2.out⟩
            have := HPUT.out
            rw [List.append_assoc] at this
            rw [show blanks (k + 1) = blanks k ++ [.int .u8 32, .int .u8 32] from blanks_succ k]
            exact this
          case measure => simp [intOf]; omega
        · have hd : decide ((k : Int) < q) = false := by simp; omega
          go_wp2
          go_end0
          obtain rfl : k = q.toNat := by omega
          refine ⟨rfl, ⟨A', cap', cs', ?_⟩, hbw⟩
          rw [HC.out]
          exact HP.out
    · have HC := Lib.hid (show cnt lim n = n by unfold cnt; rw [if_neg (by omega)])
      go_enter Try.func18, Try.ntmps18
      go_wp2
      clear c3 h1 h2
      go_loopw [5] (fun i wr => ∃ (k : Nat) (A' : Option Addr) (cap' : Nat) (cs' : Array Value), i = .int .i64 k ∧ k ≤ n.toNat ∧ IsPr B b lim mn os oe A' cap' (bs ++ blanks k) cs' wr ∧ Below B w wr) (fun i _ => n.toNat - (intOf i).toNat)
      case atStart => exact ⟨0, A, cap, cs, rfl, by omega, by simpa [blanks] using H.out, Below.refl _ _⟩
      case round =>
        obtain ⟨k, A', cap', cs', rfl, hk, hp, hbw⟩ := hrel
        have HP := Lib.hid hp
        clear hp
        by_cases hlt : k < n.toNat
        · have hd : decide ((k : Int) < n) = true := by simp; omega
          obtain ⟨L, hL⟩ : ∃ L, L = (bs ++ blanks k).length := ⟨_, rfl⟩
          have c15 : wr.cell? ⟨b, 15, none⟩ = some (.slice A' L cap') := by rw [hL]; exact (HP.out.blk.cell 15).trans HP.out.css
          have HOWN : Hid (wr.ownsRow B 5 1 (.slice A' L cap') L (bs ++ blanks k)) := Lib.hid (by rw [hL]; exact HP.out.own)
          have hLle : L ≤ 17000000 := by rw [hL]; simp [blanks]; omega
          have HL := Lib.hid hL
          have hsrc : Src Try.prog 1 9 (.string ⟨#[32, 32]⟩) 2 [.int .u8 32, .int .u8 32] wr := Src.ofString wr Try.underlying9 ⟨#[32, 32]⟩
          clear hL
          go_wp2_with (at_builtin; refine wpList_append_own_src _ rfl _ _ 22 9 rfl B 5 i0 (.int .u8 0) 1 1 Try.underlying22 hi hz0 hz1 hz2 rfl _ L (bs ++ blanks k) rfl HOWN.out _ 2 [.int .u8 32, .int .u8 32] rfl hsrc ?c2 ?c3 ?c4 ?_)
          case c2 => unfold maxLen; omega
          case c3 => omega
          case c4 => have := hbw.size; omega
          intro v' w2 hown' hgrow _
          obtain ⟨g, cap2, rfl⟩ : ∃ g cap2, v' = .slice (some ⟨g, 0, none⟩) (L + 2) cap2 := by
            rcases hown'.2 with ⟨_, h0⟩ | ⟨g, cap2, cur, hv, _⟩
            · omega
            · exact ⟨g, cap2, hv⟩
          have hgrow' : wr.grownBy w2 (Value.ownBlock (.slice A' (bs ++ blanks k).length cap')) := by rw [← HL.out]; exact hgrow
          have hput := HP.out.put (news := [.int .u8 32, .int .u8 32]) (m := L + 2) hgrow' (by rw [List.length_append, ← HL.out]; rfl) (by rw [List.append_assoc]; exact hown')
          have hb2 := HP.out.blk.grown hgrow' (fun e => own_blk_ne HP.out.own HP.out.blk (by decide) e.symm)
          have d15 : w2.cell? ⟨b, 15, none⟩ = some (.slice A' L cap') := by rw [hb2.cell 15, HL.out]; exact HP.out.css
          have z15 : w2.frozen? ⟨b, 15, none⟩ = false := hb2.frozen 15
          have HPUT := Lib.hid hput
          have hB2 := ((hbw.grown hgrow (by have := hbw.size; omega) (fun k hk => (HOWN.out.lt k hk).1)).setCell (p := ⟨b, 15, none⟩) HP.out.base (.slice (some ⟨g, 0, none⟩) (L + 2) cap2))
          have HB2 := Lib.hid hB2
          clear hput hb2 hB2 hown' hgrow hgrow' hsrc
          go_wp2
          go_roundw
          case rel =>
            refine ⟨k + 1, some ⟨g, 0, none⟩, cap2, cs'.setIfInBounds 15 (.slice (some ⟨g, 0, none⟩) (L + 2) cap2), by go_num, by omega, ?_, HB2.out⟩
            have := HPUT.out
            rw [List.append_assoc] at this
            rw [show blanks (k + 1) = blanks k ++ [.int .u8 32, .int .u8 32] from blanks_succ k]
            exact this
          case measure => simp [intOf]; omega
        · have hd : decide ((k : Int) < n) = false := by simp; omega
          go_wp2
          go_end0
          obtain rfl : k = n.toNat := by omega
          refine ⟨rfl, ⟨A', cap', cs', ?_⟩, hbw⟩
          rw [HC.out]
          exact HP.out
  · have HC := Lib.hid (show cnt lim n = n by unfold cnt; rw [if_neg (by omega)])
    go_enter Try.func18, Try.ntmps18
    go_wp2
    clear c3 h1
    go_loopw [5] (fun i wr => ∃ (k : Nat) (A' : Option Addr) (cap' : Nat) (cs' : Array Value), i = .int .i64 k ∧ k ≤ n.toNat ∧ IsPr B b lim mn os oe A' cap' (bs ++ blanks k) cs' wr ∧ Below B w wr) (fun i _ => n.toNat - (intOf i).toNat)
    case atStart => exact ⟨0, A, cap, cs, rfl, by omega, by simpa [blanks] using H.out, Below.refl _ _⟩
    case round =>
      obtain ⟨k, A', cap', cs', rfl, hk, hp, hbw⟩ := hrel
      have HP := Lib.hid hp
      clear hp
      by_cases hlt : k < n.toNat
      · have hd : decide ((k : Int) < n) = true := by simp; omega
        obtain ⟨L, hL⟩ : ∃ L, L = (bs ++ blanks k).length := ⟨_, rfl⟩
        have c15 : wr.cell? ⟨b, 15, none⟩ = some (.slice A' L cap') := by rw [hL]; exact (HP.out.blk.cell 15).trans HP.out.css
        have HOWN : Hid (wr.ownsRow B 5 1 (.slice A' L cap') L (bs ++ blanks k)) := Lib.hid (by rw [hL]; exact HP.out.own)
        have hLle : L ≤ 17000000 := by rw [hL]; simp [blanks]; omega
        have HL := Lib.hid hL
        have hsrc : Src Try.prog 1 9 (.string ⟨#[32, 32]⟩) 2 [.int .u8 32, .int .u8 32] wr := Src.ofString wr Try.underlying9 ⟨#[32, 32]⟩
        clear hL
        go_wp2_with (at_builtin; refine wpList_append_own_src _ rfl _ _ 22 9 rfl B 5 i0 (.int .u8 0) 1 1 Try.underlying22 hi hz0 hz1 hz2 rfl _ L (bs ++ blanks k) rfl HOWN.out _ 2 [.int .u8 32, .int .u8 32] rfl hsrc ?c2 ?c3 ?c4 ?_)
        case c2 => unfold maxLen; omega
        case c3 => omega
        case c4 => have := hbw.size; omega
        intro v' w2 hown' hgrow _
        obtain ⟨g, cap2, rfl⟩ : ∃ g cap2, v' = .slice (some ⟨g, 0, none⟩) (L + 2) cap2 := by
          rcases hown'.2 with ⟨_, h0⟩ | ⟨g, cap2, cur, hv, _⟩
          · omega
          · exact ⟨g, cap2, hv⟩
        have hgrow' : wr.grownBy w2 (Value.ownBlock (.slice A' (bs ++ blanks k).length cap')) := by rw [← HL.out]; exact hgrow
        have hput := HP.out.put (news := [.int .u8 32, .int .u8 32]) (m := L + 2) hgrow' (by rw [List.length_append, ← HL.out]; rfl) (by rw [List.append_assoc]; exact hown')
        have hb2 := HP.out.blk.grown hgrow' (fun e => own_blk_ne HP.out.own HP.out.blk (by decide) e.symm)
        have d15 : w2.cell? ⟨b, 15, none⟩ = some (.slice A' L cap') := by rw [hb2.cell 15, HL.out]; exact HP.out.css
        have z15 : w2.frozen? ⟨b, 15, none⟩ = false := hb2.frozen 15
        have HPUT := Lib.hid hput
        have hB2 := ((hbw.grown hgrow (by have := hbw.size; omega) (fun k hk => (HOWN.out.lt k hk).1)).setCell (p := ⟨b, 15, none⟩) HP.out.base (.slice (some ⟨g, 0, none⟩) (L + 2) cap2))
        have HB2 := Lib.hid hB2
        clear hput hb2 hB2 hown' hgrow hgrow' hsrc
        go_wp2
        go_roundw
        case rel =>
          refine ⟨k + 1, some ⟨g, 0, none⟩, cap2, cs'.setIfInBounds 15 (.slice (some ⟨g, 0, none⟩) (L + 2) cap2), by go_num, by omega, ?_, HB2.out⟩
          have := HPUT.out
          rw [List.append_assoc] at this
          rw [show blanks (k + 1) = blanks k ++ [.int .u8 32, .int .u8 32] from blanks_succ k]
          exact this
        case measure => simp [intOf]; omega
      · have hd : decide ((k : Int) < n) = false := by simp; omega
        go_wp2
        go_end0
        obtain rfl : k = n.toNat := by omega
        refine ⟨rfl, ⟨A', cap', cs', ?_⟩, hbw⟩
        rw [HC.out]
        exact HP.out
set_option maxHeartbeats 1000000 in
set_option maxRecDepth 100000 in
theorem zzindent_any {B b : Nat} {lim : Int} {mn : Bool} {os oe : Int} {A : Option Addr} {cap : Nat} {bs : List Value} {cs : Array Value} (n : Int) (w : World) (h : IsPr B b lim mn os oe A cap bs cs w) (hB : B ≤ w.heap.size)
    (hn0 : -2147483648 ≤ n) (hn1 : n ≤ 65536) (hlim : lim ≤ 9223372036854775807) (hlim0 : -9223372036854775808 ≤ lim) (hlen : bs.length ≤ 16777216) :
    Calls Try.prog 16 #[.pointer (some ⟨b, 0, none⟩), .int .i32 n] w fun e w' => e = .returned (.tuple #[]) ∧
      (∃ A' cap' cs', IsPr B b lim mn os oe A' cap' (bs ++ blanks (cnt lim n).toNat) cs' w') ∧ Below B w w' := by
  have H := Lib.hid h
  clear h
  go_enter Try.func16, Try.ntmps16
  go_wp2_with (go_at_call 18; refine (indent_any n w H.out hB hn0 hn1 hlim hlim0 hlen).mono ?_)
  rintro e w1 ⟨rfl, hp, hb1⟩
  have HP := Lib.hid hp
  clear hp
  go_wp2
  go_end0
  exact ⟨rfl, HP.out, hb1⟩
end Go.Proofs.Ytcjeilmecbeifaa
