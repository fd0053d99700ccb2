/- css_printer.printIdent of a plain identifier: its bytes stand behind what stood there. -/
import Derived.Test.YtmkkocjhbclibaaFmtPid
import Derived.Deep.LoopGhost
namespace Go.Proofs.YtmkkocjhbclibaaFmt
open Go.RowKit
set_option linter.unusedVariables false
set_option linter.unusedSimpArgs false
set_option maxHeartbeats 2000000 in
set_option maxRecDepth 100000 in
theorem ident_plain {B b : Nat} {K : Array Value} {A : Option Addr} {cap : Nat} {bs : List Value} (s : ByteArray) (hp : PlainId s) (hs : s.size ≤ 16777216) (ws : Int) (w : World) (h : IsP B b K A cap bs w) (hB : B ≤ w.heap.size) (L : Nat) (hL : bs.length = L) (hlen : L ≤ 16777216) :
    Calls Tryf.prog 23 #[.pointer (some ⟨b, 0, none⟩), .string s, .int .u8 0, .int .u8 ws] w (Printed B b K A (bs ++ byteCells s) w) := by
  obtain ⟨i0, hi, hz0, hz1, hz2⟩ := info_parts u8I
  have H := Lib.hid h; have HL := Lib.hid hL; have HP := Lib.hid hp
  have hs0 := hp.pos
  have c15 : w.cell? ⟨b, 15, none⟩ = some (.slice A L cap) := h.css hL
  have HSRC : Hid (Src Tryf.prog 1 9 (.string s) s.size (byteCells s) w) := Lib.hid (Src.ofString w Tryf.underlying9 s)
  clear h hL hp
  go_enter Tryf.func23, Tryf.ntmps23
  go_wp2_with (go_at_call 27; (with_reducible refine (would_plain s HP.out hs _).mono ?_); rintro e w' ⟨rfl, rfl⟩)
  go_step3
  go_wp2_with fail
  go_loop [11, 12] (fun i c => ∃ k : Nat, i = .int .i64 k ∧ k ≤ s.size) (fun i c => s.size - (intOf i).toNat)
  case atStart => exact ⟨0, rfl, by omega⟩
  case round =>
    obtain ⟨k, rfl, hk⟩ := hrel
    by_cases hlt : k < s.size
    · have hpc := HP.out.all k hlt
      rw [← byte_get s k hlt] at hpc
      have HC := Lib.hid (pC_cont hpc)
      have hl := pC_lt hpc
      have hl2 : (s[k].toNat : Int) < 128 := by omega
      have hw0 : IntKind.i32.wrap (s[k].toNat : Int) = (s[k].toNat : Int) := by rw [IntKind.wrap_i32]; omega
      clear hpc
      go_wp2_with (go_at_call 28; (with_reducible refine (cont_any (s[k].toNat : Int) _).mono ?_); rw [HC.out]; rintro e w' ⟨rfl, rfl⟩)
      go_round
      case rel => exact ⟨k + 1, by go_num, by omega⟩
      case measure => simp [intOf]; omega
    · obtain rfl : k = s.size := by omega
      go_wp2_with (at_builtin; refine wpList_append_own_src _ rfl _ _ 22 9 rfl B 5 i0 (.int .u8 0) 1 1 Tryf.underlying22 hi hz0 hz1 hz2 rfl _ L bs rfl (H.out.ownL HL.out) _ s.size (byteCells s) rfl HSRC.out ?c2 ?c3 ?c4 ?_)
      case c2 => unfold maxLen; omega
      case c3 => omega
      intro v' w2 hown' hgrow hat
      obtain ⟨g, cap2, rfl, d15, z15, hp2, hb2, hl2, hs2, hk2, hr2⟩ := H.out.app HL.out hB (Below.refl _ _) hs0 hown' hgrow hat
      have HP2 := Lib.hid hp2; have HB2 := Lib.hid hb2; have HK2 := Lib.hid hk2; have HR2 := Lib.hid hr2
      clear hp2 hb2 hown' hgrow hl2 hk2 hr2 hat
      go_wp2_with fail
      try rw [Exit.noGoto_ret]
      go_end0
      exact ⟨rfl, ⟨_, _, HP2.out, HR2.out⟩, HB2.out, HK2.out⟩
end Go.Proofs.YtmkkocjhbclibaaFmt
