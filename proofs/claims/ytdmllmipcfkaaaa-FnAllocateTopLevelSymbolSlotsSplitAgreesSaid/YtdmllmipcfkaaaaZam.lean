/- n011_287, SplitAgrees: the same slots, the slot of a symbol, the slots' counts, the bound. -/
import Derived.Test.YtdmllmipcfkaaaaZal
namespace Go.Proofs.Ytdmllmipcfkaaaa
open Go.RowKit Go.Maps Go.WideMaps
set_option linter.unusedVariables false
set_option linter.unusedSimpArgs false
def TrueSame (w : World) (e : Ending) (w' : World) : Prop := e = .returned (.bool true) ∧ w = w'
set_option maxHeartbeats 4000000 in
set_option maxRecDepth 100000 in
theorem sameSlots {B o o' : Nat} {mo mo' : Option Nat} {br br' gm gm' : Nat} {vs vs' : Nat → Value} {g g' n : Nat} {S : Nat → SymR} {N N' : Nat} {t : TS} (hc : ∀ j, (t.sl j).length ≤ 16777216) (w : World) (h : TRen B o mo br gm vs g n S N t w) (h' : TRen B o' mo' br' gm' vs' g' n S N' t w) :
    Calls Try.prog 10 #[.pointer (some ⟨br, 0, none⟩), .pointer (some ⟨br', 0, none⟩)] w (TrueSame w) := by
  have H := Lib.hid h; have H' := Lib.hid h'; have HC := Lib.hid hc
  clear h h' hc
  go_enter Try.func10, Try.ntmps10
  go_wp2
  go_loop [5, 6, 7] (fun a b c => ∃ j : Nat, a = .int .i64 j ∧ j ≤ 4) (fun a b c => 4 - (intOf a).toNat)
  case atStart => exact ⟨0, rfl, by omega⟩
  case round =>
    obtain ⟨j, rfl, hj⟩ := hrel
    by_cases hlt : j < 4
    · have hcj := HC.out j
      go_wp2_with (go_at_call 22; (first | (with_reducible refine (slotLen j hlt _ H.out).mono ?_) | (with_reducible refine (slotLen j hlt _ H'.out).mono ?_)); rintro e wz ⟨rfl, rfl⟩)
      go_loop [7] (fun c => ∃ k : Nat, c = .int .i64 k ∧ k ≤ (t.sl j).length) (fun c => (t.sl j).length - (intOf c).toNat)
      case atStart => exact ⟨0, rfl, by omega⟩
      case round =>
        obtain ⟨k, rfl, hk⟩ := hrel
        by_cases hkl : k < (t.sl j).length
        · obtain ⟨p, hp⟩ : ∃ p, (t.sl j)[k]? = some p := ⟨_, List.getElem?_eq_getElem hkl⟩
          have HP := Lib.hid hp
          clear hp
          go_wp2_with (first | (go_at_call 23; (first | (with_reducible refine (slotCount j k hlt p HP.out hcj _ H.out).mono ?_) | (with_reducible refine (slotCount j k hlt p HP.out hcj _ H'.out).mono ?_)); rintro e wz ⟨rfl, rfl⟩) | (go_at_call 24; (first | (with_reducible refine (slotCap j k hlt p HP.out hcj _ H.out).mono ?_) | (with_reducible refine (slotCap j k hlt p HP.out hcj _ H'.out).mono ?_)); rintro e wz ⟨rfl, rfl⟩))
          go_round
          case rel => exact ⟨k + 1, by go_num, by omega⟩
          case measure => simp [intOf]; omega
        · obtain rfl : k = (t.sl j).length := by omega
          go_wp2
          go_round
          case rel => exact ⟨j + 1, by go_num, by omega⟩
          case measure => simp [intOf]; omega
    · obtain rfl : j = 4 := by omega
      go_wp2
      go_ret
      exact ⟨rfl, rfl⟩
def AnyBool (w : World) (e : Ending) (w' : World) : Prop := ∃ b, e = .returned (.bool b) ∧ w = w'
set_option maxHeartbeats 4000000 in
set_option maxRecDepth 100000 in
theorem zbytes (A1 : Option Addr) (n1 c1 : Nat) (A2 : Option Addr) (n2 c2 : Nat) (k0 k1 : Int) (A3 : Option Addr) (n3 c3 : Nat) (A4 : Option Addr) (n4 c4 : Nat) (k2 : Int) (w : World)
    (l1 : n1 ≤ 9223372036854775807) (l2 : n2 ≤ 9223372036854775807) (l3 : n3 ≤ 9223372036854775807) (l4 : n4 ≤ 9223372036854775807) :
    Calls Try.prog 4 #[.slice A1 n1 c1, .slice A2 n2 c2, .int .u32 k0, .int .u32 k1, .slice A3 n3 c3, .slice A4 n4 c4, .int .u32 k2] w (AnyBool w) := by
  go_enter Try.func4, Try.ntmps4
  go_wp2
  all_goals (go_ret; exact ⟨_, rfl, rfl⟩)
theorem sct_size : (Try.prog.info? 33).map (·.size) = some 4 := by kernel_rfl
set_option maxHeartbeats 4000000 in
set_option maxRecDepth 100000 in
theorem sc_any (c0 c1 : Int) (w : World) : Calls Try.prog 7 #[.int .u32 c0, .int .u32 c1] w (KPost (.agg #[.int .u32 c0, .int .u32 c1, .int .u32 0, .int .u32 0]) w) := by
  go_enter Try.func7, Try.ntmps7
  go_wp2
  have HF := Lib.hid ((Blk.new w 33 #[.int .u32 c0, .int .u32 c1, .int .u32 0, .int .u32 0]).alloc (.cells #[.int .u32 c0, .int .u32 c1, .int .u32 0, .int .u32 0] 33))
  refine bodyPost_ret (results_cell_row rfl _ _ w.heap.size _ #[.int .u32 c0, .int .u32 c1, .int .u32 0, .int .u32 0] (0, 0) _ rfl HF.out Try.underlying33 rfl sct_size) rfl ?_
  exact ⟨rfl, only_alloc (only_alloc (World.grownBy.refl _ _) _) _⟩
end Go.Proofs.Ytdmllmipcfkaaaa
