/- n011_102, the law FnLenAccumulateSymbolCount: its bounds, lengths, counts. -/
import Derived.Test.YtljgaldndgbcjaaDoorAcc
import Derived.Test.YtljgaldndgbcjaaDoorMsm
namespace Go.Proofs.YtljgaldndgbcjaaDoor
open Go.RowKit
set_option linter.unusedVariables false
set_option linter.unusedSimpArgs false
set_option maxRecDepth 100000 in
theorem len_any (A : Option Addr) (n c : Nat) (w : World) : Calls Tryd.prog 12 #[.slice A n c] w fun e w' => e = .returned (.int .i64 n) ∧ w = w' := by
  go_enter Tryd.func12, Tryd.ntmps12
  go_wp2
  go_ret
  exact ⟨rfl, rfl⟩
set_option maxHeartbeats 1000000 in
set_option maxRecDepth 100000 in
theorem slotLen {o : Nat} {mo : Option Nat} {br gm : Nat} {gs cn : Nat → Nat} {cf pf : Nat → Nat → Int} (j : Nat) (hj : j < 4) (w : World) (h : RS o mo br gm gs cn cf pf w) :
    Calls Tryd.prog 32 #[.pointer (some ⟨br, 0, none⟩), .int .i64 j] w fun e w' => e = .returned (.int .i64 (cn j)) ∧ w = w' := by
  have c0 : w.cell? ⟨br, 1, none⟩ = some (slV gs cn 0) := h.blk.cell 1
  have c1 : w.cell? ⟨br, 2, none⟩ = some (slV gs cn 1) := h.blk.cell 2
  have c2 : w.cell? ⟨br, 3, none⟩ = some (slV gs cn 2) := h.blk.cell 3
  have c3 : w.cell? ⟨br, 4, none⟩ = some (slV gs cn 3) := h.blk.cell 4
  unfold slV at c0 c1 c2 c3
  clear h
  rcases (by omega : j = 0 ∨ j = 1 ∨ j = 2 ∨ j = 3) with rfl | rfl | rfl | rfl
  all_goals
    go_enter Tryd.func32, Tryd.ntmps32
    go_wp2
    go_ret
    exact ⟨rfl, rfl⟩
set_option maxHeartbeats 1000000 in
set_option maxRecDepth 100000 in
theorem slotCount {o : Nat} {mo : Option Nat} {br gm : Nat} {gs cn : Nat → Nat} {cf pf : Nat → Nat → Int} (j k : Nat) (hj : j < 4) (hk : k < cn j) (hc : cn j ≤ 65536) (w : World) (h : RS o mo br gm gs cn cf pf w) :
    Calls Tryd.prog 17 #[.pointer (some ⟨br, 0, none⟩), .int .i64 j, .int .i64 k] w fun e w' => e = .returned (.int .u32 (cf j k)) ∧ w = w' := by
  have c0 : w.cell? ⟨br, 1, none⟩ = some (slV gs cn 0) := h.blk.cell 1
  have c1 : w.cell? ⟨br, 2, none⟩ = some (slV gs cn 1) := h.blk.cell 2
  have c2 : w.cell? ⟨br, 3, none⟩ = some (slV gs cn 2) := h.blk.cell 3
  have c3 : w.cell? ⟨br, 4, none⟩ = some (slV gs cn 3) := h.blk.cell 4
  have d := (h.slt j hj).cnt hk
  unfold slV at c0 c1 c2 c3
  clear h
  rcases (by omega : j = 0 ∨ j = 1 ∨ j = 2 ∨ j = 3) with rfl | rfl | rfl | rfl
  all_goals
    go_enter Tryd.func17, Tryd.ntmps17
    go_wp2
    go_ret
    exact ⟨rfl, rfl⟩
def TrueSame (w : World) (e : Ending) (w' : World) : Prop := e = .returned (.bool true) ∧ w = w'
set_option maxHeartbeats 2000000 in
set_option maxRecDepth 100000 in
theorem allZero {o : Nat} {mo : Option Nat} {br gm : Nat} {gs cn : Nat → Nat} {cf pf : Nat → Nat → Int} (hc : ∀ j, j < 4 → cn j ≤ 65536) (hz : ∀ j, j < 4 → ∀ k, k < cn j → cf j k = 0) (w : World) (h : RS o mo br gm gs cn cf pf w) :
    Calls Tryd.prog 16 #[.pointer (some ⟨br, 0, none⟩)] w (TrueSame w) := by
  have H := Lib.hid h; have HC := Lib.hid hc; have HZ := Lib.hid hz
  clear h hc hz
  go_enter Tryd.func16, Tryd.ntmps16
  go_wp2
  go_loop [3, 4, 5] (fun a b c => ∃ j : Nat, a = .int .i64 j ∧ j ≤ 4) (fun a b c => 4 - (intOf a).toNat)
  case atStart => exact ⟨0, rfl, by omega⟩
  case round =>
    obtain ⟨j, rfl, hj⟩ := hrel
    by_cases hlt : j < 4
    · have hcj := HC.out j hlt
      go_wp2_with (go_at_call 32; refine (slotLen j hlt _ H.out).mono ?_; rintro e wz ⟨rfl, rfl⟩)
      go_loop [5] (fun c => ∃ k : Nat, c = .int .i64 k ∧ k ≤ cn j) (fun c => cn j - (intOf c).toNat)
      case atStart => exact ⟨0, rfl, by omega⟩
      case round =>
        obtain ⟨k, rfl, hk⟩ := hrel
        by_cases hkl : k < cn j
        · have hzz := HZ.out j hlt k hkl
          go_wp2_with (go_at_call 17; refine (slotCount j k hlt hkl hcj _ H.out).mono ?_; rw [hzz]; rintro e wz ⟨rfl, rfl⟩)
          go_round
          case rel => exact ⟨k + 1, by go_num, by omega⟩
          case measure => simp [intOf]; omega
        · obtain rfl : k = cn j := by omega
          go_wp2
          go_round
          case rel => exact ⟨j + 1, by go_num, by omega⟩
          case measure => simp [intOf]; omega
    · obtain rfl : j = 4 := by omega
      go_wp2
      go_ret
      exact ⟨rfl, rfl⟩
set_option maxHeartbeats 2000000 in
set_option maxRecDepth 100000 in
theorem zbytes (A1 : Option Addr) (n1 c1 : Nat) (A2 : Option Addr) (n2 c2' : Nat) (A3 : Option Addr) (n3 c3' : Nat) (k0 k1 k2 k3 k4 k5 k6 : Int) (w : World)
    (l1 : n1 ≤ 9223372036854775807) (l2 : n2 ≤ 9223372036854775807) (l3 : n3 ≤ 9223372036854775807) :
    Calls Tryd.prog 4 #[.slice A1 n1 c1, .slice A2 n2 c2', .slice A3 n3 c3', .int .u32 k0, .int .u32 k1, .int .u32 k2, .int .u32 k3, .int .u32 k4, .int .u32 k5, .int .u32 k6] w (AnyBool w) := by
  go_enter Tryd.func4, Tryd.ntmps4
  go_wp2
  all_goals (go_ret; exact ⟨_, rfl, rfl⟩)
/-- What the law's guard asks. -/
structure Fit (n nd np : Nat) (c0 c1 c2 c3 q : Int) (ks ds : List Int) : Prop where
  hn : n ≤ 65536
  hp : np ≤ 65536
  e3 : nd = n
  hq : q < n
  hc : c0 ≤ 65536 ∧ c1 ≤ 65536 ∧ c2 ≤ 65536 ∧ c3 ≤ 65536
  nest : ∀ m, m < n → nestOk c0 c1 c2 c3 ks ds m
def FitPost (n nd np : Nat) (c0 c1 c2 c3 q : Int) (ks ds : List Int) (w : World) (e : Ending) (w' : World) : Prop :=
  ∃ b, e = .returned (.bool b) ∧ (b = true → Fit n nd np c0 c1 c2 c3 q ks ds) ∧ ∃ N, w' = w.drewN N
set_option maxHeartbeats 8000000 in
set_option maxRecDepth 100000 in
theorem fit_any (A1 : Option Addr) (n cc1 : Nat) (ks : List Int) (A3 : Option Addr) (nd cc3 : Nat) (ds : List Int) (A2 : Option Addr) (np cc2 : Nat) (c0 c1 c2 c3 q count stable : Int) (w : World)
    (h1 : Reads w w.heap.size 1 A1 n (ks.map (Value.int .u8))) (h3 : Reads w w.heap.size 1 A3 nd (ds.map (Value.int .u32)))
    (l1 : n ≤ 9223372036854775807) (l2 : np ≤ 9223372036854775807) (l3 : nd ≤ 9223372036854775807) (hq0 : 0 ≤ q)
    (hk : ∀ x ∈ ks, 0 ≤ x ∧ x ≤ 255) (hd : ∀ x ∈ ds, 0 ≤ x ∧ x ≤ 4294967295) :
    Calls Tryd.prog 5 #[.slice A1 n cc1, .slice A3 nd cc3, .slice A2 np cc2, .int .u32 q, .int .u32 count, .int .u32 stable, .int .u32 c0, .int .u32 c1, .int .u32 c2, .int .u32 c3] w (FitPost n nd np c0 c1 c2 c3 q ks ds w) := by
  have H1 := Lib.hid h1; have H3 := Lib.hid h3; have HK := Lib.hid hk; have HD := Lib.hid hd
  clear h1 h3 hk hd
  have hno : FitPost n nd np c0 c1 c2 c3 q ks ds w (.returned (.bool false)) w := ⟨false, rfl, (fun h => by cases h), 0, rfl⟩
  have HNO := Lib.hid hno
  clear hno
  by_cases hbig : 65536 < n ∨ 65536 < nd ∨ 65536 < np
  · have HB := Lib.hid hbig
    clear hbig
    go_enter Tryd.func5, Tryd.ntmps5
    go_wp2
    all_goals first | (go_ret; exact HNO.out) | (exfalso; have hq := HB.out; go_light; omega)
  · have b1 : n ≤ 65536 := by omega
    have b2 : nd ≤ 65536 := by omega
    have b3 : np ≤ 65536 := by omega
    clear hbig
    go_enter Tryd.func5, Tryd.ntmps5
    by_cases hc : c0 ≤ 65536 ∧ c1 ≤ 65536 ∧ c2 ≤ 65536 ∧ c3 ≤ 65536
    · have HC := Lib.hid hc
      have HCB := Lib.hid (show decide (c0 ≤ 65536 ∧ c1 ≤ 65536 ∧ c2 ≤ 65536 ∧ c3 ≤ 65536) = true by simpa using hc)
      clear hc
      go_wp2_with (go_at_call 19; refine (counts_any c0 c1 c2 c3 _).mono ?_; rw [HCB.out]; rintro e wz ⟨rfl, rfl⟩)
      all_goals first | (go_ret; exact HNO.out) | skip
      have e3 : (nd : Int) = n := by assumption
      have eq_ : q < (n : Int) := by assumption
      have E3 := Lib.hid e3; have EQ := Lib.hid eq_
      refine (nest_any A1 n cc1 ks A3 nd cc3 ds c0 c1 c2 c3 w H1.out H3.out (by omega) (by omega) HK.out HD.out).mono ?_
      clear e3 eq_
      rintro e w1 ⟨b, rfl, hb, hN⟩
      have HBB := Lib.hid hb; have HNN := Lib.hid hN
      clear hb hN
      go_wp2
      go_ret
      exact ⟨b, rfl, fun h => ⟨b1, b3, by have := E3.out; omega, EQ.out, HC.out, fun m hm => HBB.out h m hm (by have := E3.out; omega)⟩, HNN.out⟩
    · have HCB := Lib.hid (show decide (c0 ≤ 65536 ∧ c1 ≤ 65536 ∧ c2 ≤ 65536 ∧ c3 ≤ 65536) = false by simpa using hc)
      clear hc
      go_wp2_with (go_at_call 19; refine (counts_any c0 c1 c2 c3 _).mono ?_; rw [HCB.out]; rintro e wz ⟨rfl, rfl⟩)
      all_goals (go_ret; exact HNO.out)
end Go.Proofs.YtljgaldndgbcjaaDoor
