/- The law's small functions (n011_92): the bounds, the count of edges, whether a file is present, the kind. -/
import Derived.Test.YtecncdcfmmceeaaGreatTnp
import Derived.Laws.MakeOwn
import Derived.IntWalk
namespace Go.Proofs.YtecncdcfmmceeaaGreat
open Go.RowKit
set_option linter.unusedVariables false
set_option linter.unusedSimpArgs false
def AnyB (w : World) (e : Ending) (w' : World) : Prop := ∃ b, e = .returned (.bool b) ∧ w = w'
set_option maxHeartbeats 1000000 in
set_option maxRecDepth 100000 in
theorem zb_any (A0 : Option Addr) (n0 c0 : Nat) (A1 : Option Addr) (n1 c1 : Nat) (A2 : Option Addr) (n2 c2 : Nat) (A3 : Option Addr) (n3 c3 : Nat) (A4 : Option Addr) (n4 c4 : Nat) (w : World) (h0 : n0 ≤ maxLen) (h1 : n1 ≤ maxLen) (h2 : n2 ≤ maxLen) (h3 : n3 ≤ maxLen) (h4 : n4 ≤ maxLen) :
    Calls Tryz.prog 4 #[.slice A0 n0 c0, .slice A1 n1 c1, .slice A2 n2 c2, .slice A3 n3 c3, .slice A4 n4 c4] w (AnyB w) := by
  unfold maxLen at h0 h1 h2 h3 h4
  have w0 : IntKind.i64.wrap (n0 : Int) = (n0 : Int) := by rw [IntKind.wrap_i64]; omega
  by_cases a0 : 1048576 < (n0 : Int)
  · go_enter Tryz.func4, Tryz.ntmps4
    go_wp2
    go_ret
    exact ⟨_, rfl, rfl⟩
  by_cases a1 : 1048576 < (n1 : Int)
  · go_enter Tryz.func4, Tryz.ntmps4
    go_wp2
    go_ret
    exact ⟨_, rfl, rfl⟩
  have w1 : IntKind.i64.wrap ((n0 : Int) + (n1 : Int)) = (n0 : Int) + (n1 : Int) := by rw [IntKind.wrap_i64]; omega
  by_cases b1 : 1048576 < (n0 : Int) + (n1 : Int)
  · go_enter Tryz.func4, Tryz.ntmps4
    go_wp2
    go_ret
    exact ⟨_, rfl, rfl⟩
  by_cases a2 : 1048576 < (n2 : Int)
  · go_enter Tryz.func4, Tryz.ntmps4
    go_wp2
    go_ret
    exact ⟨_, rfl, rfl⟩
  have w2 : IntKind.i64.wrap ((n0 : Int) + (n1 : Int) + (n2 : Int)) = (n0 : Int) + (n1 : Int) + (n2 : Int) := by rw [IntKind.wrap_i64]; omega
  by_cases b2 : 1048576 < (n0 : Int) + (n1 : Int) + (n2 : Int)
  · go_enter Tryz.func4, Tryz.ntmps4
    go_wp2
    go_ret
    exact ⟨_, rfl, rfl⟩
  by_cases a3 : 1048576 < (n3 : Int)
  · go_enter Tryz.func4, Tryz.ntmps4
    go_wp2
    go_ret
    exact ⟨_, rfl, rfl⟩
  have w3 : IntKind.i64.wrap ((n0 : Int) + (n1 : Int) + (n2 : Int) + (n3 : Int)) = (n0 : Int) + (n1 : Int) + (n2 : Int) + (n3 : Int) := by rw [IntKind.wrap_i64]; omega
  by_cases b3 : 1048576 < (n0 : Int) + (n1 : Int) + (n2 : Int) + (n3 : Int)
  · go_enter Tryz.func4, Tryz.ntmps4
    go_wp2
    go_ret
    exact ⟨_, rfl, rfl⟩
  by_cases a4 : 1048576 < (n4 : Int)
  · go_enter Tryz.func4, Tryz.ntmps4
    go_wp2
    go_ret
    exact ⟨_, rfl, rfl⟩
  have w4 : IntKind.i64.wrap ((n0 : Int) + (n1 : Int) + (n2 : Int) + (n3 : Int) + (n4 : Int)) = (n0 : Int) + (n1 : Int) + (n2 : Int) + (n3 : Int) + (n4 : Int) := by rw [IntKind.wrap_i64]; omega
  by_cases b4 : 1048576 < (n0 : Int) + (n1 : Int) + (n2 : Int) + (n3 : Int) + (n4 : Int)
  · go_enter Tryz.func4, Tryz.ntmps4
    go_wp2
    go_ret
    exact ⟨_, rfl, rfl⟩
  go_enter Tryz.func4, Tryz.ntmps4
  go_wp2
  go_ret
  exact ⟨_, rfl, rfl⟩
/-- Too big, or not. -/
def BigPost (n0 n1 n2 n3 n4 : Nat) (w : World) (e : Ending) (w' : World) : Prop := ∃ b, e = .returned (.bool b) ∧ w = w' ∧ (b = false → n0 ≤ 4096 ∧ n1 ≤ 4096 ∧ n2 ≤ 4096 ∧ n3 ≤ 4096 ∧ n4 ≤ 4096)
set_option maxHeartbeats 1000000 in
set_option maxRecDepth 100000 in
theorem big_any (A0 A1 A2 A3 A4 : Option Addr) (n0 n1 n2 n3 n4 c0 c1 c2 c3 c4 : Nat) (w : World) : Calls Tryz.prog 5 #[.slice A0 n0 c0, .slice A1 n1 c1, .slice A2 n2 c2, .slice A3 n3 c3, .slice A4 n4 c4] w (BigPost n0 n1 n2 n3 n4 w) := by
  by_cases a0 : 4096 < (n0 : Int)
  · go_enter Tryz.func5, Tryz.ntmps5
    go_wp2
    go_ret
    exact ⟨_, rfl, rfl, fun h => by first | exact ⟨by omega, by omega, by omega, by omega, by omega⟩ | cases h⟩
  by_cases a1 : 4096 < (n1 : Int)
  · go_enter Tryz.func5, Tryz.ntmps5
    go_wp2
    go_ret
    exact ⟨_, rfl, rfl, fun h => by first | exact ⟨by omega, by omega, by omega, by omega, by omega⟩ | cases h⟩
  by_cases a2 : 4096 < (n2 : Int)
  · go_enter Tryz.func5, Tryz.ntmps5
    go_wp2
    go_ret
    exact ⟨_, rfl, rfl, fun h => by first | exact ⟨by omega, by omega, by omega, by omega, by omega⟩ | cases h⟩
  by_cases a3 : 4096 < (n3 : Int)
  · go_enter Tryz.func5, Tryz.ntmps5
    go_wp2
    go_ret
    exact ⟨_, rfl, rfl, fun h => by first | exact ⟨by omega, by omega, by omega, by omega, by omega⟩ | cases h⟩
  by_cases a4 : 4096 < (n4 : Int)
  · go_enter Tryz.func5, Tryz.ntmps5
    go_wp2
    go_ret
    exact ⟨_, rfl, rfl, fun h => by first | exact ⟨by omega, by omega, by omega, by omega, by omega⟩ | cases h⟩
  have s1 : IntKind.i64.wrap ((n0 : Int) + (n1 : Int)) = (n0 : Int) + (n1 : Int) := by rw [IntKind.wrap_i64]; omega
  have s2 : IntKind.i64.wrap (2 * (n2 : Int)) = 2 * (n2 : Int) := by rw [IntKind.wrap_i64]; omega
  have s3 : IntKind.i64.wrap ((n0 : Int) + (n1 : Int) + 2 * (n2 : Int)) = (n0 : Int) + (n1 : Int) + 2 * (n2 : Int) := by rw [IntKind.wrap_i64]; omega
  have s4 : IntKind.i64.wrap (2 * (n3 : Int)) = 2 * (n3 : Int) := by rw [IntKind.wrap_i64]; omega
  have s5 : IntKind.i64.wrap ((n0 : Int) + (n1 : Int) + 2 * (n2 : Int) + 2 * (n3 : Int)) = (n0 : Int) + (n1 : Int) + 2 * (n2 : Int) + 2 * (n3 : Int) := by rw [IntKind.wrap_i64]; omega
  have s6 : IntKind.i64.wrap ((n0 : Int) + (n1 : Int) + 2 * (n2 : Int) + 2 * (n3 : Int) + (n4 : Int)) = (n0 : Int) + (n1 : Int) + 2 * (n2 : Int) + 2 * (n3 : Int) + (n4 : Int) := by rw [IntKind.wrap_i64]; omega
  have s7 : ¬ 1048576 < (n0 : Int) + (n1 : Int) + 2 * (n2 : Int) + 2 * (n3 : Int) + (n4 : Int) := by omega
  go_enter Tryz.func5, Tryz.ntmps5
  go_wp2
  go_ret
  exact ⟨_, rfl, rfl, fun h => by first | exact ⟨by omega, by omega, by omega, by omega, by omega⟩ | cases h⟩

/-- The count of edges: the least of the three lengths. -/
def CntPost (m : Nat) (w : World) (e : Ending) (w' : World) : Prop := e = .returned (.int .i64 (m : Int)) ∧ w = w'
set_option maxRecDepth 100000 in
theorem cnt_any (A2 A3 A4 : Option Addr) (n2 n3 n4 c2 c3 c4 m : Nat) (w : World) (hm : m = min (min n2 n3) n4) : Calls Tryz.prog 9 #[.slice A2 n2 c2, .slice A3 n3 c3, .slice A4 n4 c4] w (CntPost m w) := by
  by_cases h1 : n3 < n2
  · have h1' : (n3 : Int) < (n2 : Int) := by omega
    by_cases h2 : n4 < n3
    · have h2' : (n4 : Int) < (n3 : Int) := by omega
      have em : m = n4 := by omega
      clear hm
      subst em
      go_enter Tryz.func9, Tryz.ntmps9
      go_wp2
      go_ret
      exact ⟨rfl, rfl⟩
    · have h2' : ¬ (n4 : Int) < (n3 : Int) := by omega
      have em : m = n3 := by omega
      clear hm
      subst em
      go_enter Tryz.func9, Tryz.ntmps9
      go_wp2
      go_ret
      exact ⟨rfl, rfl⟩
  · have h1' : ¬ (n3 : Int) < (n2 : Int) := by omega
    by_cases h2 : n4 < n2
    · have h2' : (n4 : Int) < (n2 : Int) := by omega
      have em : m = n4 := by omega
      clear hm
      subst em
      go_enter Tryz.func9, Tryz.ntmps9
      go_wp2
      go_ret
      exact ⟨rfl, rfl⟩
    · have h2' : ¬ (n4 : Int) < (n2 : Int) := by omega
      have em : m = n2 := by omega
      clear hm
      subst em
      go_enter Tryz.func9, Tryz.ntmps9
      go_wp2
      go_ret
      exact ⟨rfl, rfl⟩
/-- A file is present unless the list says that it is gone. -/
def okN (lg : Nat) (gf : Nat → Bool) (i : Nat) : Bool := decide (lg ≤ i) || !gf i
def BoolPost (b : Bool) (w : World) (e : Ending) (w' : World) : Prop := e = .returned (.bool b) ∧ w = w'
set_option maxRecDepth 100000 in
theorem file_any (lg : Nat) (gf : Nat → Bool) (Ag : Option Addr) (cg i : Nat) (w : World) (h : Arr w 4 Ag lg (fun j => .bool (gf j))) : Calls Tryz.prog 13 #[.slice Ag lg cg, .int .i64 (i : Int)] w (BoolPost (okN lg gf i) w) := by
  by_cases hl : i < lg
  · have hl' : (i : Int) < (lg : Int) := by omega
    obtain ⟨g, rfl, c1⟩ := h.at_ hl
    obtain ⟨b, hb⟩ : ∃ b, b = gf i := ⟨_, rfl⟩
    rw [← hb] at c1
    have HE : Hid (okN lg gf i = (decide (lg ≤ i) || !b)) := Lib.hid (by unfold okN; rw [hb])
    clear hb h
    go_enter Tryz.func13, Tryz.ntmps13
    go_wp2
    go_ret
    exact ⟨ret_bool HE.out.symm, rfl⟩
  · have hl' : ¬ (i : Int) < (lg : Int) := by omega
    have HE : Hid (okN lg gf i = true) := Lib.hid (by unfold okN; simp; left; omega)
    clear h
    go_enter Tryz.func13, Tryz.ntmps13
    go_wp2
    go_ret
    exact ⟨ret_bool HE.out.symm, rfl⟩
def KndPost (k : Nat) (w : World) (e : Ending) (w' : World) : Prop := e = .returned (.int .u8 ((k % 3 + 1 : Nat) : Int)) ∧ w = w'
set_option maxRecDepth 100000 in
theorem knd_any (k : Nat) (w : World) (hk : k ≤ 255) : Calls Tryz.prog 18 #[.int .u8 (k : Int)] w (KndPost k w) := by
  have hmod : (k : Int).tmod 3 = ((k % 3 : Nat) : Int) := by rw [Int.tmod_eq_emod_of_nonneg (by omega)]; omega
  obtain ⟨r, hr⟩ : ∃ r, r = k % 3 := ⟨_, rfl⟩
  have hr3 : r = 0 ∨ r = 1 ∨ r = 2 := by omega
  have HP : Hid (∀ v : Int, v = ((r + 1 : Nat) : Int) → KndPost k w (.returned (.int .u8 v)) w) := Lib.hid (fun v hv => ⟨by rw [hv, hr], rfl⟩)
  rw [← hr] at hmod
  have hwr : IntKind.u8.wrap (r : Int) = (r : Int) := by rw [IntKind.wrap_u8']; omega
  clear hr
  rcases hr3 with rfl | rfl | rfl
  all_goals
    go_enter Tryz.func18, Tryz.ntmps18
    go_wp2
    go_ret
    exact HP.out _ rfl
end Go.Proofs.YtecncdcfmmceeaaGreat
