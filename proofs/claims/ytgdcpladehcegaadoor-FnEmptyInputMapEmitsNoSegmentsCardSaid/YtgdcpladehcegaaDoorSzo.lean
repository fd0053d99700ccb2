/- n011_313: zzSizeOK. -/
import Derived.Test.YtgdcpladehcegaaDoorStc
namespace Go.Proofs.YtgdcpladehcegaaDoor
open Go.RowKit
set_option linter.unusedVariables false
set_option linter.unusedSimpArgs false
set_option maxHeartbeats 1000000 in
set_option maxRecDepth 100000 in
theorem szo_any (s : ByteArray) (A : Option Addr) (n c : Nat) (D : Option Addr) (m mc : Nat) (Z : List Stp) (w : World) (hs : s.size ≤ maxLen) (hn : n ≤ maxLen) (hm : m ≤ maxLen) (hz : IsStps w D m Z) :
    Calls Tryd.prog 12 #[.string s, .slice A n c, .slice D m mc] w (SizeP s.size n m w) := by
  have HZ := Lib.hid hz
  clear hz
  unfold maxLen at hs hn hm
  by_cases h0 : 1048576 < s.size
  · go_enter Tryd.func12, Tryd.ntmps12
    go_wp2
    go_ret
    exact ⟨_, rfl, rfl, fun h => by cases h⟩
  by_cases h1 : 1048576 < n
  · go_enter Tryd.func12, Tryd.ntmps12
    go_wp2
    go_ret
    exact ⟨_, rfl, rfl, fun h => by cases h⟩
  by_cases h3 : 65536 < m
  · go_enter Tryd.func12, Tryd.ntmps12
    go_wp2
    go_ret
    exact ⟨_, rfl, rfl, fun h => by cases h⟩
  obtain ⟨t0, ht0⟩ : ∃ t, t = s.size + n + 24 * m := ⟨_, rfl⟩
  have hw0 : IntKind.i64.wrap ((s.size : Int) + (n : Int) + 24 * (m : Int)) = (t0 : Int) := by rw [IntKind.wrap_i64]; omega
  have hw1 : (s.size : Int) + (n : Int) + 24 * (m : Int) = (t0 : Int) := by omega
  have ht : t0 ≤ 4194304 := by omega
  by_cases h4 : 1048576 < t0
  · have h4' : 1048576 < (t0 : Int) := by omega
    clear ht0
    go_enter Tryd.func12, Tryd.ntmps12
    go_wp2
    go_ret
    exact ⟨_, rfl, rfl, fun h => by cases h⟩
  have h4' : ¬ 1048576 < (t0 : Int) := by omega
  have HOK : Hid (s.size + n ≤ 1048576 ∧ m ≤ 65536) := Lib.hid (by omega)
  clear ht0
  go_enter Tryd.func12, Tryd.ntmps12
  go_wp2
  go_loop [7, 8] (fun t i => ∃ (tt k : Nat), t = .int .i64 (tt : Int) ∧ i = .int .i64 (k : Int) ∧ k ≤ m ∧ tt ≤ 1048576) (fun _ i => m - (intOf i).toNat)
  case atStart => exact ⟨t0, 0, rfl, rfl, Nat.zero_le _, by omega⟩
  case round =>
    obtain ⟨tt, k, rfl, rfl, hk, htt⟩ := hrel
    by_cases hlt : k < m
    · obtain ⟨hr, hA, hml, hlen, hok⟩ := HZ.out
      obtain ⟨b, off, rfl, hbk, hx⟩ := reads3 hr (by omega)
      obtain ⟨r, hr⟩ : ∃ r, Z[k]? = some r := ⟨_, List.getElem?_eq_getElem (by omega)⟩
      obtain ⟨q0, q1, q2⟩ := hx k r hr
      have hnm := (hok r (List.mem_of_getElem? hr)).2.2
      unfold maxLen at hnm
      have HW := Lib.hid hr
      clear hr hA hml hlen hok hx hw0 hw1
      have hlt' : (k : Int) < (m : Int) := by omega
      by_cases h5 : 1048576 < r.nm.size
      · go_wp2
        go_ret
        exact ⟨_, rfl, rfl, fun h => by cases h⟩
      have hwk : IntKind.i64.wrap ((k : Int) + 1) = ((k + 1 : Nat) : Int) := by rw [IntKind.wrap_i64]; omega
      obtain ⟨t1, ht1⟩ : ∃ t, t = tt + r.nm.size := ⟨_, rfl⟩
      have hw1 : IntKind.i64.wrap ((tt : Int) + (r.nm.size : Int)) = (t1 : Int) := by rw [IntKind.wrap_i64]; omega
      by_cases h6 : 1048576 < t1
      · have h6' : 1048576 < (t1 : Int) := by omega
        clear ht1
        go_wp2
        go_ret
        exact ⟨_, rfl, rfl, fun h => by cases h⟩
      have h6' : ¬ 1048576 < (t1 : Int) := by omega
      clear ht1
      go_wp2
      go_round
      case rel => exact ⟨t1, k + 1, rfl, rfl, by omega, by omega⟩
      case measure => simp [intOf]; omega
    · obtain rfl : k = m := by omega
      have hlt' : ¬ ((k : Int) < (k : Int)) := by omega
      go_wp2
      go_ret
      exact ⟨_, rfl, rfl, fun _ => HOK.out⟩
end Go.Proofs.YtgdcpladehcegaaDoor
