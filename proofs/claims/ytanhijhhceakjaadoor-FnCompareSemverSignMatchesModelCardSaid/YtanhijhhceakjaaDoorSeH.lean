/- The helpers of the laws on CompareSemver: the parts' bounds, the sign, the copy. -/
import Derived.Test.YtanhijhhceakjaaDoorSeC
import Derived.Test.YtanhijhhceakjaaDoorCli
namespace Go.Proofs.YtanhijhhceakjaaDoor
open Go.RowKit
set_option linter.unusedVariables false
set_option linter.unusedSimpArgs false
def inB (x : Int) : Bool := decide (-4611686018427387903 ≤ x ∧ x ≤ 4611686018427387903)
theorem inB_t (x : Int) : inB x = true ↔ -4611686018427387903 ≤ x ∧ x ≤ 4611686018427387903 := by unfold inB; simp
def pok (zs : List Int) : Bool := zs.all inB
theorem pok_all (zs : List Int) (h : ∀ i, i < zs.length → inB (zs.getD i 0) = true) : pok zs = true := by
  unfold pok
  rw [List.all_eq_true]
  intro x hx
  obtain ⟨j, hj, rfl⟩ := List.getElem_of_mem hx
  have := h j hj
  rwa [List.getD_eq_getElem?_getD, List.getElem?_eq_getElem hj] at this
theorem pok_not (zs : List Int) (i : Nat) (hi : i < zs.length) (h : inB (zs.getD i 0) = false) : pok zs = false := by
  unfold pok
  rw [List.all_eq_false]
  refine ⟨zs[i], List.getElem_mem hi, ?_⟩
  rw [List.getD_eq_getElem?_getD, List.getElem?_eq_getElem hi] at h
  simpa using h
theorem pok_ok (zs : List Int) (h : pok zs = true) : okPart zs := by
  intro i
  rcases Nat.lt_or_ge i zs.length with hi | hi
  · have := List.all_eq_true.1 h zs[i] (List.getElem_mem hi)
    rw [inB_t] at this
    rw [List.getD_eq_getElem?_getD, List.getElem?_eq_getElem hi]
    exact this
  · rw [getD_past zs i hi]; omega
set_option maxHeartbeats 1000000 in
set_option maxRecDepth 100000 in
theorem parts_any (A : Option Addr) (n cap : Nat) (zs : List Int) (w : World) (hr : Reads w w.heap.size 1 A n (zs.map (Value.int .i64))) (hn : n ≤ 16777216) :
    Calls Tryd.prog 8 #[.slice A n cap] w fun e w' => e = .returned (.bool (pok zs)) ∧ w = w' := by
  have hlen : zs.length = n := by have := hr.1; simpa using this
  have HLEN := Lib.hid hlen
  have HR := Lib.hid hr
  clear hlen hr
  go_enter Tryd.func8, Tryd.ntmps8
  go_wp2
  go_loop [4] (fun i => ∃ k : Nat, i = .int .i64 k ∧ k ≤ n ∧ ∀ j, j < k → inB (zs.getD j 0) = true) (fun i => n - (intOf i).toNat)
  case atStart => exact ⟨0, rfl, by omega, fun j hj => by omega⟩
  case round =>
    obtain ⟨k, rfl, hk, hall⟩ := hrel
    have HALL := Lib.hid hall
    clear hall
    by_cases hlt : k < n
    · obtain ⟨b, off, rfl, hb, hc⟩ := reads_cell HR.out (by omega)
      have hck := hc k hlt
      generalize hx : zs.getD k 0 = x at hck
      have HX := Lib.hid hx
      clear hc hx
      by_cases hin : -4611686018427387903 ≤ x ∧ x ≤ 4611686018427387903
      · have d1 : decide (4611686018427387903 < x) = false := by simp; omega
        have d2 : decide (x < -4611686018427387903) = false := by simp; omega
        have q1 : ¬ 4611686018427387903 < x := by omega
        have q2 : ¬ x < -4611686018427387903 := by omega
        have HIN := Lib.hid hin
        clear hin
        go_wp2
        go_round
        case rel =>
          refine ⟨k + 1, by go_num, by omega, fun j hj => ?_⟩
          by_cases e : j = k
          · rw [e, HX.out, inB_t]; exact HIN.out
          · exact HALL.out j (by omega)
        case measure => simp [intOf]; omega
      · have HF := Lib.hid (pok_not zs k (by have := HLEN.out; omega) (by rw [HX.out]; unfold inB; simpa using hin))
        by_cases q1 : 4611686018427387903 < x
        · have d1 : decide (4611686018427387903 < x) = true := by simpa using q1
          clear hin
          go_wp2
          go_ret
          exact ⟨ret_bool HF.out.symm, rfl⟩
        · have d1 : decide (4611686018427387903 < x) = false := by simpa using q1
          have q2 : x < -4611686018427387903 := by omega
          have d2 : decide (x < -4611686018427387903) = true := by simpa using q2
          clear hin
          go_wp2
          go_ret
          exact ⟨ret_bool HF.out.symm, rfl⟩
    · have HF := Lib.hid (pok_all zs (fun i hi => HALL.out i (by have := HLEN.out; omega)))
      go_wp2
      go_ret
      exact ⟨ret_bool HF.out.symm, rfl⟩
set_option maxRecDepth 100000 in
theorem sgn_any (x : Int) (w : World) : Calls Tryd.prog 12 #[.int .i64 x] w fun e w' => e = .returned (.int .i64 (sgn x)) ∧ w = w' := by
  go_enter Tryd.func12, Tryd.ntmps12
  go_wp2
  all_goals
    go_ret
    refine ⟨ret_int ?_, rfl⟩
    go_light
    symm
    unfold sgn
    repeat' split
    all_goals first | rfl | omega
def ClPost (n : Nat) (xs : List Value) (w : World) (e : Ending) (w' : World) : Prop :=
  ∃ A c, e = .returned (.slice A n c) ∧ Reads w' w'.heap.size 1 A n xs ∧ Below w.heap.size w w'
theorem blk_reads {w : World} {g : Nat} {t : TypeId} {xs : List Value} {n : Nat} (h : Blk w g t xs.toArray) (hl : xs.length = n) : Reads w w.heap.size 1 (some ⟨g, 0, none⟩) n xs := by
  refine ⟨by omega, fun _ => ⟨_, rfl, h.lt, fun j u hu => ?_⟩⟩
  have := h.cell j
  rw [List.getElem?_toArray, hu] at this
  rw [← this]
  unfold Addr.add
  split
  · rename_i h0; subst h0; rfl
  · simp
theorem clone_any (A : Option Addr) (n cap : Nat) (zs : List Int) (w : World) (hr : Reads w w.heap.size 1 A n (zs.map (Value.int .i64))) (hn : n ≤ 16777216) (hA : A = none → n = 0) :
    Calls Tryd.prog 10 #[.slice A n cap] w (ClPost n (zs.map (Value.int .i64)) w) := by
  have hl : (zs.map (Value.int .i64)).length = n := by have := hr.1; simpa using this
  refine (cloneI A n cap zs w hr hn).mono fun e w' hp => ?_
  rcases hp with ⟨h0, rfl, rfl⟩ | ⟨g, _, rfl, hge, hbk, hb⟩
  · obtain rfl := hA h0
    have hz : zs.map (Value.int .i64) = [] := List.eq_nil_of_length_eq_zero hl
    rw [hz]
    exact ⟨none, 0, rfl, Reads.none_, Below.refl _ _⟩
  · exact ⟨_, n, rfl, blk_reads hbk hl, hb⟩
end Go.Proofs.YtanhijhhceakjaaDoor
