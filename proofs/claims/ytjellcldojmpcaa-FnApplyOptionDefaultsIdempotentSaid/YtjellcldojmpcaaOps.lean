/- zzIsDefaultLoaders, zzDefaultTemplates, zzSameTemplates (written by mkops.py). -/
import Derived.Test.YtjellcldojmpcaaOpm
namespace Go.Proofs.Ytjellcldojmpcaa
open Go.RowKit Go.Maps Go.WideMaps
set_option linter.unusedVariables false
set_option linter.unusedSimpArgs false
theorem kb_size (i : Nat) (hi : i < 13) : (kb i).size ≤ maxLen := by
  have h : i = 0 ∨ i = 1 ∨ i = 2 ∨ i = 3 ∨ i = 4 ∨ i = 5 ∨ i = 6 ∨ i = 7 ∨ i = 8 ∨ i = 9 ∨ i = 10 ∨ i = 11 ∨ i = 12 := by omega
  rcases h with rfl | rfl | rfl | rfl | rfl | rfl | rfl | rfl | rfl | rfl | rfl | rfl | rfl <;> decide
set_option maxHeartbeats 4000000 in
set_option maxRecDepth 100000 in
theorem dt_any (e c a : Value) (w : World) (he : Tm2 e dotS 1 slaB 2 w) (hc : Tm2 c dotS 2 dashB 3 w) (ha : Tm2 a dotS 2 dashB 3 w) :
    Calls Try.prog 14 #[e, c, a] w fun e w' => e = .returned (.bool true) ∧ w = w' := by
  obtain ⟨g1, rfl, b1⟩ := he
  obtain ⟨g2, rfl, b2⟩ := hc
  obtain ⟨g3, rfl, b3⟩ := ha
  unfold dotS slaB at b1
  unfold dotS dashB at b2 b3
  have c10 := b1.cell 0
  have c11 := b1.cell 1
  have c12 := b1.cell 2
  have c13 := b1.cell 3
  have c20 := b2.cell 0
  have c21 := b2.cell 1
  have c22 := b2.cell 2
  have c23 := b2.cell 3
  have c30 := b3.cell 0
  have c31 := b3.cell 1
  have c32 := b3.cell 2
  have c33 := b3.cell 3
  simp only [List.getElem?_toArray, List.getElem?_cons_zero, List.getElem?_cons_succ] at c10 c11 c12 c13 c20 c21 c22 c23 c30 c31 c32 c33
  clear b1 b2 b3
  go_enter Try.func14, Try.ntmps14
  go_wp2
  go_ret
  exact ⟨rfl, rfl⟩
set_option maxHeartbeats 4000000 in
set_option maxRecDepth 100000 in
theorem id_any (g : Nat) (w : World) (h : MapIs w g 13 D13) : Calls Try.prog 13 #[.map (some g)] w fun e w' => e = .returned (.bool true) ∧ w = w' := by
  have HM := Lib.hid h
  have hlen := h.len Try.underlying46 3
  rw [d13_size] at hlen
  clear h
  go_enter Try.func13, Try.ntmps13
  go_wp2
  go_loopw [3, 4, 5, 6, 7, 8] (fun i a1 a2 a3 a4 a5 wr => ∃ k : Nat, i = .int .i64 k ∧ k ≤ 13 ∧ wr = w) (fun i a1 a2 a3 a4 a5 _ => 13 - (intOf i).toNat)
  case atStart => exact ⟨0, rfl, by omega, rfl⟩
  case round =>
    obtain ⟨k, rfl, hk, hw⟩ := hrel
    have HW := Lib.hid hw
    have HM2 : Hid (MapIs wr g 13 D13) := Lib.hid (by rw [hw]; exact HM.out)
    clear hw
    by_cases hlt : k < 13
    · have hlt' : (k : Int) < 13 := by omega
      obtain ⟨v, hrun, hv⟩ := mp_look HM2.out (kb k) (kb_size k hlt)
      obtain rfl : v = kv k := answer_uniq hv (d13_at k hlt)
      rw [d13_has k hlt] at hrun
      clear hv
      have hkk : (kv k != kv k) = false := by simp
      go_wp2_with (first | (go_at_call 8; refine (key_any k hlt _).mono ?_; rintro e wz ⟨rfl, rfl⟩) | (go_at_call 17; refine (ldr_any k hlt _).mono ?_; rintro e wz ⟨rfl, rfl⟩))
      go_roundw
      case rel => exact ⟨k + 1, by go_num, by omega, HW.out⟩
      case measure =>
        simp [intOf]
        omega
    · obtain rfl : k = 13 := by omega
      go_wp2
      go_ret
      exact ⟨rfl, HW.out.symm⟩
/-- Rows of templates. -/
def Rows2 (g n : Nat) (A : Nat → ByteArray) (P : Nat → Int) (w : World) : Prop := ∀ i, i < n → w.cell? ⟨g, i * 2, none⟩ = some (.string (A i)) ∧ w.cell? ⟨g, i * 2 + 1, none⟩ = some (.int .u8 (P i))
set_option maxHeartbeats 4000000 in
set_option maxRecDepth 100000 in
theorem st_any (B g n c c' : Nat) (hB : B ≤ 4611686018427387904) (hn : n ≤ 4) (A : Nat → ByteArray) (P : Nat → Int) (w : World) (h : Rows2 g n A P w) :
    Calls Try.prog 9 #[.slice (some ⟨g, 0, none⟩) n c, .slice (some ⟨g, 0, none⟩) n c'] w fun e w' => e = .returned (.bool true) ∧ Below w.heap.size w w' := by
  have HR := Lib.hid h
  clear h
  go_enter Try.func9, Try.ntmps9
  go_wp2
  go_loopw [5] (fun i wr => ∃ k : Nat, i = .int .i64 k ∧ k ≤ n ∧ Rows2 g n A P wr ∧ Below w.heap.size w wr) (fun i _ => n - (intOf i).toNat)
  case atStart => exact ⟨0, rfl, by omega, HR.out, Below.refl _ _⟩
  case round =>
    obtain ⟨k, rfl, hk, hr, hbw⟩ := hrel
    have HR2 := Lib.hid hr; have HBW := Lib.hid hbw
    clear hbw
    by_cases hlt : k < n
    · obtain ⟨ck, ck1⟩ := hr k hlt
      clear hr
      have hp : (P k != P k) = false := by simp
      go_wp2
      go_region
      all_goals
        go_wp2
        go_roundw
        case rel => exact ⟨k + 1, by go_num, by omega, HR2.out, by repeat (first | exact HBW.out | apply Below.drew | apply below_drewN)⟩
        case measure =>
          simp [intOf]
          omega
    · obtain rfl : k = n := by omega
      clear hr
      have d1 : decide ((k : Int) < k) = false := by simp
      go_wp2
      go_ret
      exact ⟨rfl, HBW.out⟩
end Go.Proofs.Ytjellcldojmpcaa
