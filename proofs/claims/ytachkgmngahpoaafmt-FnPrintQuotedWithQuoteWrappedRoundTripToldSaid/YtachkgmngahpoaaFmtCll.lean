/- currentLineLength of a printer that was never asked before. -/
import Derived.Test.YtachkgmngahpoaaFmtPqb
import Derived.Test.YtachkgmngahpoaaFmtQh2
import Derived.LoopTactic
import Derived.Outline
namespace Go.Proofs.YtachkgmngahpoaaFmt
open Go.RowKit
set_option linter.unusedVariables false
set_option linter.unusedSimpArgs false
set_option maxHeartbeats 2000000 in
set_option maxRecDepth 100000 in
theorem cll_any {B b : Nat} {K : Array Value} {A : Option Addr} {cap : Nat} {bs : List Value} (xs : List Int) (hbs : bs = xs.map (Value.int .u8)) (w : World) (h : IsP B b K A cap bs w) (n : Nat) (hL : bs.length = n) (hn : n ≤ 16777216) (k41 : K[41]? = some (.int .i64 0)) (k42 : K[42]? = some (.int .i64 0)) :
    Calls Tryf.prog 16 #[.pointer (some ⟨b, 0, none⟩)] w (CllPost B b K A cap n bs w) := by
  have c15 : w.cell? ⟨b, 15, none⟩ = some (.slice A n cap) := h.css hL
  have c41 : w.cell? ⟨b, 41, none⟩ = some (.int .i64 0) := (h.cell (by decide)).trans k41
  have c42 : w.cell? ⟨b, 42, none⟩ = some (.int .i64 0) := (h.cell (by decide)).trans k42
  have z41 : w.frozen? ⟨b, 41, none⟩ = false := h.blk.frozen 41
  have z42 : w.frozen? ⟨b, 42, none⟩ = false := h.blk.frozen 42
  have hown := h.ownL hL
  rw [hbs] at hown
  have HX := Lib.hid (Reads.of_own hown)
  have HB := Lib.hid h.base
  have H := Lib.hid h
  have keep : ∀ (v u : Value) (i : Nat), i ≠ 41 → i ≠ 42 → ((K.setIfInBounds 41 v).setIfInBounds 42 u)[i]? = K[i]? := fun v u i h1 h2 => by
    rw [Array.getElem?_setIfInBounds_ne (fun e => h2 e.symm), Array.getElem?_setIfInBounds_ne (fun e => h1 e.symm)]
  have keep2 : ∀ (u : Value) (i : Nat), i ≠ 41 → i ≠ 42 → (K.setIfInBounds 42 u)[i]? = K[i]? := fun u i h1 h2 => by
    rw [Array.getElem?_setIfInBounds_ne (fun e => h2 e.symm)]
  have HK := Lib.hid keep; have HK2 := Lib.hid keep2
  clear h hL hown keep keep2 hbs k41 k42
  go_enter Tryf.func16, Tryf.ntmps16
  go_wp2
  go_loop [6] (fun i => ∃ k : Nat, i = .int .i64 k ∧ k ≤ n) (fun i => (intOf i).toNat)
  case atStart => exact ⟨n, rfl, by omega⟩
  case round =>
    obtain ⟨k, rfl, hk⟩ := hrel
    by_cases hlt : 0 < k
    · obtain ⟨k, rfl⟩ : ∃ k', k = k' + 1 := ⟨k - 1, by omega⟩
      have hd : decide ((0 : Int) < (k + 1 : Nat)) = true := by rw [decide_eq_true_iff]; omega
      obtain ⟨b', off, rfl, hb, hc⟩ := reads_cell HX.out (by omega)
      have ck := hc k (by omega)
      generalize ex : xs.getD k 0 = x at ck
      have es : ((k + 1 : Nat) : Int) - 1 = k := by omega
      clear hc ex
      by_cases h10 : x = 13 ∨ x = 10
      · have fin : ∀ w', w' = (w.setCell ⟨b, 41, none⟩ (.int .i64 ((k : Int) + 1))).setCell ⟨b, 42, none⟩ (.int .i64 n) → CllPost B b K (some ⟨b', off, none⟩) cap n bs w (.returned (.int .i64 ((n : Int) - ((k : Int) + 1)))) w' := fun w' e => by
          subst e
          exact ⟨n - (k + 1), _, ret_int (by omega), by omega, (H.out.put_ (by decide) _).put_ (by decide) _, HK.out _ _, ((Below.refl _ _).setCell (p := ⟨b, 41, none⟩) HB.out _).setCell (p := ⟨b, 42, none⟩) HB.out _, ((Kept.refl _ _ _).set 41 _).set 42 _⟩
        have FIN := Lib.hid fin
        clear fin
        rcases h10 with rfl | rfl
        · go_wp2
          go_ret
          exact FIN.out _ rfl
        · go_wp2
          go_ret
          exact FIN.out _ rfl
      · have n13 : (x == 13) = false := beq_eq_false_iff_ne.2 (fun e => h10 (.inl e))
        have n10 : (x == 10) = false := beq_eq_false_iff_ne.2 (fun e => h10 (.inr e))
        clear h10
        go_wp2
        go_round
        case rel => exact ⟨k, by go_num, by omega⟩
        case measure =>
          simp [intOf] <;> omega
    · obtain rfl : k = 0 := by omega
      go_wp2
      go_ret
      exact ⟨n, _, ret_int (by omega), Nat.le_refl _, H.out.put_ (by decide) _, HK2.out _, (Below.refl _ _).setCell (p := ⟨b, 42, none⟩) HB.out _, (Kept.refl _ _ _).set 42 _⟩
end Go.Proofs.YtachkgmngahpoaaFmt
