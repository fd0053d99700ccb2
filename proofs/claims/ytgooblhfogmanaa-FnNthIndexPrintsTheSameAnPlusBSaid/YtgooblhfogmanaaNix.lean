/- n011_276: the law's own helpers: texts of integers, the canonical text, what follows a prefix. -/
import Derived.Test.YtgooblhfogmanaaRows
import Derived.Test.YtgooblhfogmanaaWords
import Derived.WalkKit
import Derived.WalkSpells
import Derived.LoopTactic
import Derived.Laws.IdiomStrings
import Derived.BigRegion
import Derived.BigQuiet
import Derived.Deep.QuietTactic
import Derived.Deep.Light
import Derived.Outline
namespace Go.Proofs.Ytgooblhfogmanaa
open Go.RowKit
set_option linter.unusedVariables false
set_option linter.unusedSimpArgs false

abbrev Bs := List UInt8
def isDg (c : UInt8) : Prop := 48 ≤ (c.toNat : Int) ∧ (c.toNat : Int) ≤ 57
/-- One digit or more, ahead of them perhaps a minus sign. -/
def IntT (l : Bs) : Prop := ∃ d : Bs, d ≠ [] ∧ (∀ c ∈ d, isDg c) ∧ (l = d ∨ l = 45 :: d)
noncomputable def intB (l : Bs) : Bool := @decide (IntT l) (Classical.propDecidable _)
theorem intB_yes {l : Bs} (h : IntT l) : intB l = true := by unfold intB; exact @decide_eq_true _ (Classical.propDecidable _) h
theorem intB_no {l : Bs} (h : ¬ IntT l) : intB l = false := by unfold intB; exact @decide_eq_false _ (Classical.propDecidable _) h
theorem dg45 : ¬ isDg 45 := by unfold isDg; decide
theorem int_from {l : Bs} {i : Nat} (hi : i < l.length) (h0 : i = 0 ∨ (i = 1 ∧ l.getD 0 0 = 45)) (h : ∀ j, i ≤ j → j < l.length → isDg (l.getD j 0)) : IntT l := by
  have key : ∀ d : Bs, (∀ j, j < d.length → isDg (d.getD j 0)) → ∀ c ∈ d, isDg c := fun d hd c hc => by
    obtain ⟨j, hj, rfl⟩ := List.getElem_of_mem hc
    have := hd j hj
    rwa [List.getD_eq_getElem?_getD, List.getElem?_eq_getElem hj] at this
  rcases h0 with rfl | ⟨rfl, h0⟩
  · exact ⟨l, fun e => by subst e; simp at hi, key l (fun j hj => h j (by omega) hj), .inl rfl⟩
  · cases l with
    | nil => simp at hi
    | cons a d =>
      have ha : a = 45 := by simpa using h0
      subst ha
      refine ⟨d, fun e => by subst e; simp at hi, key d (fun j hj => ?_), .inr rfl⟩
      have := h (j + 1) (by omega) (by simp; omega)
      simpa using this
theorem int_not {l : Bs} {i j : Nat} (h0 : (i = 0 ∧ l.getD 0 0 ≠ 45) ∨ (i = 1 ∧ l.getD 0 0 = 45)) (hj : i ≤ j) (hl : j < l.length) (h : ¬ isDg (l.getD j 0)) : ¬ IntT l := by
  rintro ⟨d, hd, hall, rfl | rfl⟩
  · rcases h0 with ⟨rfl, _⟩ | ⟨rfl, h0⟩
    · exact h (by rw [List.getD_eq_getElem?_getD, List.getElem?_eq_getElem hl]; exact hall _ (List.getElem_mem _))
    · have h1 : 0 < l.length := by omega
      have := hall l[0] (List.getElem_mem _)
      rw [List.getD_eq_getElem?_getD, List.getElem?_eq_getElem h1] at h0
      have h0' : l[0] = 45 := h0
      rw [h0'] at this
      exact dg45 this
  · rcases h0 with ⟨rfl, h0⟩ | ⟨rfl, h0⟩
    · simp at h0
    · obtain ⟨k, rfl⟩ : ∃ k, j = k + 1 := ⟨j - 1, by omega⟩
      have hk : k < d.length := by simpa using hl
      refine h ?_
      rw [List.getD_cons_succ, List.getD_eq_getElem?_getD, List.getElem?_eq_getElem hk]
      exact hall _ (List.getElem_mem _)
theorem int_short {l : Bs} (h : l = [] ∨ l = [45]) : ¬ IntT l := by
  rintro ⟨d, hd, hall, rfl | rfl⟩
  · rcases h with h | h
    · exact hd h
    · subst h; exact dg45 (hall 45 (by simp))
  · rcases h with h | h
    · cases h
    · injection h with _ h; exact hd h
theorem byte_get (s : ByteArray) (k : Nat) (h : k < s.size) : s[k] = s.data.toList.getD k 0 := by
  rw [List.getD_eq_getElem?_getD, List.getElem?_eq_getElem (by simpa using h)]; rfl
theorem byte_size (s : ByteArray) : s.data.toList.length = s.size := by rw [Array.length_toList]; rfl
theorem one_byte {s : ByteArray} (h : s.size = 1) {c : UInt8} (hc : s.data.toList.getD 0 0 = c) : s.data.toList = [c] := by
  have hl := byte_size s
  rw [h] at hl
  match e : s.data.toList, hl with
  | [x], _ => rw [e] at hc; simpa using hc
theorem no_byte {s : ByteArray} (h : s.size = 0) : s.data.toList = [] := List.eq_nil_of_length_eq_zero (by rw [byte_size]; exact h)

set_option maxHeartbeats 1000000 in
set_option maxRecDepth 100000 in
theorem isInt_any (s : ByteArray) (w : World) (hs : s.size ≤ 16777216) :
    Calls Try.prog 5 #[.string s] w fun e w' => e = .returned (.bool (intB s.data.toList)) ∧ w = w' := by
  by_cases hz : s.size = 0
  · have HF := Lib.hid (intB_no (int_short (.inl (no_byte hz))))
    have z1 : (s.size : Int) = 0 := by omega
    go_enter Try.func5, Try.ntmps5
    go_wp2
    go_ret
    exact ⟨ret_bool HF.out.symm, rfl⟩
  have hp : 0 < s.size := by omega
  have hb0 := byte_get s 0 hp
  have hall : ∀ i : Nat, i < s.size → ((i = 0 ∧ s.data.toList.getD 0 0 ≠ 45) ∨ (i = 1 ∧ s.data.toList.getD 0 0 = 45)) →
    (∀ j, i ≤ j → j < s.data.toList.length → isDg (s.data.toList.getD j 0)) → intB s.data.toList = true := fun i hi h0 h => intB_yes (int_from (by rw [byte_size]; exact hi) (by rcases h0 with h0 | h0; exact .inl h0.1; exact .inr h0) h)
  have hno : ∀ i j : Nat, ((i = 0 ∧ s.data.toList.getD 0 0 ≠ 45) ∨ (i = 1 ∧ s.data.toList.getD 0 0 = 45)) → i ≤ j → j < s.size → ¬ isDg (s.data.toList.getD j 0) → intB s.data.toList = false := fun i j h0 hj hl h => intB_no (int_not h0 hj (by rw [byte_size]; exact hl) h)
  have h1s : s.size = 1 → s.data.toList.getD 0 0 = 45 → intB s.data.toList = false := fun h1 h2 => intB_no (int_short (.inr (one_byte h1 h2)))
  have HB0 := Lib.hid hb0; have HALL := Lib.hid hall; have HNO := Lib.hid hno; have H1S := Lib.hid h1s
  clear hb0 hall hno h1s
  by_cases h45 : s[0] = 45
  · have q1 : ((s[0].toNat : Int) == 45) = true := by rw [h45]; rfl
    have H45 := Lib.hid h45
    clear h45
    by_cases hs1 : s.size = 1
    · have q2 : ((1 : Int) == s.size) = true := by rw [hs1]; rfl
      have HF := Lib.hid (H1S.out hs1 (by rw [← HB0.out]; exact H45.out))
      clear hs1
      go_enter Try.func5, Try.ntmps5
      go_wp2
      go_ret
      exact ⟨ret_bool HF.out.symm, rfl⟩
    have q2 : ((1 : Int) == s.size) = false := by rw [beq_eq_false_iff_ne]; omega
    go_enter Try.func5, Try.ntmps5
    go_wp2
    go_loop [3] (fun i => ∃ k : Nat, i = .int .i64 k ∧ k ≤ s.size ∧ 1 ≤ k ∧ ∀ j, 1 ≤ j → j < k → isDg (s.data.toList.getD j 0)) (fun i => s.size - (intOf i).toNat)
    case atStart => exact ⟨1, rfl, by omega, by omega, fun j h1 h2 => by omega⟩
    case round =>
      obtain ⟨k, rfl, hk, hk0, hd⟩ := hrel
      have HD := Lib.hid hd
      clear hd
      by_cases hlt : k < s.size
      · have hbk := byte_get s k hlt
        have HBK := Lib.hid hbk
        clear hbk
        by_cases hc1 : (s[k].toNat : Int) < 48
        · have HF := Lib.hid (HNO.out 1 k (.inr ⟨rfl, by rw [← HB0.out]; exact H45.out⟩) hk0 hlt (by rw [← HBK.out]; unfold isDg; omega))
          go_wp2
          go_ret
          exact ⟨ret_bool HF.out.symm, rfl⟩
        · by_cases hc2 : 57 < (s[k].toNat : Int)
          · have HF := Lib.hid (HNO.out 1 k (.inr ⟨rfl, by rw [← HB0.out]; exact H45.out⟩) hk0 hlt (by rw [← HBK.out]; unfold isDg; omega))
            go_wp2
            go_ret
            exact ⟨ret_bool HF.out.symm, rfl⟩
          · have HN : Hid (isDg (s.data.toList.getD k 0)) := Lib.hid (by rw [← HBK.out]; unfold isDg; omega)
            go_wp2
            go_round
            case rel =>
              refine ⟨k + 1, by go_num, by omega, by omega, fun j h1 h2 => ?_⟩
              by_cases e : j = k
              · rw [e]; exact HN.out
              · exact HD.out j h1 (by omega)
            case measure => simp [intOf]; omega
      · obtain rfl : k = s.size := by omega
        have HF := Lib.hid (HALL.out 1 (by omega) (.inr ⟨rfl, by rw [← HB0.out]; exact H45.out⟩) (fun j h1 h2 => HD.out j h1 (by rw [byte_size] at h2; exact h2)))
        go_wp2
        go_ret
        exact ⟨ret_bool HF.out.symm, rfl⟩
  · have q1 : ((s[0].toNat : Int) == 45) = false := by
      rw [beq_eq_false_iff_ne]; intro e; exact h45 (UInt8.toNat_inj.1 (by have : (45 : UInt8).toNat = 45 := rfl; omega))
    have H45 := Lib.hid h45
    have q2 : ((0 : Int) == s.size) = false := by rw [beq_eq_false_iff_ne]; omega
    clear h45
    go_enter Try.func5, Try.ntmps5
    go_wp2
    go_loop [3] (fun i => ∃ k : Nat, i = .int .i64 k ∧ k ≤ s.size ∧ 0 ≤ k ∧ ∀ j, 0 ≤ j → j < k → isDg (s.data.toList.getD j 0)) (fun i => s.size - (intOf i).toNat)
    case atStart => exact ⟨0, rfl, by omega, by omega, fun j h1 h2 => by omega⟩
    case round =>
      obtain ⟨k, rfl, hk, hk0, hd⟩ := hrel
      have HD := Lib.hid hd
      clear hd
      by_cases hlt : k < s.size
      · have hbk := byte_get s k hlt
        have HBK := Lib.hid hbk
        clear hbk
        by_cases hc1 : (s[k].toNat : Int) < 48
        · have HF := Lib.hid (HNO.out 0 k (.inl ⟨rfl, by rw [← HB0.out]; exact H45.out⟩) hk0 hlt (by rw [← HBK.out]; unfold isDg; omega))
          go_wp2
          go_ret
          exact ⟨ret_bool HF.out.symm, rfl⟩
        · by_cases hc2 : 57 < (s[k].toNat : Int)
          · have HF := Lib.hid (HNO.out 0 k (.inl ⟨rfl, by rw [← HB0.out]; exact H45.out⟩) hk0 hlt (by rw [← HBK.out]; unfold isDg; omega))
            go_wp2
            go_ret
            exact ⟨ret_bool HF.out.symm, rfl⟩
          · have HN : Hid (isDg (s.data.toList.getD k 0)) := Lib.hid (by rw [← HBK.out]; unfold isDg; omega)
            go_wp2
            go_round
            case rel =>
              refine ⟨k + 1, by go_num, by omega, by omega, fun j h1 h2 => ?_⟩
              by_cases e : j = k
              · rw [e]; exact HN.out
              · exact HD.out j h1 (by omega)
            case measure => simp [intOf]; omega
      · obtain rfl : k = s.size := by omega
        have HF := Lib.hid (HALL.out 0 (by omega) (.inl ⟨rfl, by rw [← HB0.out]; exact H45.out⟩) (fun j h1 h2 => HD.out j h1 (by rw [byte_size] at h2; exact h2)))
        go_wp2
        go_ret
        exact ⟨ret_bool HF.out.symm, rfl⟩
theorem first_fail (C : Nat → Prop) : ∀ n : Nat, ¬ C n → ∃ k, k ≤ n ∧ ¬ C k ∧ ∀ j, j < k → C j := by
  intro n
  induction n using Nat.strongRecOn with
  | ind n ih =>
    intro h
    by_cases hall : ∀ j, j < n → C j
    · exact ⟨n, Nat.le_refl _, h, hall⟩
    · obtain ⟨j, hj⟩ := Classical.not_forall.1 hall
      obtain ⟨hj1, hj2⟩ := Classical.not_imp.1 hj
      obtain ⟨k, h1, h2, h3⟩ := ih j hj1 hj2
      exact ⟨k, by omega, h2, h3⟩
theorem ret_str {a b : ByteArray} (h : a = b) : Ending.returned (.string a) = .returned (.string b) := by rw [h]
/-- The canonical text, out of the digits behind sign and zeros. -/
def canR (neg : Bool) (E : ByteArray) : ByteArray := if E.toList = [48] ∨ E.toList.isEmpty = true then ⟨#[48]⟩ else if neg then ⟨#[45]⟩ ++ E else E
theorem canR_zero (neg : Bool) (E : ByteArray) (h : E.toList = [48] ∨ E.toList.isEmpty = true) : canR neg E = ⟨#[48]⟩ := by unfold canR; rw [if_pos h]
theorem canR_true (E : ByteArray) (h : ¬ E.toList = [48]) (h' : E.toList.isEmpty = false) : canR true E = ⟨#[45]⟩ ++ E := by
  unfold canR; rw [if_neg (by rintro (e | e); exact h e; rw [h'] at e; cases e), if_pos rfl]
theorem canR_false (E : ByteArray) (h : ¬ E.toList = [48]) (h' : E.toList.isEmpty = false) : canR false E = E := by
  unfold canR; rw [if_neg (by rintro (e | e); exact h e; rw [h'] at e; cases e), if_neg (by simp)]
set_option maxHeartbeats 2000000 in
set_option maxRecDepth 100000 in
theorem canon_ex (s : ByteArray) (hs : s.size ≤ 16777216) : ∃ r : ByteArray, ∀ w : World, Calls Try.prog 12 #[.string s] w fun e w' => e = .returned (.string r) ∧ w = w' := by
  by_cases hp : 0 < s.size
  · by_cases h45 : s[0] = 45
    · have q1 : ((s[0].toNat : Int) == 45) = true := by rw [h45]; rfl
      obtain ⟨D, hD⟩ : ∃ D, D = s.extract 1 s.size := ⟨_, rfl⟩
      have hDs : D.size ≤ 16777216 := by rw [hD, ByteArray.size_extract]; omega
      have HD := Lib.hid hD
      clear hD
      obtain ⟨k0, hk0, hC, hlow⟩ := first_fail (fun k => k + 1 < D.size ∧ D.data.toList.getD k 0 = 48) D.size (by omega)
      refine ⟨canR true (D.extract k0 D.size), fun w => ?_⟩
      have HC := Lib.hid hC; have HLOW := Lib.hid hlow
      clear hC hlow
      go_enter Try.func12, Try.ntmps12
      go_wp2
      rw [← HD.out]
      go_loop [5] (fun i => ∃ k : Nat, i = .int .i64 k ∧ k ≤ k0) (fun i => k0 - (intOf i).toNat)
      case atStart => exact ⟨0, rfl, by omega⟩
      case round =>
        obtain ⟨k, rfl, hk⟩ := hrel
        by_cases hlt : k < k0
        · obtain ⟨c1, c2⟩ := HLOW.out k hlt
          have hb := byte_get D k (by omega)
          have q : ((D[k].toNat : Int) == 48) = true := by rw [hb, c2]; rfl
          clear hb c2
          go_wp2
          go_round
          case rel => exact ⟨k + 1, by go_num, by omega⟩
          case measure => simp [intOf]; omega
        · obtain rfl : k = k0 := by omega
          by_cases c1 : k + 1 < D.size
          · have hb := byte_get D k (by omega)
            have q : ((D[k].toNat : Int) == 48) = false := by
              rw [beq_eq_false_iff_ne]; intro e
              exact HC.out ⟨c1, by rw [← hb]; exact UInt8.toNat_inj.1 (by have : (48 : UInt8).toNat = 48 := rfl; omega)⟩
            clear hb
            by_cases e1 : (D.extract k D.size).toList = [48]
            · have e2 : ((D.extract k D.size).toList == [48]) = true := by rw [e1]; rfl
              have HR := Lib.hid (canR_zero true _ (.inl e1))
              go_wp2
              all_goals (go_ret; exact ⟨ret_str HR.out.symm, rfl⟩)
            · have e2 : ((D.extract k D.size).toList == [48]) = false := by simpa using e1
              by_cases e3 : (D.extract k D.size).toList.isEmpty = true
              · have HR := Lib.hid (canR_zero true _ (.inr e3))
                go_wp2
                all_goals (go_ret; exact ⟨ret_str HR.out.symm, rfl⟩)
              · have e4 : (D.extract k D.size).toList.isEmpty = false := by simpa using e3
                have HR := Lib.hid (canR_true _ e1 e4)
                clear e3
                go_wp2
                all_goals (go_ret; exact ⟨ret_str HR.out.symm, rfl⟩)
          · -- the rest is one byte or none
            by_cases e1 : (D.extract k D.size).toList = [48]
            · have e2 : ((D.extract k D.size).toList == [48]) = true := by rw [e1]; rfl
              have HR := Lib.hid (canR_zero true _ (.inl e1))
              go_wp2
              all_goals (go_ret; exact ⟨ret_str HR.out.symm, rfl⟩)
            · have e2 : ((D.extract k D.size).toList == [48]) = false := by simpa using e1
              by_cases e3 : (D.extract k D.size).toList.isEmpty = true
              · have HR := Lib.hid (canR_zero true _ (.inr e3))
                go_wp2
                all_goals (go_ret; exact ⟨ret_str HR.out.symm, rfl⟩)
              · have e4 : (D.extract k D.size).toList.isEmpty = false := by simpa using e3
                have HR := Lib.hid (canR_true _ e1 e4)
                clear e3
                go_wp2
                all_goals (go_ret; exact ⟨ret_str HR.out.symm, rfl⟩)
    · have q1 : ((s[0].toNat : Int) == 45) = false := by
        rw [beq_eq_false_iff_ne]; intro e; exact h45 (UInt8.toNat_inj.1 (by have : (45 : UInt8).toNat = 45 := rfl; omega))
      clear h45
      obtain ⟨D, rfl⟩ : ∃ D, D = s := ⟨_, rfl⟩
      obtain ⟨k0, hk0, hC, hlow⟩ := first_fail (fun k => k + 1 < D.size ∧ D.data.toList.getD k 0 = 48) D.size (by omega)
      refine ⟨canR false (D.extract k0 D.size), fun w => ?_⟩
      have HC := Lib.hid hC; have HLOW := Lib.hid hlow
      clear hC hlow
      go_enter Try.func12, Try.ntmps12
      go_wp2
      go_loop [5] (fun i => ∃ k : Nat, i = .int .i64 k ∧ k ≤ k0) (fun i => k0 - (intOf i).toNat)
      case atStart => exact ⟨0, rfl, by omega⟩
      case round =>
        obtain ⟨k, rfl, hk⟩ := hrel
        by_cases hlt : k < k0
        · obtain ⟨c1, c2⟩ := HLOW.out k hlt
          have hb := byte_get D k (by omega)
          have q : ((D[k].toNat : Int) == 48) = true := by rw [hb, c2]; rfl
          clear hb c2
          go_wp2
          go_round
          case rel => exact ⟨k + 1, by go_num, by omega⟩
          case measure => simp [intOf]; omega
        · obtain rfl : k = k0 := by omega
          by_cases c1 : k + 1 < D.size
          · have hb := byte_get D k (by omega)
            have q : ((D[k].toNat : Int) == 48) = false := by
              rw [beq_eq_false_iff_ne]; intro e
              exact HC.out ⟨c1, by rw [← hb]; exact UInt8.toNat_inj.1 (by have : (48 : UInt8).toNat = 48 := rfl; omega)⟩
            clear hb
            by_cases e1 : (D.extract k D.size).toList = [48]
            · have e2 : ((D.extract k D.size).toList == [48]) = true := by rw [e1]; rfl
              have HR := Lib.hid (canR_zero false _ (.inl e1))
              go_wp2
              all_goals (go_ret; exact ⟨ret_str HR.out.symm, rfl⟩)
            · have e2 : ((D.extract k D.size).toList == [48]) = false := by simpa using e1
              by_cases e3 : (D.extract k D.size).toList.isEmpty = true
              · have HR := Lib.hid (canR_zero false _ (.inr e3))
                go_wp2
                all_goals (go_ret; exact ⟨ret_str HR.out.symm, rfl⟩)
              · have e4 : (D.extract k D.size).toList.isEmpty = false := by simpa using e3
                have HR := Lib.hid (canR_false _ e1 e4)
                clear e3
                go_wp2
                all_goals (go_ret; exact ⟨ret_str HR.out.symm, rfl⟩)
          · -- the rest is one byte or none
            by_cases e1 : (D.extract k D.size).toList = [48]
            · have e2 : ((D.extract k D.size).toList == [48]) = true := by rw [e1]; rfl
              have HR := Lib.hid (canR_zero false _ (.inl e1))
              go_wp2
              all_goals (go_ret; exact ⟨ret_str HR.out.symm, rfl⟩)
            · have e2 : ((D.extract k D.size).toList == [48]) = false := by simpa using e1
              by_cases e3 : (D.extract k D.size).toList.isEmpty = true
              · have HR := Lib.hid (canR_zero false _ (.inr e3))
                go_wp2
                all_goals (go_ret; exact ⟨ret_str HR.out.symm, rfl⟩)
              · have e4 : (D.extract k D.size).toList.isEmpty = false := by simpa using e3
                have HR := Lib.hid (canR_false _ e1 e4)
                clear e3
                go_wp2
                all_goals (go_ret; exact ⟨ret_str HR.out.symm, rfl⟩)
  · obtain ⟨D, rfl⟩ : ∃ D, D = s := ⟨_, rfl⟩
    obtain ⟨k0, hk0, hC, hlow⟩ := first_fail (fun k => k + 1 < D.size ∧ D.data.toList.getD k 0 = 48) D.size (by omega)
    refine ⟨canR false (D.extract k0 D.size), fun w => ?_⟩
    have HC := Lib.hid hC; have HLOW := Lib.hid hlow
    clear hC hlow
    go_enter Try.func12, Try.ntmps12
    go_wp2
    go_loop [5] (fun i => ∃ k : Nat, i = .int .i64 k ∧ k ≤ k0) (fun i => k0 - (intOf i).toNat)
    case atStart => exact ⟨0, rfl, by omega⟩
    case round =>
      obtain ⟨k, rfl, hk⟩ := hrel
      by_cases hlt : k < k0
      · exfalso; omega
      · obtain rfl : k = k0 := by omega
        by_cases c1 : k + 1 < D.size
        · exfalso; omega
        · -- the rest is one byte or none
          by_cases e1 : (D.extract k D.size).toList = [48]
          · have e2 : ((D.extract k D.size).toList == [48]) = true := by rw [e1]; rfl
            have HR := Lib.hid (canR_zero false _ (.inl e1))
            go_wp2
            all_goals (go_ret; exact ⟨ret_str HR.out.symm, rfl⟩)
          · have e2 : ((D.extract k D.size).toList == [48]) = false := by simpa using e1
            by_cases e3 : (D.extract k D.size).toList.isEmpty = true
            · have HR := Lib.hid (canR_zero false _ (.inr e3))
              go_wp2
              all_goals (go_ret; exact ⟨ret_str HR.out.symm, rfl⟩)
            · have e4 : (D.extract k D.size).toList.isEmpty = false := by simpa using e3
              have HR := Lib.hid (canR_false _ e1 e4)
              clear e3
              go_wp2
              all_goals (go_ret; exact ⟨ret_str HR.out.symm, rfl⟩)
end Go.Proofs.Ytgooblhfogmanaa
