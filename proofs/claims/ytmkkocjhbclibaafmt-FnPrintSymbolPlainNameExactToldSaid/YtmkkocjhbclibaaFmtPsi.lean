/- n011_125: the test of a plain name; equality of bytes; printIdent of the empty text. -/
import Derived.Test.YtmkkocjhbclibaaFmtPsh
namespace Go.Proofs.YtmkkocjhbclibaaFmt
open Go.RowKit
set_option linter.unusedVariables false
set_option linter.unusedSimpArgs false
def lL (c : Int) : Bool := decide ((97 ≤ c ∧ c ≤ 122) ∨ (65 ≤ c ∧ c ≤ 90))
def lD (c : Int) : Bool := decide (48 ≤ c ∧ c ≤ 57)
def lC (c : Int) : Bool := decide (lL c = true ∨ lD c = true ∨ c = 95 ∨ c = 45)
theorem lC_pC {c : UInt8} (h : lC (c.toNat : Int) = true) : pC c := by
  unfold lC lL lD at h
  unfold pC pS
  simp at h
  omega
theorem lL_pS {c : UInt8} (h : lL (c.toNat : Int) = true) : pS c := by
  unfold lL at h
  unfold pS
  simp at h
  omega
set_option maxRecDepth 100000 in
theorem letter_any (c : Int) (w : World) : Calls Tryf.prog 16 #[.int .u8 c] w fun e w' => e = .returned (.bool (lL c)) ∧ w = w' := by
  go_enter Tryf.func16, Tryf.ntmps16
  go_wp2
  all_goals
    go_ret
    refine ⟨ret_bool ?_, rfl⟩
    go_light
    symm
    unfold lL
    rw [Bool.eq_iff_iff]
    simp
    try omega
set_option maxRecDepth 100000 in
theorem digit_any (c : Int) (w : World) : Calls Tryf.prog 19 #[.int .u8 c] w fun e w' => e = .returned (.bool (lD c)) ∧ w = w' := by
  go_enter Tryf.func19, Tryf.ntmps19
  go_wp2
  all_goals
    go_ret
    refine ⟨ret_bool ?_, rfl⟩
    go_light
    symm
    unfold lD
    rw [Bool.eq_iff_iff]
    simp
    try omega
set_option maxHeartbeats 1000000 in
set_option maxRecDepth 100000 in
theorem nameb_any (c : Int) (w : World) : Calls Tryf.prog 17 #[.int .u8 c] w fun e w' => e = .returned (.bool (lC c)) ∧ w = w' := by
  cases hs : lL c <;> cases hd : lD c
  all_goals
    have HC : Hid (lC c = decide (lL c = true ∨ lD c = true ∨ c = 95 ∨ c = 45)) := Lib.hid rfl
    have HS := Lib.hid hs; have HD := Lib.hid hd
    clear hs hd
    go_enter Tryf.func17, Tryf.ntmps17
    go_wp2_with (first | (go_at_call 16; (with_reducible refine (letter_any c _).mono ?_); rw [HS.out]; rintro e w' ⟨rfl, rfl⟩) | (go_at_call 19; (with_reducible refine (digit_any c _).mono ?_); rw [HD.out]; rintro e w' ⟨rfl, rfl⟩))
    all_goals
      go_ret
      refine ⟨ret_bool ?_, rfl⟩
      rw [HC.out, HS.out, HD.out]
      go_light
      symm
      rw [Bool.eq_iff_iff]
      simp
      try omega
def PlPost (s : ByteArray) (w : World) (e : Ending) (w' : World) : Prop := ∃ b, e = .returned (.bool b) ∧ (b = true → s.size = 0 ∨ PlainId s) ∧ w = w'
theorem PlPost.no {s : ByteArray} {w : World} : PlPost s w (.returned (.bool false)) w := ⟨false, rfl, (fun h => by cases h), rfl⟩
set_option maxHeartbeats 2000000 in
set_option maxRecDepth 100000 in
theorem plain_any (s : ByteArray) (w : World) (hs : s.size ≤ 16777216) :
    Calls Tryf.prog 11 #[.string s] w (PlPost s w) := by
  go_enter Tryf.func11, Tryf.ntmps11
  go_wp2
  go_loop [3, 4] (fun i c => ∃ k : Nat, i = .int .i64 k ∧ k ≤ s.size ∧ (∀ i, i < k → pC (s.data.toList.getD i 0)) ∧ (0 < k → pS (s.data.toList.getD 0 0))) (fun i c => s.size - (intOf i).toNat)
  case atStart => exact ⟨0, rfl, by omega, fun i hi => by omega, fun h => by omega⟩
  case round =>
    obtain ⟨k, rfl, hk, hd, h0⟩ := hrel
    have HD := Lib.hid hd; have H0 := Lib.hid h0
    clear hd h0
    by_cases hlt : k < s.size
    · have HBK := Lib.hid (byte_get s k hlt)
      have next : pC (s.data.toList.getD k 0) → (k = 0 → pS (s.data.toList.getD 0 0)) → (∀ i, i < k + 1 → pC (s.data.toList.getD i 0)) ∧ (0 < k + 1 → pS (s.data.toList.getD 0 0)) := fun h1 h2 => ⟨fun i hi => by
        rcases Nat.lt_or_ge i k with h | h
        · exact HD.out i h
        · obtain rfl : i = k := by omega
          exact h1, fun _ => by
        by_cases e : k = 0
        · exact h2 e
        · exact H0.out (by omega)⟩
      have NEXT := Lib.hid next
      clear next
      by_cases hk0 : k = 0
      · have tk : ((k : Int) == 0) = true := by rw [hk0]; rfl
        have HK0 := Lib.hid hk0
        clear hk0
        cases hl : lL (s[k].toNat : Int)
        · have HL := Lib.hid hl
          clear hl
          by_cases h95 : (s[k].toNat : Int) = 95
          · have t95 : ((s[k].toNat : Int) == 95) = true := by rw [h95]; rfl
            have hps : pS (s.data.toList.getD k 0) := by rw [← HBK.out]; exact .inr (.inr h95)
            have HN := Lib.hid (NEXT.out (.inl hps) (fun e => by rw [e] at hps; exact hps))
            clear h95 hps
            go_wp2_with (go_at_call 16; (with_reducible refine (letter_any (s[k].toNat : Int) _).mono ?_); rw [HL.out]; rintro e w' ⟨rfl, rfl⟩)
            go_round
            case rel => exact ⟨k + 1, by go_num, by omega, HN.out.1, HN.out.2⟩
            case measure => simp [intOf]; omega
          · have t95 : ((s[k].toNat : Int) == 95) = false := by rw [beq_eq_false_iff_ne]; exact h95
            clear h95
            go_wp2_with (go_at_call 16; (with_reducible refine (letter_any (s[k].toNat : Int) _).mono ?_); rw [HL.out]; rintro e w' ⟨rfl, rfl⟩)
            go_ret
            exact PlPost.no
        · have HL := Lib.hid hl
          have hps : pS (s.data.toList.getD k 0) := by rw [← HBK.out]; exact lL_pS hl
          have HN := Lib.hid (NEXT.out (.inl hps) (fun e => by rw [e] at hps; exact hps))
          clear hl hps
          go_wp2_with (go_at_call 16; (with_reducible refine (letter_any (s[k].toNat : Int) _).mono ?_); rw [HL.out]; rintro e w' ⟨rfl, rfl⟩)
          go_round
          case rel => exact ⟨k + 1, by go_num, by omega, HN.out.1, HN.out.2⟩
          case measure => simp [intOf]; omega
      · have tk : ((k : Int) == 0) = false := by rw [beq_eq_false_iff_ne]; omega
        have HK0 := Lib.hid hk0
        clear hk0
        cases hl : lC (s[k].toNat : Int)
        · have HL := Lib.hid hl
          clear hl
          go_wp2_with (go_at_call 17; (with_reducible refine (nameb_any (s[k].toNat : Int) _).mono ?_); rw [HL.out]; rintro e w' ⟨rfl, rfl⟩)
          go_ret
          exact PlPost.no
        · have HL := Lib.hid hl
          have hps : pC (s.data.toList.getD k 0) := by rw [← HBK.out]; exact lC_pC hl
          have HN := Lib.hid (NEXT.out hps (fun e => absurd e HK0.out))
          clear hl hps
          go_wp2_with (go_at_call 17; (with_reducible refine (nameb_any (s[k].toNat : Int) _).mono ?_); rw [HL.out]; rintro e w' ⟨rfl, rfl⟩)
          go_round
          case rel => exact ⟨k + 1, by go_num, by omega, HN.out.1, HN.out.2⟩
          case measure => simp [intOf]; omega
    · obtain rfl : s.size = k := by omega
      go_wp2
      go_ret
      refine ⟨true, rfl, fun _ => ?_, rfl⟩
      rcases Nat.eq_zero_or_pos s.size with h | h
      · exact .inl h
      · exact .inr ⟨h, HD.out, .inr (H0.out h)⟩
theorem eq_of_getD (xs ys : List Int) (hl : xs.length = ys.length) (h : ∀ j, j < xs.length → xs.getD j 0 = ys.getD j 0) : xs = ys := by
  apply List.ext_getElem hl
  intro i h1 h2
  have := h i h1
  rwa [List.getD_eq_getElem?_getD, List.getD_eq_getElem?_getD, List.getElem?_eq_getElem h1, List.getElem?_eq_getElem h2] at this
set_option maxHeartbeats 1000000 in
set_option maxRecDepth 100000 in
theorem eq_same (A : Option Addr) (n c : Nat) (xs : List Int) (A' : Option Addr) (c' : Nat) (w : World) (hx : Reads w w.heap.size 1 A n (xs.map (Value.int .u8))) (hy : Reads w w.heap.size 1 A' n (xs.map (Value.int .u8))) (hn : n ≤ 16777216) :
    Calls Tryf.prog 15 #[.slice A n c, .slice A' n c'] w fun e w' => e = .returned (.bool true) ∧ Below w.heap.size w w' := by
  have lx : xs.length = n := by have := hx.1; simpa using this
  have HLX := Lib.hid lx; have HX := Lib.hid hx; have HY := Lib.hid hy
  clear lx hx hy
  go_enter Tryf.func15, Tryf.ntmps15
  go_wp2
  go_loopw [5] (fun i wr => ∃ k : Nat, i = .int .i64 k ∧ k ≤ n ∧ Below w.heap.size w wr) (fun i _ => n - (intOf i).toNat)
  case atStart => exact ⟨0, rfl, by omega, Below.refl _ _⟩
  case round =>
    obtain ⟨k, rfl, hk, hbw⟩ := hrel
    have HBW := Lib.hid hbw
    clear hbw
    by_cases hlt : k < n
    · obtain ⟨b, off, rfl, hb, hc⟩ := reads_any (HX.out.below HBW.out) (show 0 < n by omega)
      obtain ⟨b', off', rfl, hb', hc'⟩ := reads_any (HY.out.below HBW.out) (show 0 < n by omega)
      obtain ⟨x, hx⟩ : ∃ x, xs[k]? = some x := ⟨_, List.getElem?_eq_getElem (by have := HLX.out; omega)⟩
      have ck := hc k x hx
      have ck' := hc' k x hx
      clear hc hc' hx
      have i0 : (0 : Int) ≤ (k : Int) := by omega
      have i1 : (k : Int) < (n : Int) := by omega
      go_wp2
      go_quiet (fail)
      go_wp2
      go_roundw
      case rel => exact ⟨k + 1, by go_num, by omega, below_drewN HBW.out _⟩
      case measure => simp [intOf]; omega
    · obtain rfl : k = n := by omega
      have d1 : decide ((k : Int) < k) = false := by simp
      go_wp2
      go_ret
      exact ⟨rfl, HBW.out⟩
set_option maxRecDepth 100000 in
theorem dec_empty (s : ByteArray) (hs : s.size = 0) (w : World) :
    Calls Tryf.prog 36 #[.string s] w fun e w' => e = .returned (.tuple #[.int .i32 65533, .int .i64 0]) ∧ w = w' := by
  obtain rfl : s = ⟨#[]⟩ := by
    have h := byte_size s
    obtain ⟨⟨l⟩⟩ := s
    rw [hs] at h
    have : l = [] := List.eq_nil_of_length_eq_zero h
    subst this; rfl
  go_enter Tryf.func36, Tryf.ntmps36
  go_wp2
  go_ret2
  exact ⟨rfl, rfl⟩
end Go.Proofs.YtmkkocjhbclibaaFmt
