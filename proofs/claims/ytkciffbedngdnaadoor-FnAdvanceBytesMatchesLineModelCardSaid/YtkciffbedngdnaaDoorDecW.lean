/- The walk of the law's own UTF-8 reader: it answers as the model's decoder does. -/
import Derived.Test.YtkciffbedngdnaaDoorRows
import Derived.Test.YtkciffbedngdnaaDoorDec
import Derived.Test.YtkciffbedngdnaaDoorWords
import Derived.ProofKit
import Derived.Outline
import Derived.Deep.Light
namespace Go.Proofs.YtkciffbedngdnaaDoor
open Go.RowKit
set_option linter.unusedVariables false
set_option linter.unusedSimpArgs false

theorem results_five {fn : Func} {t u v x y : Tmp} (h : fn.results = #[.tmp t, .tmp u, .tmp v, .tmp x, .tmp y]) (tmps : Array Value) (P : Program) (w : World) :
    (results fn tmps).run P w = .ok (.tuple #[tmps.getD t undef, tmps.getD u undef, tmps.getD v undef, tmps.getD x undef, tmps.getD y undef]) w := by simp [results, h]

def termTok (c : Nat) : Bool := c == 10 || c == 13 || c == 8232 || c == 8233
def unitsTok (c : Nat) : Nat := if c ≤ 65535 then 1 else 2
def tokVal (d : Nat × Nat) : Value := .tuple #[.int .i64 d.2, .int .i64 (unitsTok d.1), .bool (termTok d.1), .bool (d.1 == 13), .bool (okTok d.1 d.2)]

def contB (b : Int) : Bool := decide (128 ≤ b ∧ b ≤ 191)
theorem cont_any (b : Int) (w : World) : Calls Tryd.prog 11 #[.int .u8 b] w fun e w' => e = .returned (.bool (contB b)) ∧ w = w' := by
  by_cases h1 : 128 ≤ b
  · by_cases h2 : b ≤ 191
    · have HF := Lib.hid (show contB b = true by unfold contB; simp; omega)
      go_enter Tryd.func11, Tryd.ntmps11
      go_wp2
      go_ret
      exact ⟨ret_bool HF.out.symm, rfl⟩
    · have HF := Lib.hid (show contB b = false by unfold contB; simp; omega)
      go_enter Tryd.func11, Tryd.ntmps11
      go_wp2
      go_ret
      exact ⟨ret_bool HF.out.symm, rfl⟩
  · have HF := Lib.hid (show contB b = false by unfold contB; simp; omega)
    have hd : decide (128 ≤ b) = false := by simpa using h1
    go_enter Tryd.func11, Tryd.ntmps11
    go_wp2
    go_ret
    exact ⟨ret_bool (by rw [HF.out]), rfl⟩

theorem contB_t (b : Int) : contB b = true ↔ 128 ≤ b ∧ b ≤ 191 := by unfold contB; simp
theorem contB_f (b : Int) : contB b = false ↔ ¬ (128 ≤ b ∧ b ≤ 191) := by unfold contB; simp
theorem close_err (s : ByteArray) (i : Nat) (h : dec (byteAt s i) (byteAt s (i + 1)) (byteAt s (i + 2)) (byteAt s (i + 3)) (s.size - i) = (65533, 1)) :
    Ending.returned (.tuple #[.int .i64 1, .int .i64 1, .bool false, .bool false, .bool false]) = .returned (tokVal (Utf8.decode s i)) := by
  rw [decode_dec, h]; rfl
theorem close_1 (s : ByteArray) (i : Nat) (h : byteAt s i < 128) (t r : Bool) (ht : t = termTok (byteAt s i)) (hr : r = (byteAt s i == 13)) :
    Ending.returned (.tuple #[.int .i64 1, .int .i64 1, .bool t, .bool r, .bool true]) = .returned (tokVal (Utf8.decode s i)) := by
  rw [decode_dec, dec_1 _ _ _ _ _ h, ht, hr]
  have e1 : unitsTok (byteAt s i) = 1 := by unfold unitsTok; rw [if_pos (by omega)]
  have e2 : okTok (byteAt s i) 1 = true := by unfold okTok; simp; omega
  simp only [tokVal, e1, e2]; rfl
theorem close_2 (s : ByteArray) (i : Nat) (h : ∃ c, dec (byteAt s i) (byteAt s (i + 1)) (byteAt s (i + 2)) (byteAt s (i + 3)) (s.size - i) = (c, 2) ∧ 128 ≤ c ∧ c ≤ 2047) :
    Ending.returned (.tuple #[.int .i64 2, .int .i64 1, .bool false, .bool false, .bool true]) = .returned (tokVal (Utf8.decode s i)) := by
  obtain ⟨c, h, h1, h2⟩ := h
  rw [decode_dec, h]
  have e1 : unitsTok c = 1 := by unfold unitsTok; rw [if_pos (by omega)]
  have e2 : okTok c 2 = true := by unfold okTok; simp
  have e3 : termTok c = false := by unfold termTok; simp; omega
  have e4 : (c == 13) = false := by simp; omega
  simp only [tokVal, e1, e2, e3, e4]; rfl
theorem close_3 (s : ByteArray) (i c : Nat) (h : dec (byteAt s i) (byteAt s (i + 1)) (byteAt s (i + 2)) (byteAt s (i + 3)) (s.size - i) = (c, 3)) (h1 : 2048 ≤ c) (h2 : c ≤ 65535) (t : Bool) (ht : t = true ↔ c = 8232 ∨ c = 8233) :
    Ending.returned (.tuple #[.int .i64 3, .int .i64 1, .bool t, .bool false, .bool true]) = .returned (tokVal (Utf8.decode s i)) := by
  rw [decode_dec, h]
  have e1 : unitsTok c = 1 := by unfold unitsTok; rw [if_pos (by omega)]
  have e2 : okTok c 3 = true := by unfold okTok; simp
  have e3 : termTok c = t := by rw [Bool.eq_iff_iff, ht]; unfold termTok; simp; omega
  have e4 : (c == 13) = false := by simp; omega
  simp only [tokVal, e1, e2, e3, e4]; rfl
theorem close_4 (s : ByteArray) (i : Nat) (h : ∃ c, dec (byteAt s i) (byteAt s (i + 1)) (byteAt s (i + 2)) (byteAt s (i + 3)) (s.size - i) = (c, 4) ∧ 65536 ≤ c) :
    Ending.returned (.tuple #[.int .i64 4, .int .i64 2, .bool false, .bool false, .bool true]) = .returned (tokVal (Utf8.decode s i)) := by
  obtain ⟨c, h, h1⟩ := h
  rw [decode_dec, h]
  have e1 : unitsTok c = 2 := by unfold unitsTok; rw [if_neg (by omega)]
  have e2 : okTok c 4 = true := by unfold okTok; simp
  have e3 : termTok c = false := by unfold termTok; simp; omega
  have e4 : (c == 13) = false := by simp; omega
  simp only [tokVal, e1, e2, e3, e4]; rfl
set_option maxRecDepth 100000 in
set_option maxHeartbeats 1000000 in
theorem tok_1 (s : ByteArray) (i : Nat) (hi : i < s.size) (hs : s.size ≤ maxLen) (h1 : ((s[i]).toNat : Int) < 128) (w : World) :
    Calls Tryd.prog 9 #[.string s, .int .i64 i] w fun e w' => e = .returned (tokVal (Utf8.decode s i)) ∧ w = w' := by
  unfold maxLen at hs
  go_enter Tryd.func9, Tryd.ntmps9
  go_wp2_with (go_at_call 11; refine (cont_any _ _).mono ?_; rintro e w' ⟨rfl, rfl⟩)
  all_goals
    refine bodyPost_ret (results_five rfl _ _ _) rfl ⟨?_, rfl⟩
    go_light
    have q0 := byteAt_eq s i hi
    have b1 := byteAt_lt s (i + 1)
    have b2 := byteAt_lt s (i + 2)
    have b3 := byteAt_lt s (i + 3)
    have b0 := byteAt_lt s i
    try have q1 := byteAt_eq s (i + 1) (by omega)
    try have q2 := byteAt_eq s (i + 2) (by omega)
    try have q3 := byteAt_eq s (i + 3) (by omega)
    try simp only [beq_iff_eq, beq_eq_false_iff_ne, ne_eq, contB_t, contB_f] at *
    exact close_1 s i (by omega) _ _ (by unfold termTok; first | (symm; simp; omega) | (symm; simp; done)) (by symm; simp; omega)
set_option maxRecDepth 100000 in
set_option maxHeartbeats 1000000 in
theorem tok_2 (s : ByteArray) (i : Nat) (hi : i < s.size) (hs : s.size ≤ maxLen) (h1 : 194 ≤ ((s[i]).toNat : Int)) (h2 : ((s[i]).toNat : Int) ≤ 223) (w : World) :
    Calls Tryd.prog 9 #[.string s, .int .i64 i] w fun e w' => e = .returned (tokVal (Utf8.decode s i)) ∧ w = w' := by
  unfold maxLen at hs
  go_enter Tryd.func9, Tryd.ntmps9
  go_wp2_with (go_at_call 11; refine (cont_any _ _).mono ?_; rintro e w' ⟨rfl, rfl⟩)
  all_goals
    refine bodyPost_ret (results_five rfl _ _ _) rfl ⟨?_, rfl⟩
    go_light
    have q0 := byteAt_eq s i hi
    have b1 := byteAt_lt s (i + 1)
    have b2 := byteAt_lt s (i + 2)
    have b3 := byteAt_lt s (i + 3)
    have b0 := byteAt_lt s i
    try have q1 := byteAt_eq s (i + 1) (by omega)
    try have q2 := byteAt_eq s (i + 2) (by omega)
    try have q3 := byteAt_eq s (i + 3) (by omega)
    try simp only [beq_iff_eq, beq_eq_false_iff_ne, ne_eq, contB_t, contB_f] at *
    first | exact close_err s i (dec_2e _ _ _ _ _ (by omega) (by omega) (by omega) (by omega)) | exact close_2 s i (dec_2 _ _ _ _ _ (by omega) (by omega) (by omega) (by omega) (by omega))
set_option maxRecDepth 100000 in
set_option maxHeartbeats 1000000 in
theorem tok_3a (s : ByteArray) (i : Nat) (hi : i < s.size) (hs : s.size ≤ maxLen) (h1 : ((s[i]).toNat : Int) = 224) (w : World) :
    Calls Tryd.prog 9 #[.string s, .int .i64 i] w fun e w' => e = .returned (tokVal (Utf8.decode s i)) ∧ w = w' := by
  unfold maxLen at hs
  go_enter Tryd.func9, Tryd.ntmps9
  go_wp2_with (go_at_call 11; refine (cont_any _ _).mono ?_; rintro e w' ⟨rfl, rfl⟩)
  all_goals
    refine bodyPost_ret (results_five rfl _ _ _) rfl ⟨?_, rfl⟩
    go_light
    have q0 := byteAt_eq s i hi
    have b1 := byteAt_lt s (i + 1)
    have b2 := byteAt_lt s (i + 2)
    have b3 := byteAt_lt s (i + 3)
    have b0 := byteAt_lt s i
    try have q1 := byteAt_eq s (i + 1) (by omega)
    try have q2 := byteAt_eq s (i + 2) (by omega)
    try have q3 := byteAt_eq s (i + 3) (by omega)
    try simp only [beq_iff_eq, beq_eq_false_iff_ne, ne_eq, contB_t, contB_f] at *
    first | exact close_err s i (dec_3e _ _ _ _ _ (by omega) (by omega) (by omega) (by omega) (by unfold lo3 hi3; split <;> split <;> omega)) | exact close_3 s i _ (dec_3 _ _ _ _ _ (by omega) (by omega) (by omega) (by unfold lo3; split <;> omega) (by unfold hi3; split <;> omega) (by omega) (by omega)) (by omega) (by omega) _ (by first | (simp; omega) | (simp; done))
set_option maxRecDepth 100000 in
set_option maxHeartbeats 1000000 in
theorem tok_3b (s : ByteArray) (i : Nat) (hi : i < s.size) (hs : s.size ≤ maxLen) (h1 : ((s[i]).toNat : Int) = 237) (w : World) :
    Calls Tryd.prog 9 #[.string s, .int .i64 i] w fun e w' => e = .returned (tokVal (Utf8.decode s i)) ∧ w = w' := by
  unfold maxLen at hs
  go_enter Tryd.func9, Tryd.ntmps9
  go_wp2_with (go_at_call 11; refine (cont_any _ _).mono ?_; rintro e w' ⟨rfl, rfl⟩)
  all_goals
    refine bodyPost_ret (results_five rfl _ _ _) rfl ⟨?_, rfl⟩
    go_light
    have q0 := byteAt_eq s i hi
    have b1 := byteAt_lt s (i + 1)
    have b2 := byteAt_lt s (i + 2)
    have b3 := byteAt_lt s (i + 3)
    have b0 := byteAt_lt s i
    try have q1 := byteAt_eq s (i + 1) (by omega)
    try have q2 := byteAt_eq s (i + 2) (by omega)
    try have q3 := byteAt_eq s (i + 3) (by omega)
    try simp only [beq_iff_eq, beq_eq_false_iff_ne, ne_eq, contB_t, contB_f] at *
    first | exact close_err s i (dec_3e _ _ _ _ _ (by omega) (by omega) (by omega) (by omega) (by unfold lo3 hi3; split <;> split <;> omega)) | exact close_3 s i _ (dec_3 _ _ _ _ _ (by omega) (by omega) (by omega) (by unfold lo3; split <;> omega) (by unfold hi3; split <;> omega) (by omega) (by omega)) (by omega) (by omega) _ (by first | (simp; omega) | (simp; done))
set_option maxRecDepth 100000 in
set_option maxHeartbeats 1000000 in
theorem tok_3c (s : ByteArray) (i : Nat) (hi : i < s.size) (hs : s.size ≤ maxLen) (h1 : 224 ≤ ((s[i]).toNat : Int)) (h2 : ((s[i]).toNat : Int) ≤ 239) (h3 : (((s[i]).toNat : Int) == 224) = false) (h4 : (((s[i]).toNat : Int) == 237) = false) (w : World) :
    Calls Tryd.prog 9 #[.string s, .int .i64 i] w fun e w' => e = .returned (tokVal (Utf8.decode s i)) ∧ w = w' := by
  unfold maxLen at hs
  go_enter Tryd.func9, Tryd.ntmps9
  go_wp2_with (go_at_call 11; refine (cont_any _ _).mono ?_; rintro e w' ⟨rfl, rfl⟩)
  all_goals
    refine bodyPost_ret (results_five rfl _ _ _) rfl ⟨?_, rfl⟩
    go_light
    have q0 := byteAt_eq s i hi
    have b1 := byteAt_lt s (i + 1)
    have b2 := byteAt_lt s (i + 2)
    have b3 := byteAt_lt s (i + 3)
    have b0 := byteAt_lt s i
    try have q1 := byteAt_eq s (i + 1) (by omega)
    try have q2 := byteAt_eq s (i + 2) (by omega)
    try have q3 := byteAt_eq s (i + 3) (by omega)
    try simp only [beq_iff_eq, beq_eq_false_iff_ne, ne_eq, contB_t, contB_f] at *
    first | exact close_err s i (dec_3e _ _ _ _ _ (by omega) (by omega) (by omega) (by omega) (by unfold lo3 hi3; split <;> split <;> omega)) | exact close_3 s i _ (dec_3 _ _ _ _ _ (by omega) (by omega) (by omega) (by unfold lo3; split <;> omega) (by unfold hi3; split <;> omega) (by omega) (by omega)) (by omega) (by omega) _ (by first | (simp; omega) | (simp; done))
set_option maxRecDepth 100000 in
set_option maxHeartbeats 1000000 in
theorem tok_4 (s : ByteArray) (i : Nat) (hi : i < s.size) (hs : s.size ≤ maxLen) (h1 : 240 ≤ ((s[i]).toNat : Int)) (h2 : ((s[i]).toNat : Int) ≤ 244) (w : World) :
    Calls Tryd.prog 9 #[.string s, .int .i64 i] w fun e w' => e = .returned (tokVal (Utf8.decode s i)) ∧ w = w' := by
  unfold maxLen at hs
  go_enter Tryd.func9, Tryd.ntmps9
  go_wp2_with (go_at_call 11; refine (cont_any _ _).mono ?_; rintro e w' ⟨rfl, rfl⟩)
  all_goals
    refine bodyPost_ret (results_five rfl _ _ _) rfl ⟨?_, rfl⟩
    go_light
    have q0 := byteAt_eq s i hi
    have b1 := byteAt_lt s (i + 1)
    have b2 := byteAt_lt s (i + 2)
    have b3 := byteAt_lt s (i + 3)
    have b0 := byteAt_lt s i
    try have q1 := byteAt_eq s (i + 1) (by omega)
    try have q2 := byteAt_eq s (i + 2) (by omega)
    try have q3 := byteAt_eq s (i + 3) (by omega)
    try simp only [beq_iff_eq, beq_eq_false_iff_ne, ne_eq, contB_t, contB_f] at *
    first | exact close_err s i (dec_4e _ _ _ _ _ (by omega) (by omega) (by omega) (by omega) (by omega) (by unfold lo4 hi4; split <;> split <;> omega)) | exact close_4 s i (dec_4 _ _ _ _ _ (by omega) (by omega) (by omega) (by unfold lo4; split <;> omega) (by unfold hi4; split <;> omega) (by omega) (by omega) (by omega) (by omega))
set_option maxRecDepth 100000 in
set_option maxHeartbeats 1000000 in
theorem tok_5 (s : ByteArray) (i : Nat) (hi : i < s.size) (hs : s.size ≤ maxLen) (h1 : 128 ≤ ((s[i]).toNat : Int)) (h2 : ((s[i]).toNat : Int) < 194) (w : World) :
    Calls Tryd.prog 9 #[.string s, .int .i64 i] w fun e w' => e = .returned (tokVal (Utf8.decode s i)) ∧ w = w' := by
  unfold maxLen at hs
  go_enter Tryd.func9, Tryd.ntmps9
  go_wp2_with (go_at_call 11; refine (cont_any _ _).mono ?_; rintro e w' ⟨rfl, rfl⟩)
  all_goals
    refine bodyPost_ret (results_five rfl _ _ _) rfl ⟨?_, rfl⟩
    go_light
    have q0 := byteAt_eq s i hi
    have b1 := byteAt_lt s (i + 1)
    have b2 := byteAt_lt s (i + 2)
    have b3 := byteAt_lt s (i + 3)
    have b0 := byteAt_lt s i
    try have q1 := byteAt_eq s (i + 1) (by omega)
    try have q2 := byteAt_eq s (i + 2) (by omega)
    try have q3 := byteAt_eq s (i + 3) (by omega)
    try simp only [beq_iff_eq, beq_eq_false_iff_ne, ne_eq, contB_t, contB_f] at *
    exact close_err s i (dec_5 _ _ _ _ _ (by omega) (by omega) (by omega))
set_option maxRecDepth 100000 in
set_option maxHeartbeats 1000000 in
theorem tok_6 (s : ByteArray) (i : Nat) (hi : i < s.size) (hs : s.size ≤ maxLen) (h1 : 244 < ((s[i]).toNat : Int)) (w : World) :
    Calls Tryd.prog 9 #[.string s, .int .i64 i] w fun e w' => e = .returned (tokVal (Utf8.decode s i)) ∧ w = w' := by
  unfold maxLen at hs
  go_enter Tryd.func9, Tryd.ntmps9
  go_wp2_with (go_at_call 11; refine (cont_any _ _).mono ?_; rintro e w' ⟨rfl, rfl⟩)
  all_goals
    refine bodyPost_ret (results_five rfl _ _ _) rfl ⟨?_, rfl⟩
    go_light
    have q0 := byteAt_eq s i hi
    have b1 := byteAt_lt s (i + 1)
    have b2 := byteAt_lt s (i + 2)
    have b3 := byteAt_lt s (i + 3)
    have b0 := byteAt_lt s i
    try have q1 := byteAt_eq s (i + 1) (by omega)
    try have q2 := byteAt_eq s (i + 2) (by omega)
    try have q3 := byteAt_eq s (i + 3) (by omega)
    try simp only [beq_iff_eq, beq_eq_false_iff_ne, ne_eq, contB_t, contB_f] at *
    exact close_err s i (dec_5 _ _ _ _ _ (by omega) (by omega) (by omega))
theorem tok_all (s : ByteArray) (i : Nat) (hi : i < s.size) (hs : s.size ≤ maxLen) (w : World) :
    Calls Tryd.prog 9 #[.string s, .int .i64 i] w fun e w' => e = .returned (tokVal (Utf8.decode s i)) ∧ w = w' := by
  by_cases g1 : ((s[i]).toNat : Int) < 128
  · exact tok_1 s i hi hs g1 w
  · by_cases g2 : ((s[i]).toNat : Int) < 194
    · exact tok_5 s i hi hs (by omega) g2 w
    · by_cases g3 : ((s[i]).toNat : Int) ≤ 223
      · exact tok_2 s i hi hs (by omega) g3 w
      · by_cases g4 : ((s[i]).toNat : Int) = 224
        · exact tok_3a s i hi hs g4 w
        · by_cases g5 : ((s[i]).toNat : Int) = 237
          · exact tok_3b s i hi hs g5 w
          · by_cases g6 : ((s[i]).toNat : Int) ≤ 239
            · exact tok_3c s i hi hs (by omega) g6 (by simpa using g4) (by simpa using g5) w
            · by_cases g7 : ((s[i]).toNat : Int) ≤ 244
              · exact tok_4 s i hi hs (by omega) g7 w
              · exact tok_6 s i hi hs (by omega) w
theorem tok_any (s : ByteArray) (i c wd : Nat) (hi : i < s.size) (hs : s.size ≤ maxLen) (hd : Utf8.decode s i = (c, wd)) (w : World) :
    Calls Tryd.prog 9 #[.string s, .int .i64 i] w fun e w' => e = .returned (.tuple #[.int .i64 wd, .int .i64 (unitsTok c), .bool (termTok c), .bool (c == 13), .bool (okTok c wd)]) ∧ w = w' := by
  have h := tok_all s i hi hs w
  rw [hd] at h
  exact h
end Go.Proofs.YtkciffbedngdnaaDoor
