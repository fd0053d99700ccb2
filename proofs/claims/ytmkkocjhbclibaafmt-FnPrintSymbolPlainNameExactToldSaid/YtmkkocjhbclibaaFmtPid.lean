/- css_printer.printIdent of a plain identifier: its bytes stand behind what stood there. -/
import Derived.Test.YtmkkocjhbclibaaFmtIsP
import Derived.WalkSpells
import Derived.LoopTactic
import Derived.Laws.IdiomStrings
import Derived.WalkMore
import Derived.Deep.Light
import Derived.Outline
namespace Go.Proofs.YtmkkocjhbclibaaFmt
open Go.RowKit
set_option linter.unusedVariables false
set_option linter.unusedSimpArgs false
def Printed (B b : Nat) (K : Array Value) (A : Option Addr) (bs : List Value) (w : World) (e : Ending) (w' : World) : Prop := e = .returned (.tuple #[]) ∧ (∃ A' cap', IsP B b K A' cap' bs w' ∧ RowAt (rb A) (rb A') w.heap.size) ∧ Below B w w' ∧ Kept b (rb A) w w'
theorem byte_get (s : ByteArray) (k : Nat) (h : k < s.size) : s[k] = s.data.toList.getD k 0 := by
  rw [List.getD_eq_getElem?_getD, List.getElem?_eq_getElem (by simpa using h)]; rfl
theorem byte_size (s : ByteArray) : s.data.toList.length = s.size := by rw [Array.length_toList]; rfl
def isStart (c : Int) : Bool := decide ((97 ≤ c ∧ c ≤ 122) ∨ (65 ≤ c ∧ c ≤ 90) ∨ c = 95 ∨ 128 ≤ c ∨ c = 0)
def isCont (c : Int) : Bool := isStart c || decide ((48 ≤ c ∧ c ≤ 57) ∨ c = 45)
set_option maxRecDepth 100000 in
theorem start_any (c : Int) (w : World) : Calls Tryf.prog 37 #[.int .i32 c] w fun e w' => e = .returned (.bool (isStart c)) ∧ w = w' := by
  go_enter Tryf.func37, Tryf.ntmps37
  go_wp2
  all_goals
    go_ret
    refine ⟨ret_bool ?_, rfl⟩
    go_light
    symm
    unfold isStart
    rw [Bool.eq_iff_iff]
    simp
    try omega
set_option maxRecDepth 100000 in
theorem cont_any (c : Int) (w : World) : Calls Tryf.prog 28 #[.int .i32 c] w fun e w' => e = .returned (.bool (isCont c)) ∧ w = w' := by
  cases hs : isStart c
  · have HC : Hid (isCont c = decide ((48 ≤ c ∧ c ≤ 57) ∨ c = 45)) := Lib.hid (by unfold isCont; rw [hs]; rfl)
    have HS := Lib.hid hs
    clear hs
    go_enter Tryf.func28, Tryf.ntmps28
    go_wp2_with (go_at_call 37; (with_reducible refine (start_any c _).mono ?_); rw [HS.out]; rintro e w' ⟨rfl, rfl⟩)
    all_goals
      go_ret
      refine ⟨ret_bool ?_, rfl⟩
      rw [HC.out]
      go_light
      symm
      rw [Bool.eq_iff_iff]
      simp
      try omega
  · have HC : Hid (isCont c = true) := Lib.hid (by unfold isCont; rw [hs]; rfl)
    have HS := Lib.hid hs
    clear hs
    go_enter Tryf.func28, Tryf.ntmps28
    go_wp2_with (go_at_call 37; (with_reducible refine (start_any c _).mono ?_); rw [HS.out]; rintro e w' ⟨rfl, rfl⟩)
    all_goals
      go_ret
      refine ⟨ret_bool ?_, rfl⟩
      rw [HC.out]
/-- A letter or an underscore; a byte of a name; a plain identifier. -/
def pS (c : UInt8) : Prop := (97 ≤ (c.toNat : Int) ∧ (c.toNat : Int) ≤ 122) ∨ (65 ≤ (c.toNat : Int) ∧ (c.toNat : Int) ≤ 90) ∨ (c.toNat : Int) = 95
def pC (c : UInt8) : Prop := pS c ∨ (48 ≤ (c.toNat : Int) ∧ (c.toNat : Int) ≤ 57) ∨ (c.toNat : Int) = 45
theorem pS_start {c : UInt8} (h : pS c) : isStart (c.toNat : Int) = true := by unfold isStart; unfold pS at h; simp; omega
theorem pC_cont {c : UInt8} (h : pC c) : isCont (c.toNat : Int) = true := by
  rcases h with h | h
  · unfold isCont; rw [pS_start h]; rfl
  · unfold isCont; rw [Bool.or_eq_true]; right; simp; omega
theorem pC_lt {c : UInt8} (h : pC c) : 45 ≤ (c.toNat : Int) ∧ (c.toNat : Int) ≤ 122 := by unfold pC pS at h; omega
structure PlainId (s : ByteArray) : Prop where
  pos : 0 < s.size
  all : ∀ i, i < s.size → pC (s.data.toList.getD i 0)
  hd : (((s.data.toList.getD 0 0).toNat : Int) = 45 ∧ 2 ≤ s.size ∧ (pS (s.data.toList.getD 1 0) ∨ ((s.data.toList.getD 1 0).toNat : Int) = 45)) ∨ pS (s.data.toList.getD 0 0)
set_option maxRecDepth 100000 in
theorem dec_ascii (s : ByteArray) (h0 : 0 < s.size) (h : (s[0].toNat : Int) < 128) (w : World) :
    Calls Tryf.prog 36 #[.string s] w fun e w' => e = .returned (.tuple #[.int .i32 (s[0].toNat : Int), .int .i64 1]) ∧ w = w' := by
  have hne : s.toList.isEmpty = false := by
    have e : s.toList = s.data.toList := ByteArray.toList_eq s
    rw [e]
    have := byte_size s
    cases hl : s.data.toList with
    | nil => rw [hl] at this; simp at this; omega
    | cons a l => rfl
  go_enter Tryf.func36, Tryf.ntmps36
  go_wp2
  go_ret2
  exact ⟨rfl, rfl⟩
set_option maxHeartbeats 1000000 in
set_option maxRecDepth 100000 in
theorem would_plain (s : ByteArray) (hp : PlainId s) (hs : s.size ≤ 16777216) (w : World) :
    Calls Tryf.prog 27 #[.string s] w fun e w' => e = .returned (.bool true) ∧ w = w' := by
  have h0 := hp.pos
  have b0 := byte_get s 0 h0
  have l0 := pC_lt (hp.all 0 h0)
  rw [← b0] at l0
  have e0 : ((s[0].toNat : Int) == 65533) = false := by rw [beq_eq_false_iff_ne]; omega
  have l00 : (s[0].toNat : Int) < 128 := by omega
  have hw0 : IntKind.i32.wrap (s[0].toNat : Int) = (s[0].toNat : Int) := by rw [IntKind.wrap_i32]; omega
  rcases hp.hd with ⟨h1, h2, h3⟩ | h1
  · rw [← b0] at h1
    have hs0 : isStart (s[0].toNat : Int) = false := by rw [h1]; rfl
    have e1 : ((s[0].toNat : Int) == 45) = true := by rw [h1]; rfl
    obtain ⟨t, ht⟩ : ∃ t, t = s.extract 1 s.size := ⟨_, rfl⟩
    have tz : t.size = s.size - 1 := by rw [ht, ByteArray.size_extract]; omega
    have t0 : 0 < t.size := by omega
    have tb : t[0] = s.data.toList.getD 1 0 := by
      rw [← byte_get s 1 (by omega)]
      subst ht
      rw [ByteArray.getElem_extract]
    have l1 := pC_lt (hp.all 1 (by omega))
    rw [← tb] at l1 h3
    have e2 : ((t[0].toNat : Int) == 65533) = false := by rw [beq_eq_false_iff_ne]; omega
    have l11 : (t[0].toNat : Int) < 128 := by omega
    have HT := Lib.hid ht; have HS0 := Lib.hid hs0; have H3 := Lib.hid h3
    clear ht hs0 tb b0 h1 h3 tz
    rcases H3.out with h3 | h3
    · have HS1 := Lib.hid (pS_start h3)
      clear h3
      go_enter Tryf.func27, Tryf.ntmps27
      go_wp2_with (first | (go_at_call 36; (with_reducible refine (dec_ascii s h0 l00 _).mono ?_); rintro e w' ⟨rfl, rfl⟩) | (go_at_call 37; (with_reducible refine (start_any (s[0].toNat : Int) _).mono ?_); rw [HS0.out]; rintro e w' ⟨rfl, rfl⟩) | (go_at_call 36; rw [← HT.out]; (with_reducible refine (dec_ascii t t0 l11 _).mono ?_); rintro e w' ⟨rfl, rfl⟩) | (go_at_call 37; (with_reducible refine (start_any (t[0].toNat : Int) _).mono ?_); rw [HS1.out]; rintro e w' ⟨rfl, rfl⟩))
      go_ret
      exact ⟨rfl, rfl⟩
    · have e3 : ((t[0].toNat : Int) == 45) = true := by rw [h3]; rfl
      have HS1 : Hid (isStart (t[0].toNat : Int) = false) := Lib.hid (by rw [h3]; rfl)
      clear h3
      go_enter Tryf.func27, Tryf.ntmps27
      go_wp2_with (first | (go_at_call 36; (with_reducible refine (dec_ascii s h0 l00 _).mono ?_); rintro e w' ⟨rfl, rfl⟩) | (go_at_call 37; (with_reducible refine (start_any (s[0].toNat : Int) _).mono ?_); rw [HS0.out]; rintro e w' ⟨rfl, rfl⟩) | (go_at_call 36; rw [← HT.out]; (with_reducible refine (dec_ascii t t0 l11 _).mono ?_); rintro e w' ⟨rfl, rfl⟩) | (go_at_call 37; (with_reducible refine (start_any (t[0].toNat : Int) _).mono ?_); rw [HS1.out]; rintro e w' ⟨rfl, rfl⟩))
      go_ret
      exact ⟨rfl, rfl⟩
  · rw [← b0] at h1
    have HS0 := Lib.hid (pS_start h1)
    clear h1 b0
    go_enter Tryf.func27, Tryf.ntmps27
    go_wp2_with (first | (go_at_call 36; (with_reducible refine (dec_ascii s h0 l00 _).mono ?_); rintro e w' ⟨rfl, rfl⟩) | (go_at_call 37; (with_reducible refine (start_any (s[0].toNat : Int) _).mono ?_); rw [HS0.out]; rintro e w' ⟨rfl, rfl⟩))
    go_ret
    exact ⟨rfl, rfl⟩
end Go.Proofs.YtmkkocjhbclibaaFmt
