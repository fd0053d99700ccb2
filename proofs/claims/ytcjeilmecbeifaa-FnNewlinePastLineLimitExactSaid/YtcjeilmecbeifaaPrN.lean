/- The length of the last line, and the line break past the limit. -/
import Derived.Test.YtcjeilmecbeifaaPrP
import Derived.Deep.RegionWith
namespace Go.Proofs.Ytcjeilmecbeifaa
open Go.RowKit
set_option linter.unusedVariables false
set_option linter.unusedSimpArgs false

def nl (c : Int) : Bool := c == 10 || c == 13
def stepL (n : Nat) (c : Int) : Nat := if nl c = true then 0 else n + 1
/-- The length of the text behind the last line break. -/
def lst (xs : List Int) : Nat := xs.foldl stepL 0
theorem lst_snoc (xs : List Int) (k : Nat) (hk : k < xs.length) : lst (xs.take (k + 1)) = stepL (lst (xs.take k)) (xs.getD k 0) := by
  unfold lst
  rw [List.take_add_one, List.foldl_append, List.getElem?_eq_getElem hk, List.getD_eq_getElem?_getD, List.getElem?_eq_getElem hk]
  rfl
theorem lst_le (xs : List Int) (k : Nat) (hk : k ≤ xs.length) : lst (xs.take k) ≤ k := by
  induction k with
  | zero => simp [lst]
  | succ k ih =>
    rw [lst_snoc xs k (by omega)]
    have := ih (by omega)
    unfold stepL
    split <;> omega
theorem lst_at (xs : List Int) (i d : Nat) (hd : i + d ≤ xs.length) (h0 : lst (xs.take i) = 0) (h : ∀ j, i ≤ j → j < i + d → nl (xs.getD j 0) = false) : lst (xs.take (i + d)) = d := by
  induction d with
  | zero => simpa using h0
  | succ d ih =>
    rw [← Nat.add_assoc, lst_snoc xs (i + d) (by omega), ih (by omega) (fun j h1 h2 => h j h1 (by omega))]
    unfold stepL
    rw [h (i + d) (by omega) (by omega)]
    rfl
theorem lst_from (xs : List Int) (n i : Nat) (hn : xs.length = n) (hi : i ≤ n) (h : ∀ j, i ≤ j → j < n → nl (xs.getD j 0) = false) (h0 : i = 0 ∨ (0 < i ∧ nl (xs.getD (i - 1) 0) = true)) : lst xs = n - i := by
  have h00 : lst (xs.take i) = 0 := by
    rcases h0 with rfl | ⟨h1, h2⟩
    · simp [lst]
    · have := lst_snoc xs (i - 1) (by omega)
      rw [show i - 1 + 1 = i by omega] at this
      rw [this]; unfold stepL; rw [h2]; rfl
  have := lst_at xs i (n - i) (by omega) h00 (fun j h1 h2 => h j h1 (by omega))
  rw [show i + (n - i) = xs.length by omega, List.take_length] at this
  exact this

set_option maxHeartbeats 1000000 in
set_option maxRecDepth 100000 in
theorem last_any (A : Option Addr) (n c : Nat) (xs : List Int) (B : Nat) (w : World) (hx : Reads w B 1 A n (xs.map (Value.int .u8))) (hn : n ≤ 16777216) :
    Calls Try.prog 10 #[.slice A n c] w fun e w' => e = .returned (.int .i64 (lst xs)) ∧ w = w' := by
  have lx : xs.length = n := by have := hx.1; simpa using this
  have HLX := Lib.hid lx; have HX := Lib.hid hx
  clear lx hx
  go_enter Try.func10, Try.ntmps10
  go_wp2
  go_loop [3, 4] (fun l i => ∃ k m : Nat, i = .int .i64 k ∧ l = .int .i64 m ∧ k ≤ n ∧ m ≤ k ∧ m = lst (xs.take k)) (fun l i => n - (intOf i).toNat)
  case atStart => exact ⟨0, 0, rfl, rfl, by omega, by omega, by simp [lst]⟩
  case round =>
    obtain ⟨k, m, rfl, rfl, hk, hmk, hm⟩ := hrel
    have HM := Lib.hid hm
    clear hm
    by_cases hlt : k < n
    · obtain ⟨b, off, rfl, hb, hc⟩ := reads_cell HX.out (by omega)
      have ck := hc k hlt
      have HS := Lib.hid (lst_snoc xs k (by have := HLX.out; omega))
      generalize ex : xs.getD k 0 = x at ck HS
      clear hc ex
      by_cases h10 : x = 10
      · subst h10
        go_wp2
        go_round
        case rel => exact ⟨k + 1, 0, by go_num, by go_num, by omega, by omega, by rw [HS.out]; rfl⟩
        case measure => simp [intOf]; omega
      · by_cases h13 : x = 13
        · subst h13
          go_wp2
          go_round
          case rel => exact ⟨k + 1, 0, by go_num, by go_num, by omega, by omega, by rw [HS.out]; rfl⟩
          case measure => simp [intOf]; omega
        · have d1 : (x == 10) = false := beq_eq_false_iff_ne.2 h10
          have d2 : (x == 13) = false := beq_eq_false_iff_ne.2 h13
          have HN := Lib.hid (show stepL m x = m + 1 by unfold stepL nl; rw [d1, d2]; rfl)
          go_wp2
          go_round
          case rel => exact ⟨k + 1, m + 1, by go_num, by go_num, by omega, by omega, by rw [HS.out, ← HM.out, HN.out]⟩
          case measure => simp [intOf]; omega
    · obtain rfl : k = n := by omega
      have d1 : decide ((k : Int) < k) = false := by simp
      have HF := Lib.hid (show m = lst xs by rw [HM.out, ← HLX.out, List.take_length])
      go_wp2
      go_ret
      exact ⟨ret_int (by rw [HF.out]), rfl⟩

/-- The width of an indent. -/
def wid (lim n : Int) : Int := if 0 < lim ∧ lim ≤ n * 2 then 2 * (lim / 2) else if 0 < n then 2 * n else 0
set_option maxRecDepth 100000 in
theorem width_any (lim n : Int) (w : World) (hn0 : -2147483648 ≤ n) (hn1 : n ≤ 65536) (hlim : lim ≤ 9223372036854775807) (hlim0 : -9223372036854775808 ≤ lim) :
    Calls Try.prog 12 #[.int .i64 lim, .int .i32 n] w fun e w' => e = .returned (.int .i64 (2 * (cnt lim n).toNat : Nat)) ∧ w = w' := by
  go_enter Try.func12, Try.ntmps12
  go_wp2
  all_goals
    go_ret
    refine ⟨ret_int ?_, rfl⟩
    go_light
    unfold cnt
    split <;> omega
/-- The printer with one number cell turned. -/
theorem IsPr.setOs {B b : Nat} {lim : Int} {mn : Bool} {os oe : Int} {A : Option Addr} {cap : Nat} {bs : List Value} {cs : Array Value} {w : World} (h : IsPr B b lim mn os oe A cap bs cs w) (z : Int) :
    IsPr B b lim mn z oe A cap bs (cs.setIfInBounds 41 (.int .i64 z)) (w.setCell ⟨b, 41, none⟩ (.int .i64 z)) := by
  have hne := own_blk_ne h.own h.blk (by decide)
  have hsz := h.size
  refine ⟨h.base, h.blk.set_ 41 _, by rw [Array.size_setIfInBounds]; exact hsz, ?_, ?_, ?_, ?_, ?_, ?_⟩
  · rw [Array.getElem?_setIfInBounds_ne (by decide)]; exact h.lim
  · rw [Array.getElem?_setIfInBounds_ne (by decide)]; exact h.mn
  · rw [Array.getElem?_setIfInBounds_ne (by decide)]; exact h.css
  · rw [Array.getElem?_setIfInBounds_self_of_lt (by omega)]
  · rw [Array.getElem?_setIfInBounds_ne (by decide)]; exact h.oe
  · refine ⟨h.own.1, ?_⟩
    rcases h.own.2 with h2 | ⟨g, cap2, cur, a, b2, c2, d⟩
    · exact .inl h2
    · refine .inr ⟨g, cap2, cur, a, b2, ?_, d⟩
      rw [Below.heap_setCell _ _ _ _ (show g ≠ b by
        rintro rfl
        exact hne (by rw [a]; rfl))]
      exact c2
theorem IsPr.setOe {B b : Nat} {lim : Int} {mn : Bool} {os oe : Int} {A : Option Addr} {cap : Nat} {bs : List Value} {cs : Array Value} {w : World} (h : IsPr B b lim mn os oe A cap bs cs w) (z : Int) :
    IsPr B b lim mn os z A cap bs (cs.setIfInBounds 42 (.int .i64 z)) (w.setCell ⟨b, 42, none⟩ (.int .i64 z)) := by
  have hne := own_blk_ne h.own h.blk (by decide)
  have hsz := h.size
  refine ⟨h.base, h.blk.set_ 42 _, by rw [Array.size_setIfInBounds]; exact hsz, ?_, ?_, ?_, ?_, ?_, ?_⟩
  · rw [Array.getElem?_setIfInBounds_ne (by decide)]; exact h.lim
  · rw [Array.getElem?_setIfInBounds_ne (by decide)]; exact h.mn
  · rw [Array.getElem?_setIfInBounds_ne (by decide)]; exact h.css
  · rw [Array.getElem?_setIfInBounds_ne (by decide)]; exact h.os
  · rw [Array.getElem?_setIfInBounds_self_of_lt (by omega)]
  · refine ⟨h.own.1, ?_⟩
    rcases h.own.2 with h2 | ⟨g, cap2, cur, a, b2, c2, d⟩
    · exact .inl h2
    · refine .inr ⟨g, cap2, cur, a, b2, ?_, d⟩
      rw [Below.heap_setCell _ _ _ _ (show g ≠ b by
        rintro rfl
        exact hne (by rw [a]; rfl))]
      exact c2
set_option maxHeartbeats 2000000 in
set_option maxRecDepth 100000 in
theorem cur_any {B b : Nat} {lim : Int} {mn : Bool} {A : Option Addr} {cap : Nat} {xs : List Int} {cs : Array Value} (w : World) (h : IsPr B b lim mn 0 0 A cap (xs.map (Value.int .u8)) cs w) (n : Nat) (hL : xs.length = n) (hn : n ≤ 16777216) :
    Calls Try.prog 19 #[.pointer (some ⟨b, 0, none⟩)] w fun e w' => e = .returned (.int .i64 (lst xs)) ∧ (∃ os cs', IsPr B b lim mn os n A cap (xs.map (Value.int .u8)) cs' w') ∧ Below B w w' := by
  have c15 : w.cell? ⟨b, 15, none⟩ = some (.slice A n cap) := by rw [← hL, ← List.length_map (f := Value.int .u8)]; exact (h.blk.cell 15).trans h.css
  have c41 : w.cell? ⟨b, 41, none⟩ = some (.int .i64 0) := (h.blk.cell 41).trans h.os
  have c42 : w.cell? ⟨b, 42, none⟩ = some (.int .i64 0) := (h.blk.cell 42).trans h.oe
  have z41 : w.frozen? ⟨b, 41, none⟩ = false := h.blk.frozen 41
  have z42 : w.frozen? ⟨b, 42, none⟩ = false := h.blk.frozen 42
  have hown := h.own
  rw [List.length_map, hL] at hown
  have HX := Lib.hid (Reads.of_own hown)
  have HB := Lib.hid h.base
  have H := Lib.hid h; have HL := Lib.hid hL
  clear h hL hown
  go_enter Try.func19, Try.ntmps19
  go_wp2
  go_loop [6] (fun i => ∃ k : Nat, i = .int .i64 k ∧ k ≤ n ∧ ∀ j, k ≤ j → j < n → nl (xs.getD j 0) = false) (fun i => (intOf i).toNat)
  case atStart => exact ⟨n, rfl, by omega, fun j h1 h2 => by omega⟩
  case round =>
    obtain ⟨k, rfl, hk, hall⟩ := hrel
    have HALL := Lib.hid hall
    clear hall
    by_cases hlt : 0 < k
    · obtain ⟨k, rfl⟩ : ∃ k', k = k' + 1 := ⟨k - 1, by omega⟩
      have hd : decide ((0 : Int) < (k + 1 : Nat)) = true := by rw [decide_eq_true_iff]; omega
      obtain ⟨b', off, rfl, hb, hc⟩ := reads_cell HX.out (by omega)
      have ck := hc k (by omega)
      generalize ex : xs.getD k 0 = x at ck
      have EX := Lib.hid ex
      have es : ((k + 1 : Nat) : Int) - 1 = k := by omega
      clear hc ex
      by_cases h10 : nl x = true
      · have HF := Lib.hid (lst_from xs n (k + 1) HL.out hk HALL.out (.inr ⟨by omega, by rw [Nat.add_sub_cancel, EX.out]; exact h10⟩))
        by_cases h13 : x = 13
        · subst h13
          go_wp2
          go_ret
          exact ⟨ret_int (by rw [HF.out]; omega), ⟨_, _, (H.out.setOs _).setOe _⟩, ((Below.refl _ _).setCell (p := ⟨b, 41, none⟩) HB.out _).setCell (p := ⟨b, 42, none⟩) HB.out _⟩
        · obtain rfl : x = 10 := by
            unfold nl at h10
            rcases Bool.or_eq_true_iff.1 h10 with h | h
            · exact eq_of_beq h
            · exact absurd (eq_of_beq h) h13
          go_wp2
          go_ret
          exact ⟨ret_int (by rw [HF.out]; omega), ⟨_, _, (H.out.setOs _).setOe _⟩, ((Below.refl _ _).setCell (p := ⟨b, 41, none⟩) HB.out _).setCell (p := ⟨b, 42, none⟩) HB.out _⟩
      · have h10' : nl x = false := by simpa using h10
        have HN := Lib.hid h10'
        have n13 : (x == 13) = false := by unfold nl at h10'; exact (Bool.or_eq_false_iff.1 h10').2
        have n10 : (x == 10) = false := by unfold nl at h10'; exact (Bool.or_eq_false_iff.1 h10').1
        clear h10 h10'
        go_wp2
        go_round
        case rel =>
          refine ⟨k, by go_num, by omega, fun j h1 h2 => ?_⟩
          by_cases e : j = k
          · rw [e, EX.out]; exact HN.out
          · exact HALL.out j (by omega) h2
        case measure => (simp [intOf]) <;> omega
    · obtain rfl : k = 0 := by omega
      have HF := Lib.hid (lst_from xs n 0 HL.out hk HALL.out (.inl rfl))
      go_wp2
      go_ret
      exact ⟨ret_int (by first | (rw [HF.out]; omega) | rw [HF.out] | (have := HF.out; omega)), ⟨_, _, H.out.setOe _⟩, (Below.refl _ _).setCell (p := ⟨b, 42, none⟩) HB.out _⟩
set_option maxHeartbeats 1000000 in
set_option maxRecDepth 100000 in
theorem print_nl {B b : Nat} {lim : Int} {mn : Bool} {os oe : Int} {A : Option Addr} {cap : Nat} {bs : List Value} {cs : Array Value} (w : World) (h : IsPr B b lim mn os oe A cap bs cs w) (hB : B ≤ w.heap.size) (hlen : bs.length ≤ 16777216) :
    Calls Try.prog 20 #[.pointer (some ⟨b, 0, none⟩), .string ⟨#[10]⟩] w fun e w' => e = .returned (.tuple #[]) ∧ (∃ A' cap' cs', IsPr B b lim mn os oe A' cap' (bs ++ [.int .u8 10]) cs' w') ∧ Below B w w' := by
  obtain ⟨i0, hi, hz0, hz1, hz2⟩ := info_parts u8Info
  have HP := Lib.hid h
  clear h
  obtain ⟨L, hL⟩ : ∃ L, L = bs.length := ⟨_, rfl⟩
  have c15 : w.cell? ⟨b, 15, none⟩ = some (.slice A L cap) := by rw [hL]; exact (HP.out.blk.cell 15).trans HP.out.css
  have HOWN : Hid (w.ownsRow B 5 1 (.slice A L cap) L bs) := Lib.hid (by rw [hL]; exact HP.out.own)
  have hLle : L ≤ 17000000 := by omega
  have HL := Lib.hid hL
  have hsrc : Src Try.prog 1 9 (.string ⟨#[10]⟩) 1 [.int .u8 10] w := Src.ofString w Try.underlying9 ⟨#[10]⟩
  clear hL
  go_enter Try.func20, Try.ntmps20
  go_wp2_with (at_builtin; refine wpList_append_own_src _ rfl _ _ 22 9 rfl B 5 i0 (.int .u8 0) 1 1 Try.underlying22 hi hz0 hz1 hz2 rfl _ L bs rfl HOWN.out _ 1 [.int .u8 10] rfl hsrc ?c2 ?c3 ?c4 ?_)
  case c2 => unfold maxLen; omega
  case c3 => omega
  case c4 => omega
  intro v' w2 hown' hgrow _
  obtain ⟨g, cap2, rfl⟩ : ∃ g cap2, v' = .slice (some ⟨g, 0, none⟩) (L + 1) cap2 := by
    rcases hown'.2 with ⟨_, h0⟩ | ⟨g, cap2, cur, hv, _⟩
    · omega
    · exact ⟨g, cap2, hv⟩
  have hgrow' : w.grownBy w2 (Value.ownBlock (.slice A bs.length cap)) := by rw [← HL.out]; exact hgrow
  have hput := HP.out.put (news := [.int .u8 10]) (m := L + 1) hgrow' (by rw [List.length_append, ← HL.out]; rfl) hown'
  have hb2 := HP.out.blk.grown hgrow' (fun e => own_blk_ne HP.out.own HP.out.blk (by decide) e.symm)
  have d15 : w2.cell? ⟨b, 15, none⟩ = some (.slice A L cap) := by rw [hb2.cell 15, HL.out]; exact HP.out.css
  have z15 : w2.frozen? ⟨b, 15, none⟩ = false := hb2.frozen 15
  have HPUT := Lib.hid hput
  have hB2 := (((Below.refl B w).grown hgrow (by omega) (fun k hk => (HOWN.out.lt k hk).1)).setCell (p := ⟨b, 15, none⟩) HP.out.base (.slice (some ⟨g, 0, none⟩) (L + 1) cap2))
  have HB2 := Lib.hid hB2
  clear hput hb2 hB2 hown' hgrow hgrow' hsrc
  go_wp2
  go_end0
  exact ⟨rfl, ⟨_, _, _, HPUT.out⟩, HB2.out⟩
theorem IsPr.drew {B b : Nat} {lim : Int} {mn : Bool} {os oe : Int} {A : Option Addr} {cap : Nat} {bs : List Value} {cs : Array Value} {w : World} (h : IsPr B b lim mn os oe A cap bs cs w) : IsPr B b lim mn os oe A cap bs cs w.drew :=
  ⟨h.base, h.blk, h.size, h.lim, h.mn, h.css, h.os, h.oe, h.own⟩
set_option maxHeartbeats 1000000 in
set_option maxRecDepth 100000 in
theorem newline_no {B b : Nat} {lim : Int} {mn : Bool} {A : Option Addr} {cap : Nat} {xs : List Int} {cs : Array Value} (ind : Int) (w : World) (h : IsPr B b lim mn 0 0 A cap (xs.map (Value.int .u8)) cs w) (n : Nat) (hL : xs.length = n) (hn : n ≤ 16777216) (hlt : (lst xs : Int) < lim) :
    Calls Try.prog 17 #[.pointer (some ⟨b, 0, none⟩), .int .i32 ind] w fun e w' => e = .returned (.bool false) ∧ (∃ os oe cs', IsPr B b lim mn os oe A cap (xs.map (Value.int .u8)) cs' w') ∧ Below B w w' := by
  have c3 : w.cell? ⟨b, 3, none⟩ = some (.int .i64 lim) := (h.blk.cell 3).trans h.lim
  have hd : decide ((lst xs : Int) < lim) = true := by simpa using hlt
  have H := Lib.hid h
  clear h
  go_enter Try.func17, Try.ntmps17
  go_wp2
  go_region_with (go_at_call 19; refine (cur_any w.drew H.out.drew n hL hn).mono ?_; rintro e w1 ⟨rfl, ⟨os1, cs1, hp1⟩, hb1⟩; have c31 : w1.cell? ⟨b, 3, none⟩ = some (.int .i64 lim) := (hp1.blk.cell 3).trans hp1.lim; replace hp1 := Lib.hid hp1; replace hb1 := Lib.hid hb1)
  all_goals
    go_wp2
    go_ret
    exact ⟨rfl, ⟨_, _, _, hp1.out⟩, (Below.refl B w).drew.trans hb1.out⟩
set_option maxHeartbeats 2000000 in
set_option maxRecDepth 100000 in
theorem newline_yes {B b : Nat} {lim : Int} {mn : Bool} {A : Option Addr} {cap : Nat} {xs : List Int} {cs : Array Value} (ind : Int) (w : World) (h : IsPr B b lim mn 0 0 A cap (xs.map (Value.int .u8)) cs w) (hB : B ≤ w.heap.size) (n : Nat) (hL : xs.length = n) (hn : n ≤ 10000000) (hge : lim ≤ (lst xs : Int))
    (hn0 : -2147483648 ≤ ind) (hn1 : ind ≤ 65536) (hlim : lim ≤ 9223372036854775807) (hlim0 : -9223372036854775808 ≤ lim) (ys : List Int) (hy : ys = xs ++ 10 :: List.replicate (2 * (if mn then 0 else (cnt lim ind).toNat)) 32) :
    Calls Try.prog 17 #[.pointer (some ⟨b, 0, none⟩), .int .i32 ind] w fun e w' => e = .returned (.bool true) ∧
      (∃ os oe A' cap' cs', IsPr B b lim mn os oe A' cap' (ys.map (Value.int .u8)) cs' w') ∧ Below B w w' := by
  have c3 : w.cell? ⟨b, 3, none⟩ = some (.int .i64 lim) := (h.blk.cell 3).trans h.lim
  have hd : decide ((lst xs : Int) < lim) = false := by simpa using hge
  have H := Lib.hid h
  have HY := Lib.hid hy
  clear hy
  have hl1 : (xs.map (Value.int .u8)).length ≤ 16777216 := by rw [List.length_map]; omega
  have hl2 : (xs.map (Value.int .u8) ++ [Value.int .u8 10]).length ≤ 16777216 := by rw [List.length_append, List.length_map]; simp; omega
  have HL1 := Lib.hid hl1; have HL2 := Lib.hid hl2
  clear h hl1 hl2
  cases mn with
  | true =>
    go_enter Try.func17, Try.ntmps17
    go_wp2
    go_region_with (go_at_call 19; refine (cur_any w.drew H.out.drew n hL (by omega)).mono ?_; rintro e w1 ⟨rfl, ⟨os1, cs1, hp1⟩, hb1⟩; have c31 : w1.cell? ⟨b, 3, none⟩ = some (.int .i64 lim) := (hp1.blk.cell 3).trans hp1.lim; replace hp1 := Lib.hid hp1; replace hb1 := Lib.hid hb1)
    all_goals
      go_wp2_with (go_at_call 20; refine (print_nl w1 hp1.out (Nat.le_trans hB hb1.out.size) HL1.out).mono ?_)
      rintro e w2 ⟨rfl, ⟨A2, cap2, cs2, hp2⟩, hb2⟩
      have c6 : w2.cell? ⟨b, 6, none⟩ = some (.bool true) := (hp2.blk.cell 6).trans hp2.mn
      have P2 := Lib.hid hp2; have B2 := Lib.hid hb2
      clear hp2 hb2
      go_wp2
      go_ret
      exact ⟨rfl, ⟨os1, n, A2, cap2, cs2, by rw [HY.out]; simpa [blanks] using P2.out⟩, ((Below.refl B w).drew.trans hb1.out).trans B2.out⟩
  | false =>
    go_enter Try.func17, Try.ntmps17
    go_wp2
    go_region_with (go_at_call 19; refine (cur_any w.drew H.out.drew n hL (by omega)).mono ?_; rintro e w1 ⟨rfl, ⟨os1, cs1, hp1⟩, hb1⟩; have c31 : w1.cell? ⟨b, 3, none⟩ = some (.int .i64 lim) := (hp1.blk.cell 3).trans hp1.lim; replace hp1 := Lib.hid hp1; replace hb1 := Lib.hid hb1)
    all_goals
      go_wp2_with (go_at_call 20; refine (print_nl w1 hp1.out (Nat.le_trans hB hb1.out.size) HL1.out).mono ?_)
      rintro e w2 ⟨rfl, ⟨A2, cap2, cs2, hp2⟩, hb2⟩
      have c6 : w2.cell? ⟨b, 6, none⟩ = some (.bool false) := (hp2.blk.cell 6).trans hp2.mn
      have P2 := Lib.hid hp2; have B2 := Lib.hid hb2
      clear hp2 hb2
      go_wp2_with (go_at_call 18; refine (indent_any ind w2 P2.out (Nat.le_trans (Nat.le_trans hB hb1.out.size) B2.out.size) hn0 hn1 hlim hlim0 HL2.out).mono ?_)
      rintro e w3 ⟨rfl, ⟨A3, cap3, cs3, hp3⟩, hb3⟩
      have P3 := Lib.hid hp3; have B3 := Lib.hid hb3
      clear hp3 hb3
      go_wp2
      go_ret
      exact ⟨rfl, ⟨os1, n, A3, cap3, cs3, by rw [HY.out]; simpa [blanks] using P3.out⟩, (((Below.refl B w).drew.trans hb1.out).trans B2.out).trans B3.out⟩
set_option maxRecDepth 100000 in
theorem zznewline_no {B b : Nat} {lim : Int} {mn : Bool} {A : Option Addr} {cap : Nat} {xs : List Int} {cs : Array Value} (ind : Int) (w : World) (h : IsPr B b lim mn 0 0 A cap (xs.map (Value.int .u8)) cs w) (n : Nat) (hL : xs.length = n) (hn : n ≤ 16777216) (hlt : (lst xs : Int) < lim) :
    Calls Try.prog 8 #[.pointer (some ⟨b, 0, none⟩), .int .i32 ind] w fun e w' => e = .returned (.bool false) ∧ (∃ os oe cs', IsPr B b lim mn os oe A cap (xs.map (Value.int .u8)) cs' w') ∧ Below B w w' := by
  have H := Lib.hid h
  clear h
  go_enter Try.func8, Try.ntmps8
  go_wp2_with (go_at_call 17; refine (newline_no ind w H.out n hL hn hlt).mono ?_)
  rintro e w1 ⟨rfl, hp, hb1⟩
  have HP := Lib.hid hp
  clear hp
  go_wp2
  go_ret
  exact ⟨rfl, HP.out, hb1⟩
set_option maxRecDepth 100000 in
theorem zznewline_yes {B b : Nat} {lim : Int} {mn : Bool} {A : Option Addr} {cap : Nat} {xs : List Int} {cs : Array Value} (ind : Int) (w : World) (h : IsPr B b lim mn 0 0 A cap (xs.map (Value.int .u8)) cs w) (hB : B ≤ w.heap.size) (n : Nat) (hL : xs.length = n) (hn : n ≤ 10000000) (hge : lim ≤ (lst xs : Int))
    (hn0 : -2147483648 ≤ ind) (hn1 : ind ≤ 65536) (hlim : lim ≤ 9223372036854775807) (hlim0 : -9223372036854775808 ≤ lim) (ys : List Int) (hy : ys = xs ++ 10 :: List.replicate (2 * (if mn then 0 else (cnt lim ind).toNat)) 32) :
    Calls Try.prog 8 #[.pointer (some ⟨b, 0, none⟩), .int .i32 ind] w fun e w' => e = .returned (.bool true) ∧
      (∃ os oe A' cap' cs', IsPr B b lim mn os oe A' cap' (ys.map (Value.int .u8)) cs' w') ∧ Below B w w' := by
  have H := Lib.hid h
  have HY := Lib.hid hy
  clear hy
  clear h
  go_enter Try.func8, Try.ntmps8
  go_wp2_with (go_at_call 17; refine (newline_yes ind w H.out hB n hL hn hge hn0 hn1 hlim hlim0 ys HY.out).mono ?_)
  rintro e w1 ⟨rfl, hp, hb1⟩
  have HP := Lib.hid hp
  clear hp
  go_wp2
  go_ret
  exact ⟨rfl, HP.out, hb1⟩
end Go.Proofs.Ytcjeilmecbeifaa
