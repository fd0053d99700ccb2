/- n011_104: zzReachesHexEscape, zzQuotedModel. -/
import Derived.Test.YtachkgmngahpoaaFmtQh1
import Derived.Test.YtachkgmngahpoaaFmtQh2
namespace Go.Proofs.YtachkgmngahpoaaFmt
open Go.RowKit
set_option linter.unusedVariables false
set_option linter.unusedSimpArgs false
def okAt (t : List UInt8) (i : Nat) : Prop := tb t i ≠ 0 ∧ tb t i ≠ 13 ∧ tb t i ≠ 10 ∧ tb t i ≠ 12 ∧ ¬ (tb t i = 239 ∧ i + 2 < t.length ∧ tb t (i + 1) = 187 ∧ tb t (i + 2) = 191)
def hexFree (t : List UInt8) : Prop := ∀ i, i < t.length → okAt t i
def RhPost (t : List UInt8) (w : World) (e : Ending) (w' : World) : Prop := ∃ b, e = .returned (.bool b) ∧ (b = false → hexFree t) ∧ w' = w
set_option maxHeartbeats 4000000 in
set_option maxRecDepth 100000 in
theorem rh_any (s : ByteArray) (hs : s.size ≤ 16777216) (w : World) : Calls Tryf.prog 6 #[.string s] w (RhPost s.data.toList w) := by
  obtain ⟨t, ht⟩ : ∃ t, t = s.data.toList := ⟨_, rfl⟩
  have HT := Lib.hid ht
  have HL : Hid (t.length = s.size) := Lib.hid (by rw [ht]; exact qsize s)
  rw [← ht]
  clear ht
  go_enter Tryf.func6, Tryf.ntmps6
  go_wp2
  go_loopw [3] (fun j wr => ∃ i : Nat, j = .int .i64 i ∧ i ≤ s.size ∧ wr = w ∧ ∀ m, m < i → okAt t m) (fun j _ => s.size - (intOf j).toNat)
  case atStart => exact ⟨0, rfl, by omega, rfl, fun m hm => by omega⟩
  case round =>
    obtain ⟨i, rfl, hi, rfl, hall⟩ := hrel
    have HALL := Lib.hid hall
    clear hall
    by_cases hlt : i < s.size
    · have hp : s[i]'hlt = t.getD i 0 := by rw [HT.out]; exact qget s _ _
      obtain ⟨c, hc⟩ : ∃ c, c = t.getD i 0 := ⟨_, rfl⟩
      have hx : c.toNat = tb t i := by rw [hc]; rfl
      rw [← hc] at hp
      have HX := Lib.hid hx
      clear hc hx
      have yes : ∀ (e : Ending), e = .returned (.bool true) → RhPost t wr e wr := fun e he => ⟨true, he, (fun h => by cases h), rfl⟩
      have YES := Lib.hid yes
      clear yes
      by_cases b0 : c.toNat = 0
      · have b0' : (c.toNat : Int) = 0 := by omega
        clear b0
        go_wp2
        go_ret
        exact YES.out _ rfl
      · by_cases b1 : c.toNat = 13
        · have b1' : (c.toNat : Int) = 13 := by omega
          clear b0 b1
          go_wp2
          go_ret
          exact YES.out _ rfl
        · by_cases b2 : c.toNat = 10
          · have b2' : (c.toNat : Int) = 10 := by omega
            clear b0 b1 b2
            go_wp2
            go_ret
            exact YES.out _ rfl
          · by_cases b3 : c.toNat = 12
            · have b3' : (c.toNat : Int) = 12 := by omega
              clear b0 b1 b2 b3
              go_wp2
              go_ret
              exact YES.out _ rfl
            · have e0 : ((c.toNat : Int) == 0) = false := beq_eq_false_iff_ne.2 (by omega)
              have e1 : ((c.toNat : Int) == 13) = false := beq_eq_false_iff_ne.2 (by omega)
              have e2 : ((c.toNat : Int) == 10) = false := beq_eq_false_iff_ne.2 (by omega)
              have e3 : ((c.toNat : Int) == 12) = false := beq_eq_false_iff_ne.2 (by omega)
              have NOT : Hid (¬ (tb t i = 239 ∧ i + 2 < t.length ∧ tb t (i + 1) = 187 ∧ tb t (i + 2) = 191) → ∀ m, m < i + 1 → okAt t m) := Lib.hid (fun hn m hm => by
                rcases Nat.lt_or_ge m i with h | h
                · exact HALL.out m h
                · obtain rfl : m = i := by omega
                  have := HX.out
                  exact ⟨by omega, by omega, by omega, by omega, hn⟩)
              clear b0 b1 b2 b3
              by_cases b4 : c.toNat = 239
              · have b4' : (c.toNat : Int) = 239 := by omega
                by_cases b5 : i + 2 < s.size
                · have l1 : i + 1 < s.size := by omega
                  have g1 : s[i + 1]'l1 = t.getD (i + 1) 0 := by rw [HT.out]; exact qget s _ _
                  have g2 : s[i + 2]'b5 = t.getD (i + 2) 0 := by rw [HT.out]; exact qget s _ _
                  obtain ⟨c1, hc1⟩ : ∃ c, c = t.getD (i + 1) 0 := ⟨_, rfl⟩
                  obtain ⟨c2, hc2⟩ : ∃ c, c = t.getD (i + 2) 0 := ⟨_, rfl⟩
                  rw [← hc1] at g1
                  rw [← hc2] at g2
                  have HX1 : Hid (c1.toNat = tb t (i + 1)) := Lib.hid (by rw [hc1]; rfl)
                  have HX2 : Hid (c2.toNat = tb t (i + 2)) := Lib.hid (by rw [hc2]; rfl)
                  clear hc1 hc2
                  have i1 : (i : Int) + 2 < (s.size : Int) := by omega
                  have i2 : (i : Int) + 1 < (s.size : Int) := by omega
                  have i3 : ((i : Int) + 1).toNat = i + 1 := by omega
                  have i4 : ((i : Int) + 2).toNat = i + 2 := by omega
                  have i5 : (0 : Int) ≤ (i : Int) + 1 := by omega
                  have i6 : (0 : Int) ≤ (i : Int) + 2 := by omega
                  by_cases b6 : c1.toNat = 187
                  · have b6' : (c1.toNat : Int) = 187 := by omega
                    by_cases b7 : c2.toNat = 191
                    · have b7' : (c2.toNat : Int) = 191 := by omega
                      clear b4 b6 b7
                      go_wp2
                      go_ret
                      exact YES.out _ rfl
                    · have b7' : ((c2.toNat : Int) == 191) = false := beq_eq_false_iff_ne.2 (by omega)
                      have N := Lib.hid (NOT.out (by have := HX2.out; omega))
                      clear b4 b6 b7
                      go_wp2
                      go_roundw
                      case rel => exact ⟨i + 1, by go_num, by omega, by trivial, N.out⟩
                      case measure => simp [intOf]; omega
                  · have b6' : ((c1.toNat : Int) == 187) = false := beq_eq_false_iff_ne.2 (by omega)
                    have N := Lib.hid (NOT.out (by have := HX1.out; omega))
                    clear b4 b6
                    go_wp2
                    go_roundw
                    case rel => exact ⟨i + 1, by go_num, by omega, by trivial, N.out⟩
                    case measure => simp [intOf]; omega
                · have i1 : ¬ (i : Int) + 2 < (s.size : Int) := by omega
                  have N := Lib.hid (NOT.out (by have := HL.out; omega))
                  clear b4 b5
                  go_wp2
                  go_roundw
                  case rel => exact ⟨i + 1, by go_num, by omega, by trivial, N.out⟩
                  case measure => simp [intOf]; omega
              · have b4' : ((c.toNat : Int) == 239) = false := beq_eq_false_iff_ne.2 (by omega)
                have N := Lib.hid (NOT.out (by have := HX.out; omega))
                clear b4
                go_wp2
                go_roundw
                case rel => exact ⟨i + 1, by go_num, by omega, by trivial, N.out⟩
                case measure => simp [intOf]; omega
    · obtain rfl : i = s.size := by omega
      have N : Hid (hexFree t) := Lib.hid (fun m hm => HALL.out m (by have := HL.out; omega))
      go_wp2
      go_ret
      exact ⟨false, rfl, fun _ => N.out, rfl⟩

def cells (l : List UInt8) : List Value := l.map (fun b => Value.int .u8 (b.toNat : Nat))
theorem cells_len (l : List UInt8) : (cells l).length = l.length := by unfold cells; rw [List.length_map]
theorem cells_app (l m : List UInt8) : cells (l ++ m) = cells l ++ cells m := by unfold cells; rw [List.map_append]
theorem outB_le (q : Nat) (t : List UInt8) (i : Nat) : (outB q t i).length ≤ 2 := by unfold outB; split <;> simp
theorem outW_le (wr : Nat → Bool) (q : Nat) (t : List UInt8) : ∀ i, (outW wr q t i).length ≤ 4 * i
  | 0 => by simp [outW]
  | i + 1 => by
    have := outW_le wr q t i
    have := outB_le q t i
    rw [outW_succ, List.length_append, List.length_append]
    split <;> simp <;> omega
def noW : Nat → Bool := fun _ => false
def qCells (q : Nat) : List Value := if q = 0 then [] else [.int .u8 (q : Nat)]
/-- What the model appends. -/
def qAll (q : Nat) (t : List UInt8) : List Value := qCells q ++ cells (outW noW q t t.length) ++ qCells q
theorem outN_succ (q : Nat) (t : List UInt8) (i : Nat) : outW noW q t (i + 1) = outW noW q t i ++ outB q t i := by rw [outW_succ]; simp [noW]
theorem cells_two (b : UInt8) : cells [92, b] = [.int .u8 92] ++ [.int .u8 (b.toNat : Nat)] := rfl
theorem cells_one (b : UInt8) : cells [b] = [.int .u8 (b.toNat : Nat)] := rfl
end Go.Proofs.YtachkgmngahpoaaFmt
