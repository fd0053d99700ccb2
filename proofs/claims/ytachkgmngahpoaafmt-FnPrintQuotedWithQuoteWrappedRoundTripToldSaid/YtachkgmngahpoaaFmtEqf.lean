/- strings.EqualFold of five bytes with "style" (written by mkeqf.py). -/
import Derived.Test.YtachkgmngahpoaaFmtFld
import Derived.Test.YtachkgmngahpoaaFmtQpl
import Derived.Test.YtachkgmngahpoaaFmtDec
import Derived.Test.YtachkgmngahpoaaFmtShelf
import Derived.WalkMore
import Derived.ScopeJumps
import Derived.Lib.Fold
import Derived.Lib.OthersKept
import Derived.Deep.DeepCutAuto
namespace Go.Proofs.YtachkgmngahpoaaFmt
open Go.RowKit
set_option linter.unusedVariables false
set_option linter.unusedSimpArgs false
def sty : ByteArray := ⟨#[115, 116, 121, 108, 101]⟩
/-- "style" from place j on. -/
def styT : Nat → ByteArray
  | 0 => ⟨#[115, 116, 121, 108, 101]⟩
  | 1 => ⟨#[116, 121, 108, 101]⟩
  | 2 => ⟨#[121, 108, 101]⟩
  | 3 => ⟨#[108, 101]⟩
  | 4 => ⟨#[101]⟩
  | _ => ⟨#[]⟩
def NoPost (w : World) (e : Ending) (w' : World) : Prop := e = .returned (.bool false) ∧ Below w.heap.size w w'
/-- Which frame stands at the jump. -/
def Jump (s : ByteArray) (w : World) (a : Act) (w' : World) : Prop :=
  w' = w ∧ ∃ (i : Nat) (v : Int) (f : Nat → Value), v = i ∧ a = { tmps := #[.string s, .string sty, f 2, f 3, f 4, .int .i64 v, f 6, f 7, f 8, f 9, f 10, f 11, f 12, f 13, f 14, f 15, f 16, f 17, f 18, f 19, f 20, f 21, f 22, f 23, f 24, f 25, f 26, f 27, f 28, f 29, f 30, f 31, f 32, f 33, f 34, f 35, f 36, f 37, f 38, f 39, f 40, f 41, f 42, f 43, f 44, f 45, f 46, f 47, f 48, f 49, f 50, f 51, f 52, f 53, f 54, f 55, f 56, f 57, f 58, f 59, f 60, f 61, f 62, f 63, f 64, f 65, f 66, f 67, f 68, f 69, f 70, f 71, f 72, f 73, f 74, f 75, f 76, f 77, f 78, f 79, f 80, f 81, f 82, f 83, f 84, f 85, f 86, f 87, f 88, f 89, f 90, f 91, f 92, f 93, f 94, f 95, f 96, f 97, f 98, f 99, f 100, f 101, f 102, f 103, f 104, f 105, f 106, f 107, f 108, f 109, f 110, f 111, f 112, f 113, f 114, f 115, f 116, f 117, f 118, f 119, f 120, f 121, f 122], defers := [] } ∧ i < 5 ∧ ∃ h : i < s.size, 128 ≤ (s[i]'h).toNat
theorem jump_mk (s : ByteArray) (w : World) (i : Nat) (hi : i < 5) (hx : ∃ h : i < s.size, 128 ≤ (s[i]'h).toNat) (u2 u3 u4 u6 u7 u8 u9 u10 u11 u12 u13 u14 u15 u16 u17 u18 u19 u20 u21 u22 u23 u24 u25 u26 u27 u28 u29 u30 u31 u32 u33 u34 u35 u36 u37 u38 u39 u40 u41 u42 u43 u44 u45 u46 u47 u48 u49 u50 u51 u52 u53 u54 u55 u56 u57 u58 u59 u60 u61 u62 u63 u64 u65 u66 u67 u68 u69 u70 u71 u72 u73 u74 u75 u76 u77 u78 u79 u80 u81 u82 u83 u84 u85 u86 u87 u88 u89 u90 u91 u92 u93 u94 u95 u96 u97 u98 u99 u100 u101 u102 u103 u104 u105 u106 u107 u108 u109 u110 u111 u112 u113 u114 u115 u116 u117 u118 u119 u120 u121 u122 : Value) : Jump s w { tmps := #[.string s, .string sty, u2, u3, u4, .int .i64 (i : Nat), u6, u7, u8, u9, u10, u11, u12, u13, u14, u15, u16, u17, u18, u19, u20, u21, u22, u23, u24, u25, u26, u27, u28, u29, u30, u31, u32, u33, u34, u35, u36, u37, u38, u39, u40, u41, u42, u43, u44, u45, u46, u47, u48, u49, u50, u51, u52, u53, u54, u55, u56, u57, u58, u59, u60, u61, u62, u63, u64, u65, u66, u67, u68, u69, u70, u71, u72, u73, u74, u75, u76, u77, u78, u79, u80, u81, u82, u83, u84, u85, u86, u87, u88, u89, u90, u91, u92, u93, u94, u95, u96, u97, u98, u99, u100, u101, u102, u103, u104, u105, u106, u107, u108, u109, u110, u111, u112, u113, u114, u115, u116, u117, u118, u119, u120, u121, u122], defers := [] } w :=
  ⟨rfl, i, (i : Int), fun k => match k with | 2 => u2 | 3 => u3 | 4 => u4 | 6 => u6 | 7 => u7 | 8 => u8 | 9 => u9 | 10 => u10 | 11 => u11 | 12 => u12 | 13 => u13 | 14 => u14 | 15 => u15 | 16 => u16 | 17 => u17 | 18 => u18 | 19 => u19 | 20 => u20 | 21 => u21 | 22 => u22 | 23 => u23 | 24 => u24 | 25 => u25 | 26 => u26 | 27 => u27 | 28 => u28 | 29 => u29 | 30 => u30 | 31 => u31 | 32 => u32 | 33 => u33 | 34 => u34 | 35 => u35 | 36 => u36 | 37 => u37 | 38 => u38 | 39 => u39 | 40 => u40 | 41 => u41 | 42 => u42 | 43 => u43 | 44 => u44 | 45 => u45 | 46 => u46 | 47 => u47 | 48 => u48 | 49 => u49 | 50 => u50 | 51 => u51 | 52 => u52 | 53 => u53 | 54 => u54 | 55 => u55 | 56 => u56 | 57 => u57 | 58 => u58 | 59 => u59 | 60 => u60 | 61 => u61 | 62 => u62 | 63 => u63 | 64 => u64 | 65 => u65 | 66 => u66 | 67 => u67 | 68 => u68 | 69 => u69 | 70 => u70 | 71 => u71 | 72 => u72 | 73 => u73 | 74 => u74 | 75 => u75 | 76 => u76 | 77 => u77 | 78 => u78 | 79 => u79 | 80 => u80 | 81 => u81 | 82 => u82 | 83 => u83 | 84 => u84 | 85 => u85 | 86 => u86 | 87 => u87 | 88 => u88 | 89 => u89 | 90 => u90 | 91 => u91 | 92 => u92 | 93 => u93 | 94 => u94 | 95 => u95 | 96 => u96 | 97 => u97 | 98 => u98 | 99 => u99 | 100 => u100 | 101 => u101 | 102 => u102 | 103 => u103 | 104 => u104 | 105 => u105 | 106 => u106 | 107 => u107 | 108 => u108 | 109 => u109 | 110 => u110 | 111 => u111 | 112 => u112 | 113 => u113 | 114 => u114 | 115 => u115 | 116 => u116 | 117 => u117 | 118 => u118 | 119 => u119 | 120 => u120 | 121 => u121 | 122 => u122 | _ => undef, rfl, rfl, hi, hx⟩
theorem dec_facts (s : ByteArray) (i c wd : Nat) (hi : i < s.size) (hd : Utf8.decode s i = (c, wd)) : 1 ≤ wd ∧ i + wd ≤ s.size ∧ (128 ≤ c → c ≠ 65533 → 2 ≤ wd) := by
  rw [decode_dec] at hd
  unfold dec at hd
  repeat' split at hd
  all_goals
    simp only [Prod.mk.injEq] at hd
    obtain ⟨h1, h2⟩ := hd
    omega
theorem FoldTabs.below {w w' : World} (h : FoldTabs w) (hb : Below w.heap.size w w') : FoldTabs w' := h.keep fun p hp => hb.cell hp
set_option maxHeartbeats 16000000 in
set_option maxRecDepth 100000 in
theorem ef_non (s : ByteArray) (hs : s.size = 5) (hn : ∃ k, ∃ h : k < s.size, 128 ≤ (s[k]'h).toNat) (w : World) (hF : FoldTabs w) : Calls Tryf.prog 19 #[.string s, .string sty] w (NoPost w) := by
  have HF := Lib.hid hF; have HN := Lib.hid hn
  have hsz : (s.size : Int) = 5 := by omega
  have HS := Lib.hid hs
  clear hF hn hs
  go_enter Tryf.func19, Tryf.ntmps19
  go_wp2
  refine wp_scope_jumps 0 (Jump s w) (fun _ _ => 0) rfl ?_ ?_
  · have zs : (sty.size : Int) = 5 := rfl
    go_wp2
    go_loopw [5] (fun v wr => wr = w ∧ ∃ i : Nat, i ≤ 5 ∧ v = .int .i64 i ∧ ∀ m (h : m < s.size), m < i → (s[m]'h).toNat < 128) (fun v _ => 5 - (intOf v).toNat)
    case atStart => exact ⟨rfl, 0, by omega, rfl, fun m _ hm => by omega⟩
    case round =>
      obtain ⟨rfl, i, hi, rfl, hall⟩ := hrel
      have HALL := Lib.hid hall
      clear hall
      by_cases h5 : i < 5
      · obtain ⟨x, hx⟩ : ∃ x : UInt8, s[i]'(by have := HS.out; omega) = x := ⟨_, rfl⟩
        have hxl := x.toNat_lt
        have HX : Hid (∃ h : i < s.size, (s[i]'h) = x) := Lib.hid ⟨by have := HS.out; omega, hx⟩
        by_cases h128 : 128 ≤ x.toNat
        · have e128 : (128 : Int) ≤ (x.toNat : Int) := by omega
          rcases (by omega : i = 0 ∨ i = 1 ∨ i = 2 ∨ i = 3 ∨ i = 4) with rfl | rfl | rfl | rfl | rfl
          · have hy : (sty[0]'(by decide)).toNat = 115 := rfl
            have hor : bits .or .u8 (x.toNat : Int) 115 = ((x.toNat ||| 115 : Nat) : Int) := u8_or_nat x.toNat 115 (by omega) (by omega)
            have hge : (128 : Int) ≤ ((x.toNat ||| 115 : Nat) : Int) := by have := Nat.left_le_or (n := x.toNat) (m := 115); omega
            go_wp2
            go_step3
            exact ⟨rfl, jump_mk s _ 0 (by omega) (by obtain ⟨h, e⟩ := HX.out; exact ⟨h, by rw [e]; exact h128⟩) _ _ _ _ _ _ _ _ _ _ _ _ _ _ _ _ _ _ _ _ _ _ _ _ _ _ _ _ _ _ _ _ _ _ _ _ _ _ _ _ _ _ _ _ _ _ _ _ _ _ _ _ _ _ _ _ _ _ _ _ _ _ _ _ _ _ _ _ _ _ _ _ _ _ _ _ _ _ _ _ _ _ _ _ _ _ _ _ _ _ _ _ _ _ _ _ _ _ _ _ _ _ _ _ _ _ _ _ _ _ _ _ _ _ _ _ _ _ _ _⟩
          · have hy : (sty[1]'(by decide)).toNat = 116 := rfl
            have hor : bits .or .u8 (x.toNat : Int) 116 = ((x.toNat ||| 116 : Nat) : Int) := u8_or_nat x.toNat 116 (by omega) (by omega)
            have hge : (128 : Int) ≤ ((x.toNat ||| 116 : Nat) : Int) := by have := Nat.left_le_or (n := x.toNat) (m := 116); omega
            go_wp2
            go_step3
            exact ⟨rfl, jump_mk s _ 1 (by omega) (by obtain ⟨h, e⟩ := HX.out; exact ⟨h, by rw [e]; exact h128⟩) _ _ _ _ _ _ _ _ _ _ _ _ _ _ _ _ _ _ _ _ _ _ _ _ _ _ _ _ _ _ _ _ _ _ _ _ _ _ _ _ _ _ _ _ _ _ _ _ _ _ _ _ _ _ _ _ _ _ _ _ _ _ _ _ _ _ _ _ _ _ _ _ _ _ _ _ _ _ _ _ _ _ _ _ _ _ _ _ _ _ _ _ _ _ _ _ _ _ _ _ _ _ _ _ _ _ _ _ _ _ _ _ _ _ _ _ _ _ _ _⟩
          · have hy : (sty[2]'(by decide)).toNat = 121 := rfl
            have hor : bits .or .u8 (x.toNat : Int) 121 = ((x.toNat ||| 121 : Nat) : Int) := u8_or_nat x.toNat 121 (by omega) (by omega)
            have hge : (128 : Int) ≤ ((x.toNat ||| 121 : Nat) : Int) := by have := Nat.left_le_or (n := x.toNat) (m := 121); omega
            go_wp2
            go_step3
            exact ⟨rfl, jump_mk s _ 2 (by omega) (by obtain ⟨h, e⟩ := HX.out; exact ⟨h, by rw [e]; exact h128⟩) _ _ _ _ _ _ _ _ _ _ _ _ _ _ _ _ _ _ _ _ _ _ _ _ _ _ _ _ _ _ _ _ _ _ _ _ _ _ _ _ _ _ _ _ _ _ _ _ _ _ _ _ _ _ _ _ _ _ _ _ _ _ _ _ _ _ _ _ _ _ _ _ _ _ _ _ _ _ _ _ _ _ _ _ _ _ _ _ _ _ _ _ _ _ _ _ _ _ _ _ _ _ _ _ _ _ _ _ _ _ _ _ _ _ _ _ _ _ _ _⟩
          · have hy : (sty[3]'(by decide)).toNat = 108 := rfl
            have hor : bits .or .u8 (x.toNat : Int) 108 = ((x.toNat ||| 108 : Nat) : Int) := u8_or_nat x.toNat 108 (by omega) (by omega)
            have hge : (128 : Int) ≤ ((x.toNat ||| 108 : Nat) : Int) := by have := Nat.left_le_or (n := x.toNat) (m := 108); omega
            go_wp2
            go_step3
            exact ⟨rfl, jump_mk s _ 3 (by omega) (by obtain ⟨h, e⟩ := HX.out; exact ⟨h, by rw [e]; exact h128⟩) _ _ _ _ _ _ _ _ _ _ _ _ _ _ _ _ _ _ _ _ _ _ _ _ _ _ _ _ _ _ _ _ _ _ _ _ _ _ _ _ _ _ _ _ _ _ _ _ _ _ _ _ _ _ _ _ _ _ _ _ _ _ _ _ _ _ _ _ _ _ _ _ _ _ _ _ _ _ _ _ _ _ _ _ _ _ _ _ _ _ _ _ _ _ _ _ _ _ _ _ _ _ _ _ _ _ _ _ _ _ _ _ _ _ _ _ _ _ _ _⟩
          · have hy : (sty[4]'(by decide)).toNat = 101 := rfl
            have hor : bits .or .u8 (x.toNat : Int) 101 = ((x.toNat ||| 101 : Nat) : Int) := u8_or_nat x.toNat 101 (by omega) (by omega)
            have hge : (128 : Int) ≤ ((x.toNat ||| 101 : Nat) : Int) := by have := Nat.left_le_or (n := x.toNat) (m := 101); omega
            go_wp2
            go_step3
            exact ⟨rfl, jump_mk s _ 4 (by omega) (by obtain ⟨h, e⟩ := HX.out; exact ⟨h, by rw [e]; exact h128⟩) _ _ _ _ _ _ _ _ _ _ _ _ _ _ _ _ _ _ _ _ _ _ _ _ _ _ _ _ _ _ _ _ _ _ _ _ _ _ _ _ _ _ _ _ _ _ _ _ _ _ _ _ _ _ _ _ _ _ _ _ _ _ _ _ _ _ _ _ _ _ _ _ _ _ _ _ _ _ _ _ _ _ _ _ _ _ _ _ _ _ _ _ _ _ _ _ _ _ _ _ _ _ _ _ _ _ _ _ _ _ _ _ _ _ _ _ _ _ _ _⟩
        · have HA : Hid (∀ m (h : m < s.size), m < i + 1 → (s[m]'h).toNat < 128) := Lib.hid (fun m h hm => by
            rcases Nat.lt_or_ge m i with h' | h'
            · exact HALL.out m h h'
            · obtain rfl : m = i := by omega
              obtain ⟨_, e⟩ := HX.out
              rw [e]; omega)
          rcases (by omega : i = 0 ∨ i = 1 ∨ i = 2 ∨ i = 3 ∨ i = 4) with rfl | rfl | rfl | rfl | rfl
          · have hy : (sty[0]'(by decide)).toNat = 115 := rfl
            have hor : bits .or .u8 (x.toNat : Int) 115 = ((x.toNat ||| 115 : Nat) : Int) := u8_or_nat x.toNat 115 (by omega) (by omega)
            have hge : ¬ (128 : Int) ≤ ((x.toNat ||| 115 : Nat) : Int) := by have := Nat.or_lt_two_pow (n := 7) (x := x.toNat) (y := 115) (by omega) (by omega); omega
            go_wp2
            all_goals first
              | exact ⟨⟨by trivial, 1, by omega, by first | rfl | go_num, HA.out⟩, by simp [intOf]⟩
              | (go_roundw
                 case measure => simp [intOf]
                 case rel => exact ⟨by trivial, 1, by omega, by first | rfl | go_num, HA.out⟩)
              | (simp only [Exit.jump]
                 go_ret
                 exact ⟨rfl, Below.refl _ _⟩)
          · have hy : (sty[1]'(by decide)).toNat = 116 := rfl
            have hor : bits .or .u8 (x.toNat : Int) 116 = ((x.toNat ||| 116 : Nat) : Int) := u8_or_nat x.toNat 116 (by omega) (by omega)
            have hge : ¬ (128 : Int) ≤ ((x.toNat ||| 116 : Nat) : Int) := by have := Nat.or_lt_two_pow (n := 7) (x := x.toNat) (y := 116) (by omega) (by omega); omega
            go_wp2
            all_goals first
              | exact ⟨⟨by trivial, 2, by omega, by first | rfl | go_num, HA.out⟩, by simp [intOf]⟩
              | (go_roundw
                 case measure => simp [intOf]
                 case rel => exact ⟨by trivial, 2, by omega, by first | rfl | go_num, HA.out⟩)
              | (simp only [Exit.jump]
                 go_ret
                 exact ⟨rfl, Below.refl _ _⟩)
          · have hy : (sty[2]'(by decide)).toNat = 121 := rfl
            have hor : bits .or .u8 (x.toNat : Int) 121 = ((x.toNat ||| 121 : Nat) : Int) := u8_or_nat x.toNat 121 (by omega) (by omega)
            have hge : ¬ (128 : Int) ≤ ((x.toNat ||| 121 : Nat) : Int) := by have := Nat.or_lt_two_pow (n := 7) (x := x.toNat) (y := 121) (by omega) (by omega); omega
            go_wp2
            all_goals first
              | exact ⟨⟨by trivial, 3, by omega, by first | rfl | go_num, HA.out⟩, by simp [intOf]⟩
              | (go_roundw
                 case measure => simp [intOf]
                 case rel => exact ⟨by trivial, 3, by omega, by first | rfl | go_num, HA.out⟩)
              | (simp only [Exit.jump]
                 go_ret
                 exact ⟨rfl, Below.refl _ _⟩)
          · have hy : (sty[3]'(by decide)).toNat = 108 := rfl
            have hor : bits .or .u8 (x.toNat : Int) 108 = ((x.toNat ||| 108 : Nat) : Int) := u8_or_nat x.toNat 108 (by omega) (by omega)
            have hge : ¬ (128 : Int) ≤ ((x.toNat ||| 108 : Nat) : Int) := by have := Nat.or_lt_two_pow (n := 7) (x := x.toNat) (y := 108) (by omega) (by omega); omega
            go_wp2
            all_goals first
              | exact ⟨⟨by trivial, 4, by omega, by first | rfl | go_num, HA.out⟩, by simp [intOf]⟩
              | (go_roundw
                 case measure => simp [intOf]
                 case rel => exact ⟨by trivial, 4, by omega, by first | rfl | go_num, HA.out⟩)
              | (simp only [Exit.jump]
                 go_ret
                 exact ⟨rfl, Below.refl _ _⟩)
          · have hy : (sty[4]'(by decide)).toNat = 101 := rfl
            have hor : bits .or .u8 (x.toNat : Int) 101 = ((x.toNat ||| 101 : Nat) : Int) := u8_or_nat x.toNat 101 (by omega) (by omega)
            have hge : ¬ (128 : Int) ≤ ((x.toNat ||| 101 : Nat) : Int) := by have := Nat.or_lt_two_pow (n := 7) (x := x.toNat) (y := 101) (by omega) (by omega); omega
            go_wp2
            all_goals first
              | exact ⟨⟨by trivial, 5, by omega, by first | rfl | go_num, HA.out⟩, by simp [intOf]⟩
              | (go_roundw
                 case measure => simp [intOf]
                 case rel => exact ⟨by trivial, 5, by omega, by first | rfl | go_num, HA.out⟩)
              | (simp only [Exit.jump]
                 go_ret
                 exact ⟨rfl, Below.refl _ _⟩)
      · exfalso
        obtain ⟨k, h, hk⟩ := HN.out
        have := HALL.out k h (by have := HS.out; omega)
        omega
  · rintro a' w' ⟨hww, i, v, f, hv, rfl, hi5, hlt, hx⟩
    have hw2 := hww.symm
    subst hw2
    clear hww
    have zs : (sty.size : Int) = 5 := rfl
    have HX := Lib.hid hx
    clear hx
    rcases (by omega : i = 0 ∨ i = 1 ∨ i = 2 ∨ i = 3 ∨ i = 4) with rfl | rfl | rfl | rfl | rfl
    · have hv' : v = 0 := hv
      subst hv'
      clear hv
      have hT0 : ∀ j, j < 5 → (styT j).extract 1 (styT j).size = styT (j + 1) := fun j hj => by
        rcases (by omega : j = 0 ∨ j = 1 ∨ j = 2 ∨ j = 3 ∨ j = 4) with rfl | rfl | rfl | rfl | rfl <;> rfl
      have HT0 := Lib.hid hT0
      clear hT0
      go_wp2
      go_loopw [1] (fun v wr => ∃ (pos j : Nat), v = .string (styT j) ∧ wr.heap[w.heap.size]? = some (.stringIter s pos) ∧ Below w.heap.size w wr ∧ pos ≤ 5 ∧ ((pos = 0 ∧ j = 0) ∨ (1 ≤ j ∧ j < pos))) (fun _ wr => 5 - wr.iterPos w.heap.size)
      case atStart => exact ⟨0, 0, rfl, World.iter_heap w s 0, (Below.refl _ w).alloc (Nat.le_refl _) _, by omega, .inl ⟨rfl, rfl⟩⟩
      case round =>
        obtain ⟨pos, j, rfl, hit, hbr, hp5, hst⟩ := hrel
        have hpz : w.heap.size < wr.heap.size := (Array.getElem?_eq_some_iff.1 hit).1
        have HIT := Lib.hid hit; have HBR := Lib.hid hbr
        clear hit hbr
        by_cases hpl : pos < 5
        · have hp : pos < s.size := by have := HS.out; omega
          obtain ⟨c, wd, hd⟩ : ∃ c wd, Utf8.decode s pos = (c, wd) := ⟨_, _, rfl⟩
          have hc0 : pos = 0 → 128 ≤ c := fun h0 => by
            subst h0
            have := (decode_high s 0 hp HX.out).1; rw [hd] at this; exact this
          obtain ⟨d1, d2, d3⟩ := dec_facts s pos c wd hp hd
          have hwd5 : pos + wd ≤ 5 := by have := HS.out; omega
          clear d2
          have hnx : ∀ ty, (Instr.next (.pointer (some ⟨w.heap.size, 0, none⟩)) true ty).run Tryf.prog wr = .ok (.tuple #[.bool true, .int .i64 pos, .int .i32 c]) (wr.iterAt w.heap.size s (pos + wd)) := fun ty => by
            rw [Lib.run_next_any_at wr w.heap.size s pos ty HIT.out hp, hd]
          obtain ⟨wi, hwi⟩ : ∃ wi, wi = wr.iterAt w.heap.size s (pos + wd) := ⟨_, rfl⟩
          have HIT2 : Hid (wi.heap[w.heap.size]? = some (.stringIter s (pos + wd))) := Lib.hid (by rw [hwi]; exact Lib.iterAt_heap wr w.heap.size s pos (pos + wd) HIT.out)
          have HB : Hid (Below w.heap.size w wi) := Lib.hid (by rw [hwi]; exact Lib.below_iterAt HBR.out (k := w.heap.size) (by omega) s (pos + wd))
          rw [← hwi] at hnx
          clear hwi hd
          have MEAS : Hid (5 - wi.iterPos w.heap.size < 5 - wr.iterPos w.heap.size) := Lib.hid (by
            simp only [World.iterPos, HIT2.out, HIT.out]
            omega)
          rcases hst with ⟨hp0, rfl⟩ | ⟨h1, h2⟩
          · have hc := hc0 hp0
            have D3 := Lib.hid (d3 hc)
            have zT : ((styT 0).size : Int) = 5 := rfl
            have hT := HT0.out 0 (by omega)
            clear hc0 d3
            have SF1 : Hid (Calls Tryf.prog 22 #[.int .i32 115] wi (SfPost 383 wi)) := Lib.hid (sf_ascii 115 (by omega) wi (HF.out.below HB.out))
            have SF2 : Hid (Calls Tryf.prog 22 #[.int .i32 383] wi (SfPost 83 wi)) := Lib.hid (sf_long wi (HF.out.below HB.out))
            have SF3 : Hid (Calls Tryf.prog 22 #[.int .i32 83] wi (SfPost 115 wi)) := Lib.hid (sf_ascii 83 (by omega) wi (HF.out.below HB.out))
            have DR1 : Hid (Calls Tryf.prog 17 #[.string (styT 0)] wi fun e w' => e = .returned (.tuple #[.int .i32 (((115 : UInt8).toNat : Nat) : Int), .int .i64 1]) ∧ w' = wi) := Lib.hid (Tryf.utf8_DecodeRuneInString_ascii (styT 0) 115 wi rfl (by decide))
            have q1 : ((115 : Int) == (c : Int)) = false := beq_eq_false_iff_ne.2 (by omega)
            have q2 : (115 : Int) < (c : Int) := by omega
            have q3 : ¬ (c : Int) < 128 := by omega
            rcases (by omega : c < 383 ∨ c = 383 ∨ 383 < c) with hlt | heq | hgt
            · have g0 : ¬ (383 : Int) < (c : Int) := by omega
              have g1 : ((383 : Int) == (c : Int)) = false := beq_eq_false_iff_ne.2 (by omega)
              go_wp2_with (go_at_call 17; refine DR1.out.mono ?_; rintro e w2 ⟨rfl, hq⟩; have hq2 := hq.symm; subst hq2; clear hq)
              go_wp2_with (go_at_call 22; refine SF1.out.mono ?_; rintro e w2 ⟨rfl, hq⟩; have hq2 := hq.symm; subst hq2; clear hq)
              go_loopw [13] (fun r wx => wx = wi ∧ r = .int .i32 383) (fun _ _ => 0)
              case atStart => exact ⟨rfl, rfl⟩
              case round =>
                obtain ⟨hwx, rfl⟩ := hrel
                have hwx2 := hwx.symm; subst hwx2; clear hwx
                go_wp2
                first | simp only [Exit.jump] | skip
                go_ret
                exact ⟨rfl, HB.out⟩
            · have d := D3.out (by omega)
              have g9 : (c : Int) = 383 := by omega
              clear q1 q2 q3
              go_wp2_with (go_at_call 17; refine DR1.out.mono ?_; rintro e w2 ⟨rfl, hq⟩; have hq2 := hq.symm; subst hq2; clear hq)
              go_wp2_with (go_at_call 22; refine SF1.out.mono ?_; rintro e w2 ⟨rfl, hq⟩; have hq2 := hq.symm; subst hq2; clear hq)
              go_loopw [13] (fun r wx => wx = wi ∧ r = .int .i32 383) (fun _ _ => 0)
              case atStart => exact ⟨rfl, rfl⟩
              case round =>
                obtain ⟨hwx, rfl⟩ := hrel
                have hwx2 := hwx.symm; subst hwx2; clear hwx
                go_wp2
                first
                  | exact ⟨⟨pos + wd, 1, rfl, HIT2.out, HB.out, by omega, .inr ⟨by omega, by omega⟩⟩, MEAS.out⟩
                  | (go_roundw
                     case rel => exact ⟨pos + wd, 1, rfl, HIT2.out, HB.out, by omega, .inr ⟨by omega, by omega⟩⟩
                     case measure => exact MEAS.out)
            · have g0 : (383 : Int) < (c : Int) := by omega
              have g1 : (83 : Int) < (c : Int) := by omega
              go_wp2_with (go_at_call 17; refine DR1.out.mono ?_; rintro e w2 ⟨rfl, hq⟩; have hq2 := hq.symm; subst hq2; clear hq)
              go_wp2_with (go_at_call 22; refine SF1.out.mono ?_; rintro e w2 ⟨rfl, hq⟩; have hq2 := hq.symm; subst hq2; clear hq)
              go_loopw [13] (fun r wx => wx = wi ∧ (r = .int .i32 383 ∨ r = .int .i32 83 ∨ r = .int .i32 115)) (fun r _ => if intOf r = 383 then 2 else if intOf r = 83 then 1 else 0)
              case atStart => exact ⟨rfl, .inl rfl⟩
              case round =>
                obtain ⟨hwx, rfl | rfl | rfl⟩ := hrel
                all_goals (have hwx2 := hwx.symm; subst hwx2; clear hwx)
                · go_wp2_with (go_at_call 22; refine SF2.out.mono ?_; rintro e w2 ⟨rfl, hq⟩; have hq2 := hq.symm; subst hq2; clear hq)
                  first
                    | exact ⟨⟨by trivial, .inr (.inl rfl)⟩, by decide⟩
                    | (go_roundw
                       case rel => exact ⟨by trivial, .inr (.inl rfl)⟩
                       case measure => decide)
                · go_wp2_with (go_at_call 22; refine SF3.out.mono ?_; rintro e w2 ⟨rfl, hq⟩; have hq2 := hq.symm; subst hq2; clear hq)
                  first
                    | exact ⟨⟨by trivial, .inr (.inr rfl)⟩, by decide⟩
                    | (go_roundw
                       case rel => exact ⟨by trivial, .inr (.inr rfl)⟩
                       case measure => decide)
                · go_wp2
                  first | simp only [Exit.jump] | skip
                  go_ret
                  exact ⟨rfl, HB.out⟩
          · clear hc0
            rcases (by omega : j = 1 ∨ j = 2 ∨ j = 3) with rfl | rfl | rfl
            · have zT : ((styT 1).size : Int) = 4 := rfl
              have hT := HT0.out 1 (by omega)
              have SF1 : Hid (Calls Tryf.prog 22 #[.int .i32 116] wi (SfPost 84 wi)) := Lib.hid (sf_ascii 116 (by omega) wi (HF.out.below HB.out))
              have SF2 : Hid (Calls Tryf.prog 22 #[.int .i32 84] wi (SfPost 116 wi)) := Lib.hid (sf_ascii 84 (by omega) wi (HF.out.below HB.out))
              have DR1 : Hid (Calls Tryf.prog 17 #[.string (styT 1)] wi fun e w' => e = .returned (.tuple #[.int .i32 (((116 : UInt8).toNat : Nat) : Int), .int .i64 1]) ∧ w' = wi) := Lib.hid (Tryf.utf8_DecodeRuneInString_ascii (styT 1) 116 wi rfl (by decide))
              by_cases hc : 128 ≤ c
              · have q1 : ((116 : Int) == (c : Int)) = false := beq_eq_false_iff_ne.2 (by omega)
                have q2 : (116 : Int) < (c : Int) := by omega
                have q3 : ¬ (c : Int) < 128 := by omega
                go_wp2_with (go_at_call 17; refine DR1.out.mono ?_; rintro e w2 ⟨rfl, hq⟩; have hq2 := hq.symm; subst hq2; clear hq)
                go_wp2_with (go_at_call 22; refine SF1.out.mono ?_; rintro e w2 ⟨rfl, hq⟩; have hq2 := hq.symm; subst hq2; clear hq)
                go_loopw [13] (fun r wx => wx = wi ∧ (r = .int .i32 84 ∨ r = .int .i32 116)) (fun r _ => (116 - intOf r).toNat)
                case atStart => exact ⟨rfl, .inl rfl⟩
                case round =>
                  obtain ⟨hwx, rfl | rfl⟩ := hrel
                  all_goals (have hwx2 := hwx.symm; subst hwx2; clear hwx)
                  · have g1 : (84 : Int) < (c : Int) := by omega
                    go_wp2_with (go_at_call 22; refine SF2.out.mono ?_; rintro e w2 ⟨rfl, hq⟩; have hq2 := hq.symm; subst hq2; clear hq)
                    first
                      | exact ⟨⟨by trivial, .inr rfl⟩, by decide⟩
                      | (go_roundw
                         case rel => exact ⟨by trivial, .inr rfl⟩
                         case measure => decide)
                  · go_wp2
                    first | simp only [Exit.jump] | skip
                    go_ret
                    exact ⟨rfl, HB.out⟩
              · have q3 : (c : Int) < 128 := by omega
                clear SF1 SF2
                go_wp2_with (go_at_call 17; refine DR1.out.mono ?_; rintro e w2 ⟨rfl, hq⟩; have hq2 := hq.symm; subst hq2; clear hq)
                all_goals first
                  | exact ⟨⟨pos + wd, 2, rfl, HIT2.out, HB.out, by omega, .inr ⟨by omega, by omega⟩⟩, MEAS.out⟩
                  | (go_roundw
                     case rel => exact ⟨pos + wd, 2, rfl, HIT2.out, HB.out, by omega, .inr ⟨by omega, by omega⟩⟩
                     case measure => exact MEAS.out)
                  | ((first | simp only [Exit.jump] | skip)
                     go_ret
                     exact ⟨rfl, HB.out⟩)
            · have zT : ((styT 2).size : Int) = 3 := rfl
              have hT := HT0.out 2 (by omega)
              have SF1 : Hid (Calls Tryf.prog 22 #[.int .i32 121] wi (SfPost 89 wi)) := Lib.hid (sf_ascii 121 (by omega) wi (HF.out.below HB.out))
              have SF2 : Hid (Calls Tryf.prog 22 #[.int .i32 89] wi (SfPost 121 wi)) := Lib.hid (sf_ascii 89 (by omega) wi (HF.out.below HB.out))
              have DR1 : Hid (Calls Tryf.prog 17 #[.string (styT 2)] wi fun e w' => e = .returned (.tuple #[.int .i32 (((121 : UInt8).toNat : Nat) : Int), .int .i64 1]) ∧ w' = wi) := Lib.hid (Tryf.utf8_DecodeRuneInString_ascii (styT 2) 121 wi rfl (by decide))
              by_cases hc : 128 ≤ c
              · have q1 : ((121 : Int) == (c : Int)) = false := beq_eq_false_iff_ne.2 (by omega)
                have q2 : (121 : Int) < (c : Int) := by omega
                have q3 : ¬ (c : Int) < 128 := by omega
                go_wp2_with (go_at_call 17; refine DR1.out.mono ?_; rintro e w2 ⟨rfl, hq⟩; have hq2 := hq.symm; subst hq2; clear hq)
                go_wp2_with (go_at_call 22; refine SF1.out.mono ?_; rintro e w2 ⟨rfl, hq⟩; have hq2 := hq.symm; subst hq2; clear hq)
                go_loopw [13] (fun r wx => wx = wi ∧ (r = .int .i32 89 ∨ r = .int .i32 121)) (fun r _ => (121 - intOf r).toNat)
                case atStart => exact ⟨rfl, .inl rfl⟩
                case round =>
                  obtain ⟨hwx, rfl | rfl⟩ := hrel
                  all_goals (have hwx2 := hwx.symm; subst hwx2; clear hwx)
                  · have g1 : (89 : Int) < (c : Int) := by omega
                    go_wp2_with (go_at_call 22; refine SF2.out.mono ?_; rintro e w2 ⟨rfl, hq⟩; have hq2 := hq.symm; subst hq2; clear hq)
                    first
                      | exact ⟨⟨by trivial, .inr rfl⟩, by decide⟩
                      | (go_roundw
                         case rel => exact ⟨by trivial, .inr rfl⟩
                         case measure => decide)
                  · go_wp2
                    first | simp only [Exit.jump] | skip
                    go_ret
                    exact ⟨rfl, HB.out⟩
              · have q3 : (c : Int) < 128 := by omega
                clear SF1 SF2
                go_wp2_with (go_at_call 17; refine DR1.out.mono ?_; rintro e w2 ⟨rfl, hq⟩; have hq2 := hq.symm; subst hq2; clear hq)
                all_goals first
                  | exact ⟨⟨pos + wd, 3, rfl, HIT2.out, HB.out, by omega, .inr ⟨by omega, by omega⟩⟩, MEAS.out⟩
                  | (go_roundw
                     case rel => exact ⟨pos + wd, 3, rfl, HIT2.out, HB.out, by omega, .inr ⟨by omega, by omega⟩⟩
                     case measure => exact MEAS.out)
                  | ((first | simp only [Exit.jump] | skip)
                     go_ret
                     exact ⟨rfl, HB.out⟩)
            · have zT : ((styT 3).size : Int) = 2 := rfl
              have hT := HT0.out 3 (by omega)
              have SF1 : Hid (Calls Tryf.prog 22 #[.int .i32 108] wi (SfPost 76 wi)) := Lib.hid (sf_ascii 108 (by omega) wi (HF.out.below HB.out))
              have SF2 : Hid (Calls Tryf.prog 22 #[.int .i32 76] wi (SfPost 108 wi)) := Lib.hid (sf_ascii 76 (by omega) wi (HF.out.below HB.out))
              have DR1 : Hid (Calls Tryf.prog 17 #[.string (styT 3)] wi fun e w' => e = .returned (.tuple #[.int .i32 (((108 : UInt8).toNat : Nat) : Int), .int .i64 1]) ∧ w' = wi) := Lib.hid (Tryf.utf8_DecodeRuneInString_ascii (styT 3) 108 wi rfl (by decide))
              by_cases hc : 128 ≤ c
              · have q1 : ((108 : Int) == (c : Int)) = false := beq_eq_false_iff_ne.2 (by omega)
                have q2 : (108 : Int) < (c : Int) := by omega
                have q3 : ¬ (c : Int) < 128 := by omega
                go_wp2_with (go_at_call 17; refine DR1.out.mono ?_; rintro e w2 ⟨rfl, hq⟩; have hq2 := hq.symm; subst hq2; clear hq)
                go_wp2_with (go_at_call 22; refine SF1.out.mono ?_; rintro e w2 ⟨rfl, hq⟩; have hq2 := hq.symm; subst hq2; clear hq)
                go_loopw [13] (fun r wx => wx = wi ∧ (r = .int .i32 76 ∨ r = .int .i32 108)) (fun r _ => (108 - intOf r).toNat)
                case atStart => exact ⟨rfl, .inl rfl⟩
                case round =>
                  obtain ⟨hwx, rfl | rfl⟩ := hrel
                  all_goals (have hwx2 := hwx.symm; subst hwx2; clear hwx)
                  · have g1 : (76 : Int) < (c : Int) := by omega
                    go_wp2_with (go_at_call 22; refine SF2.out.mono ?_; rintro e w2 ⟨rfl, hq⟩; have hq2 := hq.symm; subst hq2; clear hq)
                    first
                      | exact ⟨⟨by trivial, .inr rfl⟩, by decide⟩
                      | (go_roundw
                         case rel => exact ⟨by trivial, .inr rfl⟩
                         case measure => decide)
                  · go_wp2
                    first | simp only [Exit.jump] | skip
                    go_ret
                    exact ⟨rfl, HB.out⟩
              · have q3 : (c : Int) < 128 := by omega
                clear SF1 SF2
                go_wp2_with (go_at_call 17; refine DR1.out.mono ?_; rintro e w2 ⟨rfl, hq⟩; have hq2 := hq.symm; subst hq2; clear hq)
                all_goals first
                  | exact ⟨⟨pos + wd, 4, rfl, HIT2.out, HB.out, by omega, .inr ⟨by omega, by omega⟩⟩, MEAS.out⟩
                  | (go_roundw
                     case rel => exact ⟨pos + wd, 4, rfl, HIT2.out, HB.out, by omega, .inr ⟨by omega, by omega⟩⟩
                     case measure => exact MEAS.out)
                  | ((first | simp only [Exit.jump] | skip)
                     go_ret
                     exact ⟨rfl, HB.out⟩)
        · have hnx : ∀ ty, (Instr.next (.pointer (some ⟨w.heap.size, 0, none⟩)) true ty).run Tryf.prog wr = .ok (.tuple #[.bool false]) wr := fun ty =>
            Lib.run_next_end_at wr w.heap.size s pos ty HIT.out (by have := HS.out; omega)
          rcases (by omega : j = 1 ∨ j = 2 ∨ j = 3 ∨ j = 4) with rfl | rfl | rfl | rfl
          · have zT : ((styT 1).size : Int) = 4 := rfl
            go_wp2
            first | simp only [Exit.jump] | skip
            go_ret
            exact ⟨rfl, HBR.out⟩
          · have zT : ((styT 2).size : Int) = 3 := rfl
            go_wp2
            first | simp only [Exit.jump] | skip
            go_ret
            exact ⟨rfl, HBR.out⟩
          · have zT : ((styT 3).size : Int) = 2 := rfl
            go_wp2
            first | simp only [Exit.jump] | skip
            go_ret
            exact ⟨rfl, HBR.out⟩
          · have zT : ((styT 4).size : Int) = 1 := rfl
            go_wp2
            first | simp only [Exit.jump] | skip
            go_ret
            exact ⟨rfl, HBR.out⟩
    · have hv' : v = 1 := hv
      subst hv'
      clear hv
      have hT : sty.extract 1 sty.size = styT 1 := rfl
      obtain ⟨S, hS⟩ : ∃ S, S = s.extract 1 s.size := ⟨_, rfl⟩
      have hSs : S.size = 4 := by rw [hS, ByteArray.size_extract]; have := HS.out; omega
      have hS0 : ∃ h : 0 < S.size, 128 ≤ (S[0]'h).toNat := ⟨by omega, by subst hS; rw [ByteArray.getElem_extract]; exact HX.out⟩
      have zT : ((styT 1).size : Int) = 4 := rfl
      have hS' : s.extract 1 s.size = S := hS.symm
      clear hS
      go_wp2
      go_loopw [1] (fun v wr => v = .string (styT 1) ∧ wr = w.iter S 0) (fun _ _ => 0)
      case atStart => exact ⟨rfl, rfl⟩
      case round =>
        obtain ⟨rfl, hwr⟩ := hrel
        obtain ⟨hp, hx⟩ := hS0
        have HIT : Hid (wr.heap[w.heap.size]? = some (.stringIter S 0)) := Lib.hid (by rw [hwr]; exact World.iter_heap w S 0)
        have HBR : Hid (Below w.heap.size w wr) := Lib.hid (by rw [hwr]; exact (Below.refl _ w).alloc (Nat.le_refl _) _)
        have hpz : w.heap.size < wr.heap.size := (Array.getElem?_eq_some_iff.1 HIT.out).1
        obtain ⟨pos, hpos⟩ : ∃ p, p = 0 := ⟨_, rfl⟩
        rw [← hpos] at HIT
        obtain ⟨c, wd, hd⟩ : ∃ c wd, Utf8.decode S pos = (c, wd) := ⟨_, _, rfl⟩
        have hc : 128 ≤ c := by have := (decode_high S 0 hp hx).1; rw [← hpos, hd] at this; exact this
        rw [← hpos] at hp
        clear hx hwr
        have hnx : ∀ ty, (Instr.next (.pointer (some ⟨w.heap.size, 0, none⟩)) true ty).run Tryf.prog wr = .ok (.tuple #[.bool true, .int .i64 pos, .int .i32 c]) (wr.iterAt w.heap.size S (pos + wd)) := fun ty => by
          rw [Lib.run_next_any_at wr w.heap.size S pos ty HIT.out hp, hd]
        obtain ⟨wi, hwi⟩ : ∃ wi, wi = wr.iterAt w.heap.size S (pos + wd) := ⟨_, rfl⟩
        have HIT2 : Hid (wi.heap[w.heap.size]? = some (.stringIter S (pos + wd))) := Lib.hid (by rw [hwi]; exact Lib.iterAt_heap wr w.heap.size S pos (pos + wd) HIT.out)
        have HB : Hid (Below w.heap.size w wi) := Lib.hid (by rw [hwi]; exact Lib.below_iterAt HBR.out (k := w.heap.size) (by omega) S (pos + wd))
        rw [← hwi] at hnx
        clear hwi hd
        have SF1 : Hid (Calls Tryf.prog 22 #[.int .i32 116] wi (SfPost 84 wi)) := Lib.hid (sf_ascii 116 (by omega) wi (HF.out.below HB.out))
        have SF2 : Hid (Calls Tryf.prog 22 #[.int .i32 84] wi (SfPost 116 wi)) := Lib.hid (sf_ascii 84 (by omega) wi (HF.out.below HB.out))
        have DR1 : Hid (Calls Tryf.prog 17 #[.string (styT 1)] wi fun e w' => e = .returned (.tuple #[.int .i32 (((116 : UInt8).toNat : Nat) : Int), .int .i64 1]) ∧ w' = wi) := Lib.hid (Tryf.utf8_DecodeRuneInString_ascii (styT 1) 116 wi rfl (by decide))
        have q1 : ((116 : Int) == (c : Int)) = false := beq_eq_false_iff_ne.2 (by omega)
        have q2 : (116 : Int) < (c : Int) := by omega
        have q3 : ¬ (c : Int) < 128 := by omega
        go_wp2_with (go_at_call 17; refine DR1.out.mono ?_; rintro e w2 ⟨rfl, hq⟩; have hq2 := hq.symm; subst hq2; clear hq)
        go_wp2_with (go_at_call 22; refine SF1.out.mono ?_; rintro e w2 ⟨rfl, hq⟩; have hq2 := hq.symm; subst hq2; clear hq)
        go_loopw [13] (fun r wx => wx = wi ∧ (r = .int .i32 84 ∨ r = .int .i32 116)) (fun r _ => (116 - intOf r).toNat)
        case atStart => exact ⟨rfl, .inl rfl⟩
        case round =>
          obtain ⟨hwx, rfl | rfl⟩ := hrel
          all_goals (have hwx2 := hwx.symm; subst hwx2; clear hwx)
          · have g1 : (84 : Int) < (c : Int) := by omega
            go_wp2_with (go_at_call 22; refine SF2.out.mono ?_; rintro e w2 ⟨rfl, hq⟩; have hq2 := hq.symm; subst hq2; clear hq)
            first
              | exact ⟨⟨by trivial, .inr rfl⟩, by decide⟩
              | (go_roundw
                 case rel => exact ⟨by trivial, .inr rfl⟩
                 case measure => decide)
          · go_wp2
            first | simp only [Exit.jump] | skip
            go_ret
            exact ⟨rfl, HB.out⟩
    · have hv' : v = 2 := hv
      subst hv'
      clear hv
      have hT : sty.extract 2 sty.size = styT 2 := rfl
      obtain ⟨S, hS⟩ : ∃ S, S = s.extract 2 s.size := ⟨_, rfl⟩
      have hSs : S.size = 3 := by rw [hS, ByteArray.size_extract]; have := HS.out; omega
      have hS0 : ∃ h : 0 < S.size, 128 ≤ (S[0]'h).toNat := ⟨by omega, by subst hS; rw [ByteArray.getElem_extract]; exact HX.out⟩
      have zT : ((styT 2).size : Int) = 3 := rfl
      have hS' : s.extract 2 s.size = S := hS.symm
      clear hS
      go_wp2
      go_loopw [1] (fun v wr => v = .string (styT 2) ∧ wr = w.iter S 0) (fun _ _ => 0)
      case atStart => exact ⟨rfl, rfl⟩
      case round =>
        obtain ⟨rfl, hwr⟩ := hrel
        obtain ⟨hp, hx⟩ := hS0
        have HIT : Hid (wr.heap[w.heap.size]? = some (.stringIter S 0)) := Lib.hid (by rw [hwr]; exact World.iter_heap w S 0)
        have HBR : Hid (Below w.heap.size w wr) := Lib.hid (by rw [hwr]; exact (Below.refl _ w).alloc (Nat.le_refl _) _)
        have hpz : w.heap.size < wr.heap.size := (Array.getElem?_eq_some_iff.1 HIT.out).1
        obtain ⟨pos, hpos⟩ : ∃ p, p = 0 := ⟨_, rfl⟩
        rw [← hpos] at HIT
        obtain ⟨c, wd, hd⟩ : ∃ c wd, Utf8.decode S pos = (c, wd) := ⟨_, _, rfl⟩
        have hc : 128 ≤ c := by have := (decode_high S 0 hp hx).1; rw [← hpos, hd] at this; exact this
        rw [← hpos] at hp
        clear hx hwr
        have hnx : ∀ ty, (Instr.next (.pointer (some ⟨w.heap.size, 0, none⟩)) true ty).run Tryf.prog wr = .ok (.tuple #[.bool true, .int .i64 pos, .int .i32 c]) (wr.iterAt w.heap.size S (pos + wd)) := fun ty => by
          rw [Lib.run_next_any_at wr w.heap.size S pos ty HIT.out hp, hd]
        obtain ⟨wi, hwi⟩ : ∃ wi, wi = wr.iterAt w.heap.size S (pos + wd) := ⟨_, rfl⟩
        have HIT2 : Hid (wi.heap[w.heap.size]? = some (.stringIter S (pos + wd))) := Lib.hid (by rw [hwi]; exact Lib.iterAt_heap wr w.heap.size S pos (pos + wd) HIT.out)
        have HB : Hid (Below w.heap.size w wi) := Lib.hid (by rw [hwi]; exact Lib.below_iterAt HBR.out (k := w.heap.size) (by omega) S (pos + wd))
        rw [← hwi] at hnx
        clear hwi hd
        have SF1 : Hid (Calls Tryf.prog 22 #[.int .i32 121] wi (SfPost 89 wi)) := Lib.hid (sf_ascii 121 (by omega) wi (HF.out.below HB.out))
        have SF2 : Hid (Calls Tryf.prog 22 #[.int .i32 89] wi (SfPost 121 wi)) := Lib.hid (sf_ascii 89 (by omega) wi (HF.out.below HB.out))
        have DR1 : Hid (Calls Tryf.prog 17 #[.string (styT 2)] wi fun e w' => e = .returned (.tuple #[.int .i32 (((121 : UInt8).toNat : Nat) : Int), .int .i64 1]) ∧ w' = wi) := Lib.hid (Tryf.utf8_DecodeRuneInString_ascii (styT 2) 121 wi rfl (by decide))
        have q1 : ((121 : Int) == (c : Int)) = false := beq_eq_false_iff_ne.2 (by omega)
        have q2 : (121 : Int) < (c : Int) := by omega
        have q3 : ¬ (c : Int) < 128 := by omega
        go_wp2_with (go_at_call 17; refine DR1.out.mono ?_; rintro e w2 ⟨rfl, hq⟩; have hq2 := hq.symm; subst hq2; clear hq)
        go_wp2_with (go_at_call 22; refine SF1.out.mono ?_; rintro e w2 ⟨rfl, hq⟩; have hq2 := hq.symm; subst hq2; clear hq)
        go_loopw [13] (fun r wx => wx = wi ∧ (r = .int .i32 89 ∨ r = .int .i32 121)) (fun r _ => (121 - intOf r).toNat)
        case atStart => exact ⟨rfl, .inl rfl⟩
        case round =>
          obtain ⟨hwx, rfl | rfl⟩ := hrel
          all_goals (have hwx2 := hwx.symm; subst hwx2; clear hwx)
          · have g1 : (89 : Int) < (c : Int) := by omega
            go_wp2_with (go_at_call 22; refine SF2.out.mono ?_; rintro e w2 ⟨rfl, hq⟩; have hq2 := hq.symm; subst hq2; clear hq)
            first
              | exact ⟨⟨by trivial, .inr rfl⟩, by decide⟩
              | (go_roundw
                 case rel => exact ⟨by trivial, .inr rfl⟩
                 case measure => decide)
          · go_wp2
            first | simp only [Exit.jump] | skip
            go_ret
            exact ⟨rfl, HB.out⟩
    · have hv' : v = 3 := hv
      subst hv'
      clear hv
      have hT : sty.extract 3 sty.size = styT 3 := rfl
      obtain ⟨S, hS⟩ : ∃ S, S = s.extract 3 s.size := ⟨_, rfl⟩
      have hSs : S.size = 2 := by rw [hS, ByteArray.size_extract]; have := HS.out; omega
      have hS0 : ∃ h : 0 < S.size, 128 ≤ (S[0]'h).toNat := ⟨by omega, by subst hS; rw [ByteArray.getElem_extract]; exact HX.out⟩
      have zT : ((styT 3).size : Int) = 2 := rfl
      have hS' : s.extract 3 s.size = S := hS.symm
      clear hS
      go_wp2
      go_loopw [1] (fun v wr => v = .string (styT 3) ∧ wr = w.iter S 0) (fun _ _ => 0)
      case atStart => exact ⟨rfl, rfl⟩
      case round =>
        obtain ⟨rfl, hwr⟩ := hrel
        obtain ⟨hp, hx⟩ := hS0
        have HIT : Hid (wr.heap[w.heap.size]? = some (.stringIter S 0)) := Lib.hid (by rw [hwr]; exact World.iter_heap w S 0)
        have HBR : Hid (Below w.heap.size w wr) := Lib.hid (by rw [hwr]; exact (Below.refl _ w).alloc (Nat.le_refl _) _)
        have hpz : w.heap.size < wr.heap.size := (Array.getElem?_eq_some_iff.1 HIT.out).1
        obtain ⟨pos, hpos⟩ : ∃ p, p = 0 := ⟨_, rfl⟩
        rw [← hpos] at HIT
        obtain ⟨c, wd, hd⟩ : ∃ c wd, Utf8.decode S pos = (c, wd) := ⟨_, _, rfl⟩
        have hc : 128 ≤ c := by have := (decode_high S 0 hp hx).1; rw [← hpos, hd] at this; exact this
        rw [← hpos] at hp
        clear hx hwr
        have hnx : ∀ ty, (Instr.next (.pointer (some ⟨w.heap.size, 0, none⟩)) true ty).run Tryf.prog wr = .ok (.tuple #[.bool true, .int .i64 pos, .int .i32 c]) (wr.iterAt w.heap.size S (pos + wd)) := fun ty => by
          rw [Lib.run_next_any_at wr w.heap.size S pos ty HIT.out hp, hd]
        obtain ⟨wi, hwi⟩ : ∃ wi, wi = wr.iterAt w.heap.size S (pos + wd) := ⟨_, rfl⟩
        have HIT2 : Hid (wi.heap[w.heap.size]? = some (.stringIter S (pos + wd))) := Lib.hid (by rw [hwi]; exact Lib.iterAt_heap wr w.heap.size S pos (pos + wd) HIT.out)
        have HB : Hid (Below w.heap.size w wi) := Lib.hid (by rw [hwi]; exact Lib.below_iterAt HBR.out (k := w.heap.size) (by omega) S (pos + wd))
        rw [← hwi] at hnx
        clear hwi hd
        have SF1 : Hid (Calls Tryf.prog 22 #[.int .i32 108] wi (SfPost 76 wi)) := Lib.hid (sf_ascii 108 (by omega) wi (HF.out.below HB.out))
        have SF2 : Hid (Calls Tryf.prog 22 #[.int .i32 76] wi (SfPost 108 wi)) := Lib.hid (sf_ascii 76 (by omega) wi (HF.out.below HB.out))
        have DR1 : Hid (Calls Tryf.prog 17 #[.string (styT 3)] wi fun e w' => e = .returned (.tuple #[.int .i32 (((108 : UInt8).toNat : Nat) : Int), .int .i64 1]) ∧ w' = wi) := Lib.hid (Tryf.utf8_DecodeRuneInString_ascii (styT 3) 108 wi rfl (by decide))
        have q1 : ((108 : Int) == (c : Int)) = false := beq_eq_false_iff_ne.2 (by omega)
        have q2 : (108 : Int) < (c : Int) := by omega
        have q3 : ¬ (c : Int) < 128 := by omega
        go_wp2_with (go_at_call 17; refine DR1.out.mono ?_; rintro e w2 ⟨rfl, hq⟩; have hq2 := hq.symm; subst hq2; clear hq)
        go_wp2_with (go_at_call 22; refine SF1.out.mono ?_; rintro e w2 ⟨rfl, hq⟩; have hq2 := hq.symm; subst hq2; clear hq)
        go_loopw [13] (fun r wx => wx = wi ∧ (r = .int .i32 76 ∨ r = .int .i32 108)) (fun r _ => (108 - intOf r).toNat)
        case atStart => exact ⟨rfl, .inl rfl⟩
        case round =>
          obtain ⟨hwx, rfl | rfl⟩ := hrel
          all_goals (have hwx2 := hwx.symm; subst hwx2; clear hwx)
          · have g1 : (76 : Int) < (c : Int) := by omega
            go_wp2_with (go_at_call 22; refine SF2.out.mono ?_; rintro e w2 ⟨rfl, hq⟩; have hq2 := hq.symm; subst hq2; clear hq)
            first
              | exact ⟨⟨by trivial, .inr rfl⟩, by decide⟩
              | (go_roundw
                 case rel => exact ⟨by trivial, .inr rfl⟩
                 case measure => decide)
          · go_wp2
            first | simp only [Exit.jump] | skip
            go_ret
            exact ⟨rfl, HB.out⟩
    · have hv' : v = 4 := hv
      subst hv'
      clear hv
      have hT : sty.extract 4 sty.size = styT 4 := rfl
      obtain ⟨S, hS⟩ : ∃ S, S = s.extract 4 s.size := ⟨_, rfl⟩
      have hSs : S.size = 1 := by rw [hS, ByteArray.size_extract]; have := HS.out; omega
      have hS0 : ∃ h : 0 < S.size, 128 ≤ (S[0]'h).toNat := ⟨by omega, by subst hS; rw [ByteArray.getElem_extract]; exact HX.out⟩
      have zT : ((styT 4).size : Int) = 1 := rfl
      have hS' : s.extract 4 s.size = S := hS.symm
      clear hS
      go_wp2
      go_loopw [1] (fun v wr => v = .string (styT 4) ∧ wr = w.iter S 0) (fun _ _ => 0)
      case atStart => exact ⟨rfl, rfl⟩
      case round =>
        obtain ⟨rfl, hwr⟩ := hrel
        obtain ⟨hp, hx⟩ := hS0
        have HIT : Hid (wr.heap[w.heap.size]? = some (.stringIter S 0)) := Lib.hid (by rw [hwr]; exact World.iter_heap w S 0)
        have HBR : Hid (Below w.heap.size w wr) := Lib.hid (by rw [hwr]; exact (Below.refl _ w).alloc (Nat.le_refl _) _)
        have hpz : w.heap.size < wr.heap.size := (Array.getElem?_eq_some_iff.1 HIT.out).1
        obtain ⟨pos, hpos⟩ : ∃ p, p = 0 := ⟨_, rfl⟩
        rw [← hpos] at HIT
        obtain ⟨c, wd, hd⟩ : ∃ c wd, Utf8.decode S pos = (c, wd) := ⟨_, _, rfl⟩
        have hc : 128 ≤ c := by have := (decode_high S 0 hp hx).1; rw [← hpos, hd] at this; exact this
        rw [← hpos] at hp
        clear hx hwr
        have hnx : ∀ ty, (Instr.next (.pointer (some ⟨w.heap.size, 0, none⟩)) true ty).run Tryf.prog wr = .ok (.tuple #[.bool true, .int .i64 pos, .int .i32 c]) (wr.iterAt w.heap.size S (pos + wd)) := fun ty => by
          rw [Lib.run_next_any_at wr w.heap.size S pos ty HIT.out hp, hd]
        obtain ⟨wi, hwi⟩ : ∃ wi, wi = wr.iterAt w.heap.size S (pos + wd) := ⟨_, rfl⟩
        have HIT2 : Hid (wi.heap[w.heap.size]? = some (.stringIter S (pos + wd))) := Lib.hid (by rw [hwi]; exact Lib.iterAt_heap wr w.heap.size S pos (pos + wd) HIT.out)
        have HB : Hid (Below w.heap.size w wi) := Lib.hid (by rw [hwi]; exact Lib.below_iterAt HBR.out (k := w.heap.size) (by omega) S (pos + wd))
        rw [← hwi] at hnx
        clear hwi hd
        have SF1 : Hid (Calls Tryf.prog 22 #[.int .i32 101] wi (SfPost 69 wi)) := Lib.hid (sf_ascii 101 (by omega) wi (HF.out.below HB.out))
        have SF2 : Hid (Calls Tryf.prog 22 #[.int .i32 69] wi (SfPost 101 wi)) := Lib.hid (sf_ascii 69 (by omega) wi (HF.out.below HB.out))
        have DR1 : Hid (Calls Tryf.prog 17 #[.string (styT 4)] wi fun e w' => e = .returned (.tuple #[.int .i32 (((101 : UInt8).toNat : Nat) : Int), .int .i64 1]) ∧ w' = wi) := Lib.hid (Tryf.utf8_DecodeRuneInString_ascii (styT 4) 101 wi rfl (by decide))
        have q1 : ((101 : Int) == (c : Int)) = false := beq_eq_false_iff_ne.2 (by omega)
        have q2 : (101 : Int) < (c : Int) := by omega
        have q3 : ¬ (c : Int) < 128 := by omega
        go_wp2_with (go_at_call 17; refine DR1.out.mono ?_; rintro e w2 ⟨rfl, hq⟩; have hq2 := hq.symm; subst hq2; clear hq)
        go_wp2_with (go_at_call 22; refine SF1.out.mono ?_; rintro e w2 ⟨rfl, hq⟩; have hq2 := hq.symm; subst hq2; clear hq)
        go_loopw [13] (fun r wx => wx = wi ∧ (r = .int .i32 69 ∨ r = .int .i32 101)) (fun r _ => (101 - intOf r).toNat)
        case atStart => exact ⟨rfl, .inl rfl⟩
        case round =>
          obtain ⟨hwx, rfl | rfl⟩ := hrel
          all_goals (have hwx2 := hwx.symm; subst hwx2; clear hwx)
          · have g1 : (69 : Int) < (c : Int) := by omega
            go_wp2_with (go_at_call 22; refine SF2.out.mono ?_; rintro e w2 ⟨rfl, hq⟩; have hq2 := hq.symm; subst hq2; clear hq)
            first
              | exact ⟨⟨by trivial, .inr rfl⟩, by decide⟩
              | (go_roundw
                 case rel => exact ⟨by trivial, .inr rfl⟩
                 case measure => decide)
          · go_wp2
            first | simp only [Exit.jump] | skip
            go_ret
            exact ⟨rfl, HB.out⟩
end Go.Proofs.YtachkgmngahpoaaFmt
