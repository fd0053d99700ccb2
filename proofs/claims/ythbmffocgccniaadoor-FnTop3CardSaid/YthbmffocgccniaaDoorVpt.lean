/- zzPut: the text of a number. -/
import Derived.Test.YthbmffocgccniaaDoorRows
import Derived.Test.YthbmffocgccniaaDoorWords
import Derived.Test.YthbmffocgccniaaDoorVlb
import Derived.WalkKit
import Derived.WalkSpells
import Derived.LoopTactic
import Derived.Outline
namespace Go.Proofs.YthbmffocgccniaaDoor
open Go.RowKit
set_option linter.unusedVariables false
set_option linter.unusedSimpArgs false
def b64B : ByteArray := ⟨#[65, 66, 67, 68, 69, 70, 71, 72, 73, 74, 75, 76, 77, 78, 79, 80, 81, 82, 83, 84, 85, 86, 87, 88, 89, 90, 97, 98, 99, 100, 101, 102, 103, 104, 105, 106, 107, 108, 109, 110, 111, 112, 113, 114, 115, 116, 117, 118, 119, 120, 121, 122, 48, 49, 50, 51, 52, 53, 54, 55, 56, 57, 43, 47]⟩
set_option maxRecDepth 100000 in
theorem b64_all : ∀ d : Fin 64, (b64B.extract d.val (d.val + 1)).data.toList = [digU d.val] := by decide
theorem b64_ext (d : Nat) (h : d < 64) : (b64B.extract d (d + 1)).data.toList = [digU d] := b64_all ⟨d, h⟩
set_option maxRecDepth 100000 in
theorem b64_get : ∀ d : Fin 64, b64B[d.val]! = digU d.val := by decide
def PutPost (n : Int) (w : World) (e : Ending) (w' : World) : Prop := ∃ s : ByteArray, e = .returned (.string s) ∧ s.data.toList = put n ∧ w = w'
theorem sgn_lt (n : Int) (h : -1099511627776 ≤ n ∧ n ≤ 1099511627776) : sgn n < 32 ^ 9 := by unfold sgn; split <;> omega
theorem put_len (n : Int) (h : -1099511627776 ≤ n ∧ n ≤ 1099511627776) : (put n).length ≤ 9 := putN_len 8 _ (sgn_lt n h)
theorem size_list (s : ByteArray) : s.size = s.data.toList.length := by rw [Array.length_toList]; rfl
/-- What the loop writes stands for the number that is left. -/
structure PutI (n : Int) (s : ByteArray) (u : Nat) : Prop where
  eq : s.data.toList ++ putN u = put n
  lt : u < 2 ^ 50
theorem PutI.small {n : Int} {s : ByteArray} {u : Nat} (h : PutI n s u) (hn : -1099511627776 ≤ n ∧ n ≤ 1099511627776) : s.size ≤ 9 := by
  have h1 := congrArg List.length h.eq
  rw [List.length_append] at h1
  have := put_len n hn
  rw [size_list]; omega
theorem data_append (a b : ByteArray) : (a ++ b).data.toList = a.data.toList ++ b.data.toList := by
  rw [ByteArray.data_append, Array.toList_append]
set_option maxHeartbeats 1000000 in
set_option maxRecDepth 100000 in
theorem zput_any (n : Int) (w : World) (h : -1099511627776 ≤ n ∧ n ≤ 1099511627776) :
    Calls Tryd.prog 8 #[.int .i64 n] w (PutPost n w) := by
  have hs := sgn_lt n h
  have key : ∀ v : Int, v = ((sgn n : Nat) : Int) → ∀ (s : ByteArray), s = ⟨#[]⟩ → ∃ (u : Nat) (t : ByteArray), Value.int .i64 v = .int .i64 (u : Int) ∧ Value.string s = .string t ∧ PutI n t u := fun v hv s hs' => ⟨sgn n, ⟨#[]⟩, by rw [hv], by rw [hs'], ⟨rfl, by omega⟩⟩
  have HKEY := Lib.hid key
  have HN := Lib.hid h
  clear key
  by_cases hn : n < 0
  · have hor : bits BinOp.or IntKind.i64 (-n * 2) 1 = ((sgn n : Nat) : Int) := by
      have := or1_i64 n.natAbs (by omega)
      rw [show (-n * 2 : Int) = ((2 * n.natAbs : Nat) : Int) by omega, this]
      unfold sgn; rw [if_pos hn]
    have hv : ((sgn n : Nat) : Int) = ((sgn n : Nat) : Int) := rfl
    go_enter Tryd.func8, Tryd.ntmps8
    go_wp2
    clear hor hs
    go_loop [3, 4] (fun v s => ∃ (u : Nat) (t : ByteArray), v = .int .i64 (u : Int) ∧ s = .string t ∧ PutI n t u) (fun v _ => (intOf v).toNat)
    case atStart => exact HKEY.out _ rfl _ rfl
    case round =>
      obtain ⟨u, t, rfl, rfl, hp⟩ := hrel
      have HP := Lib.hid hp
      have hul := hp.lt
      have hts := hp.small HN.out
      have ha31 := and31_i64 u (by omega)
      obtain ⟨x, hx⟩ : ∃ x, x = u % 32 := ⟨_, rfl⟩
      rw [← hx] at ha31
      obtain ⟨y, hy⟩ : ∃ y, y = u / 32 := ⟨_, rfl⟩
      have hsh : (u : Int) / 32 = (y : Int) := by omega
      have hx32 : x < 32 := by omega
      have HX := Lib.hid hx; have HY := Lib.hid hy
      clear hp hx hy
      by_cases hy0 : y = 0
      · subst hy0
        have hsh' : (u : Int) / 32 = 0 := by omega
        clear hsh
        have HFIN : Hid ((t ++ b64B.extract x (x + 1)).data.toList = put n) := Lib.hid (by
          have hu : u < 32 := by have := HY.out; omega
          obtain rfl : x = u := by rw [HX.out]; omega
          rw [data_append, b64_ext x (by omega), ← HP.out.eq, putN_small hu])
        have hwx : IntKind.i64.wrap ((x : Int) + 1) = (x : Int) + 1 := by rw [IntKind.wrap_i64]; omega
        go_wp2
        go_ret
        exact ⟨_, rfl, HFIN.out, rfl⟩
      · have hy1 : ¬ (y : Int) = 0 := by omega
        have hy2 : ((y : Int) != 0) = true := by simp; omega
        have hy3 : ((y : Int) == 0) = false := by simp; omega
        have hor32 := or32_i64 x hx32
        obtain ⟨z, hz⟩ : ∃ z, z = x + 32 := ⟨_, rfl⟩
        rw [← hz] at hor32
        have hz64 : z < 64 := by omega
        have HNXT : Hid (PutI n (t ++ b64B.extract z (z + 1)) y) := Lib.hid ⟨by
          rw [data_append, b64_ext z hz64, ← HP.out.eq, List.append_assoc, putN_big (v := u) (by have := HY.out; omega), ← HY.out, hz, HX.out]; rfl, by have := HY.out; omega⟩
        have hwz : IntKind.i64.wrap ((z : Int) + 1) = (z : Int) + 1 := by rw [IntKind.wrap_i64]; omega
        have HLT : Hid (y < u) := Lib.hid (by have := HY.out; omega)
        clear hz
        go_wp2
        go_roundw
        case rel => exact ⟨y, _, rfl, rfl, HNXT.out⟩
        case measure => simp [intOf]; exact HLT.out

  · have hv : n * 2 = ((sgn n : Nat) : Int) := by unfold sgn; rw [if_neg hn]; omega
    go_enter Tryd.func8, Tryd.ntmps8
    go_wp2
    clear hs
    go_loop [3, 4] (fun v s => ∃ (u : Nat) (t : ByteArray), v = .int .i64 (u : Int) ∧ s = .string t ∧ PutI n t u) (fun v _ => (intOf v).toNat)
    case atStart => exact HKEY.out _ (by first | exact hv | rfl) _ rfl
    case round =>
      obtain ⟨u, t, rfl, rfl, hp⟩ := hrel
      have HP := Lib.hid hp
      have hul := hp.lt
      have hts := hp.small HN.out
      have ha31 := and31_i64 u (by omega)
      obtain ⟨x, hx⟩ : ∃ x, x = u % 32 := ⟨_, rfl⟩
      rw [← hx] at ha31
      obtain ⟨y, hy⟩ : ∃ y, y = u / 32 := ⟨_, rfl⟩
      have hsh : (u : Int) / 32 = (y : Int) := by omega
      have hx32 : x < 32 := by omega
      have HX := Lib.hid hx; have HY := Lib.hid hy
      clear hp hx hy
      by_cases hy0 : y = 0
      · subst hy0
        have hsh' : (u : Int) / 32 = 0 := by omega
        clear hsh
        have HFIN : Hid ((t ++ b64B.extract x (x + 1)).data.toList = put n) := Lib.hid (by
          have hu : u < 32 := by have := HY.out; omega
          obtain rfl : x = u := by rw [HX.out]; omega
          rw [data_append, b64_ext x (by omega), ← HP.out.eq, putN_small hu])
        have hwx : IntKind.i64.wrap ((x : Int) + 1) = (x : Int) + 1 := by rw [IntKind.wrap_i64]; omega
        go_wp2
        go_ret
        exact ⟨_, rfl, HFIN.out, rfl⟩
      · have hy1 : ¬ (y : Int) = 0 := by omega
        have hy2 : ((y : Int) != 0) = true := by simp; omega
        have hy3 : ((y : Int) == 0) = false := by simp; omega
        have hor32 := or32_i64 x hx32
        obtain ⟨z, hz⟩ : ∃ z, z = x + 32 := ⟨_, rfl⟩
        rw [← hz] at hor32
        have hz64 : z < 64 := by omega
        have HNXT : Hid (PutI n (t ++ b64B.extract z (z + 1)) y) := Lib.hid ⟨by
          rw [data_append, b64_ext z hz64, ← HP.out.eq, List.append_assoc, putN_big (v := u) (by have := HY.out; omega), ← HY.out, hz, HX.out]; rfl, by have := HY.out; omega⟩
        have hwz : IntKind.i64.wrap ((z : Int) + 1) = (z : Int) + 1 := by rw [IntKind.wrap_i64]; omega
        have HLT : Hid (y < u) := Lib.hid (by have := HY.out; omega)
        clear hz
        go_wp2
        go_roundw
        case rel => exact ⟨y, _, rfl, rfl, HNXT.out⟩
        case measure => simp [intOf]; exact HLT.out

end Go.Proofs.YthbmffocgccniaaDoor
