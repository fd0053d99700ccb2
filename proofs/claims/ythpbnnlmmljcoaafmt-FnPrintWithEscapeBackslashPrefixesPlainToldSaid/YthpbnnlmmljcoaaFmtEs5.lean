/- The law's own UTF-8 encoder appends the rune's bytes (written by gen_enc.py). -/
import Derived.Test.YthpbnnlmmljcoaaFmtEs4
namespace Go.Proofs.YthpbnnlmmljcoaaFmt
open Go.RowKit
set_option linter.unusedVariables false
set_option linter.unusedSimpArgs false
theorem i32_and63 {x : Int} (h₀ : 0 ≤ x) (h₁ : x < 2147483648) : bits .and .i32 x 63 = x % 64 := bits_mask .i32 31 (by decide) wraps_i32 6 (by decide) x h₀ h₁
theorem i32_or4 (x y : Int) (hx₀ : 0 ≤ x) (hx : x % 16 = 0) (hx₁ : x < 2147483648) (h₀ : 0 ≤ y) (h₁ : y < 16) : bits .or .i32 x y = x + y :=
  bits_join .i32 31 (by decide) wraps_i32 4 x y hx₀ hx hx₁ h₀ h₁ (by omega)
theorem i32_or3 (x y : Int) (hx₀ : 0 ≤ x) (hx : x % 8 = 0) (hx₁ : x < 2147483648) (h₀ : 0 ≤ y) (h₁ : y < 8) : bits .or .i32 x y = x + y :=
  bits_join .i32 31 (by decide) wraps_i32 3 x y hx₀ hx hx₁ h₀ h₁ (by omega)
theorem own_slice {w : World} {B n : Nat} {v : Value} {xs : List Value} (h : w.ownsRow B 5 1 v n xs) : ∃ A c, v = .slice A n c := by
  rcases h.2 with ⟨rfl, rfl⟩ | ⟨g, cap, cur, rfl, _⟩
  · exact ⟨none, 0, rfl⟩
  · exact ⟨_, _, rfl⟩
set_option maxHeartbeats 1000000 in
set_option maxRecDepth 100000 in
theorem enc_one (B : Nat) (A : Option Addr) (n cap : Nat) (bs : List Value) (c : Int) (h0 : 0 ≤ c) (h1 : c ≤ 127) (w : World) (hown : w.ownsRow B 5 1 (.slice A n cap) n bs) (hB : B ≤ w.heap.size) (hn : n ≤ 16777216) :
    Calls Tryf.prog 15 #[.slice A n cap, .int .i32 c] w (RowPost B w (bs ++ Lib.runeCells c)) := by
  obtain ⟨i0, hi, hz0, hz1, hz2⟩ := info_parts u8I
  have O0 := Lib.hid hown
  have HB0 := Lib.hid (Below.refl B w)
  clear hown
  have HR := Lib.hid (show Lib.runeCells c = [.int .u8 (c)] by unfold Lib.runeCells; rw [Lib.encodeRuneZ_one h0 h1]; rfl)
  go_enter Tryf.func15, Tryf.ntmps15
  go_wp2_with (at_builtin; refine wpList_append_own_src _ rfl (.tmp 21) (.tmp 24) 22 22 rfl B 5 i0 (.int .u8 0) 1 1 Tryf.underlying22 hi hz0 hz1 hz2 rfl _ _ _ rfl (O0.out.alloc _) _ 1 [.int .u8 (c)] rfl (srcOne w (.int .u8 (c)) rfl) (by unfold maxLen; omega) (by omega) (by simp; omega) ?_)
  intro v1 w1 hown1 hgrow1 _
  have O1 := Lib.hid hown1
  have hb1 : Below B w w1 := (HB0.out.alloc (by have := HB0.out.size; omega) _).grown hgrow1 (by have := HB0.out.size; simp; try omega) (fun k hk => (O0.out.lt k hk).1)
  have hs1 : B ≤ w1.heap.size := Nat.le_trans hB hb1.size
  have HB1 := Lib.hid hb1
  clear hown1 hgrow1 hb1
  go_wp2
  go_ret
  have ho := O1.out
  obtain ⟨A', c', rfl⟩ := own_slice ho
  refine ⟨A', _, c', rfl, ?_, by rw [HR.out]; simpa using ho, HB1.out⟩
  rw [HR.out]
  have := ho.1
  simp at this ⊢
  omega

set_option maxHeartbeats 1000000 in
set_option maxRecDepth 100000 in
theorem enc_two (B : Nat) (A : Option Addr) (n cap : Nat) (bs : List Value) (c : Int) (h0 : 128 ≤ c) (h1 : c ≤ 2047) (w : World) (hown : w.ownsRow B 5 1 (.slice A n cap) n bs) (hB : B ≤ w.heap.size) (hn : n ≤ 16777216) :
    Calls Tryf.prog 15 #[.slice A n cap, .int .i32 c] w (RowPost B w (bs ++ Lib.runeCells c)) := by
  obtain ⟨i0, hi, hz0, hz1, hz2⟩ := info_parts u8I
  have O0 := Lib.hid hown
  have HB0 := Lib.hid (Below.refl B w)
  clear hown
  have HR := Lib.hid (show Lib.runeCells c = [.int .u8 (192 + c / 64), .int .u8 (128 + c % 64)] by unfold Lib.runeCells; rw [Lib.encodeRuneZ_two h0 h1]; rfl)
  have fa1 : bits .and .i32 (c) 63 = c % 64 := i32_and63 (by omega) (by omega)
  have fo1 : bits .or .i32 128 (c % 64) = 128 + c % 64 := i32_or6 _ _ (by decide) (by decide) (by decide) (by omega) (by omega)
  have fm1 : (128 + c % 64) % 256 = 128 + c % 64 := by omega
  go_enter Tryf.func15, Tryf.ntmps15
  go_wp2_with (at_builtin; refine wpList_append_own_src _ rfl (.tmp 28) (.tmp 33) 22 22 rfl B 5 i0 (.int .u8 0) 1 1 Tryf.underlying22 hi hz0 hz1 hz2 rfl _ _ _ rfl (O0.out.alloc _) _ 1 [.int .u8 (192 + c / 64)] rfl (srcOne w (.int .u8 (192 + c / 64)) rfl) (by unfold maxLen; omega) (by omega) (by simp; omega) ?_)
  intro v1 w1 hown1 hgrow1 _
  have O1 := Lib.hid hown1
  have hb1 : Below B w w1 := (HB0.out.alloc (by have := HB0.out.size; omega) _).grown hgrow1 (by have := HB0.out.size; simp; try omega) (fun k hk => (O0.out.lt k hk).1)
  have hs1 : B ≤ w1.heap.size := Nat.le_trans hB hb1.size
  have HB1 := Lib.hid hb1
  clear hown1 hgrow1 hb1
  go_wp2_with (at_builtin; refine wpList_append_own_src _ rfl (.tmp 35) (.tmp 40) 22 22 rfl B 5 i0 (.int .u8 0) 1 1 Tryf.underlying22 hi hz0 hz1 hz2 rfl _ _ _ rfl (O1.out.alloc _) _ 1 [.int .u8 (128 + c % 64)] rfl (srcOne w1 (.int .u8 (128 + c % 64)) rfl) (by unfold maxLen; omega) (by omega) (by simp; omega) ?_)
  intro v2 w2 hown2 hgrow2 _
  have O2 := Lib.hid hown2
  have hb2 : Below B w w2 := (HB1.out.alloc (by have := HB1.out.size; omega) _).grown hgrow2 (by have := HB1.out.size; simp; try omega) (fun k hk => (O1.out.lt k hk).1)
  have hs2 : B ≤ w2.heap.size := Nat.le_trans hB hb2.size
  have HB2 := Lib.hid hb2
  clear hown2 hgrow2 hb2
  go_wp2
  go_ret
  have ho := O2.out
  obtain ⟨A', c', rfl⟩ := own_slice ho
  refine ⟨A', _, c', rfl, ?_, by rw [HR.out]; simpa using ho, HB2.out⟩
  rw [HR.out]
  have := ho.1
  simp at this ⊢
  omega

set_option maxHeartbeats 1000000 in
set_option maxRecDepth 100000 in
theorem enc_threeA (B : Nat) (A : Option Addr) (n cap : Nat) (bs : List Value) (c : Int) (h0 : 2048 ≤ c) (h1 : c < 55296) (w : World) (hown : w.ownsRow B 5 1 (.slice A n cap) n bs) (hB : B ≤ w.heap.size) (hn : n ≤ 16777216) :
    Calls Tryf.prog 15 #[.slice A n cap, .int .i32 c] w (RowPost B w (bs ++ Lib.runeCells c)) := by
  obtain ⟨i0, hi, hz0, hz1, hz2⟩ := info_parts u8I
  have O0 := Lib.hid hown
  have HB0 := Lib.hid (Below.refl B w)
  clear hown
  have HR := Lib.hid (show Lib.runeCells c = [.int .u8 (224 + c / 4096), .int .u8 (128 + c / 64 % 64), .int .u8 (128 + c % 64)] by unfold Lib.runeCells; rw [Lib.encodeRuneZ_three (.inl ⟨h0, h1⟩)]; rfl)
  have fa1 : bits .and .i32 (c) 63 = c % 64 := i32_and63 (by omega) (by omega)
  have fo1 : bits .or .i32 128 (c % 64) = 128 + c % 64 := i32_or6 _ _ (by decide) (by decide) (by decide) (by omega) (by omega)
  have fm1 : (128 + c % 64) % 256 = 128 + c % 64 := by omega
  have fa64 : bits .and .i32 (c / 64) 63 = c / 64 % 64 := i32_and63 (by omega) (by omega)
  have fo64 : bits .or .i32 128 (c / 64 % 64) = 128 + c / 64 % 64 := i32_or6 _ _ (by decide) (by decide) (by decide) (by omega) (by omega)
  have fm64 : (128 + c / 64 % 64) % 256 = 128 + c / 64 % 64 := by omega
  have fq : bits .or .i32 224 (c / 4096) = 224 + c / 4096 := i32_or4 _ _ (by decide) (by decide) (by decide) (by omega) (by omega)
  have fqm : (224 + c / 4096) % 256 = 224 + c / 4096 := by omega
  go_enter Tryf.func15, Tryf.ntmps15
  go_wp2_with (at_builtin; refine wpList_append_own_src _ rfl (.tmp 44) (.tmp 49) 22 22 rfl B 5 i0 (.int .u8 0) 1 1 Tryf.underlying22 hi hz0 hz1 hz2 rfl _ _ _ rfl (O0.out.alloc _) _ 1 [.int .u8 (224 + c / 4096)] rfl (srcOne w (.int .u8 (224 + c / 4096)) rfl) (by unfold maxLen; omega) (by omega) (by simp; omega) ?_)
  intro v1 w1 hown1 hgrow1 _
  have O1 := Lib.hid hown1
  have hb1 : Below B w w1 := (HB0.out.alloc (by have := HB0.out.size; omega) _).grown hgrow1 (by have := HB0.out.size; simp; try omega) (fun k hk => (O0.out.lt k hk).1)
  have hs1 : B ≤ w1.heap.size := Nat.le_trans hB hb1.size
  have HB1 := Lib.hid hb1
  clear hown1 hgrow1 hb1
  go_wp2_with (at_builtin; refine wpList_append_own_src _ rfl (.tmp 51) (.tmp 57) 22 22 rfl B 5 i0 (.int .u8 0) 1 1 Tryf.underlying22 hi hz0 hz1 hz2 rfl _ _ _ rfl (O1.out.alloc _) _ 1 [.int .u8 (128 + c / 64 % 64)] rfl (srcOne w1 (.int .u8 (128 + c / 64 % 64)) rfl) (by unfold maxLen; omega) (by omega) (by simp; omega) ?_)
  intro v2 w2 hown2 hgrow2 _
  have O2 := Lib.hid hown2
  have hb2 : Below B w w2 := (HB1.out.alloc (by have := HB1.out.size; omega) _).grown hgrow2 (by have := HB1.out.size; simp; try omega) (fun k hk => (O1.out.lt k hk).1)
  have hs2 : B ≤ w2.heap.size := Nat.le_trans hB hb2.size
  have HB2 := Lib.hid hb2
  clear hown2 hgrow2 hb2
  go_wp2_with (at_builtin; refine wpList_append_own_src _ rfl (.tmp 59) (.tmp 64) 22 22 rfl B 5 i0 (.int .u8 0) 1 1 Tryf.underlying22 hi hz0 hz1 hz2 rfl _ _ _ rfl (O2.out.alloc _) _ 1 [.int .u8 (128 + c % 64)] rfl (srcOne w2 (.int .u8 (128 + c % 64)) rfl) (by unfold maxLen; omega) (by omega) (by simp; omega) ?_)
  intro v3 w3 hown3 hgrow3 _
  have O3 := Lib.hid hown3
  have hb3 : Below B w w3 := (HB2.out.alloc (by have := HB2.out.size; omega) _).grown hgrow3 (by have := HB2.out.size; simp; try omega) (fun k hk => (O2.out.lt k hk).1)
  have hs3 : B ≤ w3.heap.size := Nat.le_trans hB hb3.size
  have HB3 := Lib.hid hb3
  clear hown3 hgrow3 hb3
  go_wp2
  go_ret
  have ho := O3.out
  obtain ⟨A', c', rfl⟩ := own_slice ho
  refine ⟨A', _, c', rfl, ?_, by rw [HR.out]; simpa using ho, HB3.out⟩
  rw [HR.out]
  have := ho.1
  simp at this ⊢
  omega

set_option maxHeartbeats 1000000 in
set_option maxRecDepth 100000 in
theorem enc_threeB (B : Nat) (A : Option Addr) (n cap : Nat) (bs : List Value) (c : Int) (h0 : 57343 < c) (h1 : c ≤ 65535) (w : World) (hown : w.ownsRow B 5 1 (.slice A n cap) n bs) (hB : B ≤ w.heap.size) (hn : n ≤ 16777216) :
    Calls Tryf.prog 15 #[.slice A n cap, .int .i32 c] w (RowPost B w (bs ++ Lib.runeCells c)) := by
  obtain ⟨i0, hi, hz0, hz1, hz2⟩ := info_parts u8I
  have O0 := Lib.hid hown
  have HB0 := Lib.hid (Below.refl B w)
  clear hown
  have HR := Lib.hid (show Lib.runeCells c = [.int .u8 (224 + c / 4096), .int .u8 (128 + c / 64 % 64), .int .u8 (128 + c % 64)] by unfold Lib.runeCells; rw [Lib.encodeRuneZ_three (.inr ⟨h0, h1⟩)]; rfl)
  have fa1 : bits .and .i32 (c) 63 = c % 64 := i32_and63 (by omega) (by omega)
  have fo1 : bits .or .i32 128 (c % 64) = 128 + c % 64 := i32_or6 _ _ (by decide) (by decide) (by decide) (by omega) (by omega)
  have fm1 : (128 + c % 64) % 256 = 128 + c % 64 := by omega
  have fa64 : bits .and .i32 (c / 64) 63 = c / 64 % 64 := i32_and63 (by omega) (by omega)
  have fo64 : bits .or .i32 128 (c / 64 % 64) = 128 + c / 64 % 64 := i32_or6 _ _ (by decide) (by decide) (by decide) (by omega) (by omega)
  have fm64 : (128 + c / 64 % 64) % 256 = 128 + c / 64 % 64 := by omega
  have fq : bits .or .i32 224 (c / 4096) = 224 + c / 4096 := i32_or4 _ _ (by decide) (by decide) (by decide) (by omega) (by omega)
  have fqm : (224 + c / 4096) % 256 = 224 + c / 4096 := by omega
  go_enter Tryf.func15, Tryf.ntmps15
  go_wp2_with (at_builtin; refine wpList_append_own_src _ rfl (.tmp 44) (.tmp 49) 22 22 rfl B 5 i0 (.int .u8 0) 1 1 Tryf.underlying22 hi hz0 hz1 hz2 rfl _ _ _ rfl (O0.out.alloc _) _ 1 [.int .u8 (224 + c / 4096)] rfl (srcOne w (.int .u8 (224 + c / 4096)) rfl) (by unfold maxLen; omega) (by omega) (by simp; omega) ?_)
  intro v1 w1 hown1 hgrow1 _
  have O1 := Lib.hid hown1
  have hb1 : Below B w w1 := (HB0.out.alloc (by have := HB0.out.size; omega) _).grown hgrow1 (by have := HB0.out.size; simp; try omega) (fun k hk => (O0.out.lt k hk).1)
  have hs1 : B ≤ w1.heap.size := Nat.le_trans hB hb1.size
  have HB1 := Lib.hid hb1
  clear hown1 hgrow1 hb1
  go_wp2_with (at_builtin; refine wpList_append_own_src _ rfl (.tmp 51) (.tmp 57) 22 22 rfl B 5 i0 (.int .u8 0) 1 1 Tryf.underlying22 hi hz0 hz1 hz2 rfl _ _ _ rfl (O1.out.alloc _) _ 1 [.int .u8 (128 + c / 64 % 64)] rfl (srcOne w1 (.int .u8 (128 + c / 64 % 64)) rfl) (by unfold maxLen; omega) (by omega) (by simp; omega) ?_)
  intro v2 w2 hown2 hgrow2 _
  have O2 := Lib.hid hown2
  have hb2 : Below B w w2 := (HB1.out.alloc (by have := HB1.out.size; omega) _).grown hgrow2 (by have := HB1.out.size; simp; try omega) (fun k hk => (O1.out.lt k hk).1)
  have hs2 : B ≤ w2.heap.size := Nat.le_trans hB hb2.size
  have HB2 := Lib.hid hb2
  clear hown2 hgrow2 hb2
  go_wp2_with (at_builtin; refine wpList_append_own_src _ rfl (.tmp 59) (.tmp 64) 22 22 rfl B 5 i0 (.int .u8 0) 1 1 Tryf.underlying22 hi hz0 hz1 hz2 rfl _ _ _ rfl (O2.out.alloc _) _ 1 [.int .u8 (128 + c % 64)] rfl (srcOne w2 (.int .u8 (128 + c % 64)) rfl) (by unfold maxLen; omega) (by omega) (by simp; omega) ?_)
  intro v3 w3 hown3 hgrow3 _
  have O3 := Lib.hid hown3
  have hb3 : Below B w w3 := (HB2.out.alloc (by have := HB2.out.size; omega) _).grown hgrow3 (by have := HB2.out.size; simp; try omega) (fun k hk => (O2.out.lt k hk).1)
  have hs3 : B ≤ w3.heap.size := Nat.le_trans hB hb3.size
  have HB3 := Lib.hid hb3
  clear hown3 hgrow3 hb3
  go_wp2
  go_ret
  have ho := O3.out
  obtain ⟨A', c', rfl⟩ := own_slice ho
  refine ⟨A', _, c', rfl, ?_, by rw [HR.out]; simpa using ho, HB3.out⟩
  rw [HR.out]
  have := ho.1
  simp at this ⊢
  omega

set_option maxHeartbeats 1000000 in
set_option maxRecDepth 100000 in
theorem enc_four (B : Nat) (A : Option Addr) (n cap : Nat) (bs : List Value) (c : Int) (h0 : 65536 ≤ c) (h1 : c ≤ 1114111) (w : World) (hown : w.ownsRow B 5 1 (.slice A n cap) n bs) (hB : B ≤ w.heap.size) (hn : n ≤ 16777216) :
    Calls Tryf.prog 15 #[.slice A n cap, .int .i32 c] w (RowPost B w (bs ++ Lib.runeCells c)) := by
  obtain ⟨i0, hi, hz0, hz1, hz2⟩ := info_parts u8I
  have O0 := Lib.hid hown
  have HB0 := Lib.hid (Below.refl B w)
  clear hown
  have HR := Lib.hid (show Lib.runeCells c = [.int .u8 (240 + c / 262144), .int .u8 (128 + c / 4096 % 64), .int .u8 (128 + c / 64 % 64), .int .u8 (128 + c % 64)] by unfold Lib.runeCells; rw [Lib.encodeRuneZ_four h0 h1]; rfl)
  have fa1 : bits .and .i32 (c) 63 = c % 64 := i32_and63 (by omega) (by omega)
  have fo1 : bits .or .i32 128 (c % 64) = 128 + c % 64 := i32_or6 _ _ (by decide) (by decide) (by decide) (by omega) (by omega)
  have fm1 : (128 + c % 64) % 256 = 128 + c % 64 := by omega
  have fa64 : bits .and .i32 (c / 64) 63 = c / 64 % 64 := i32_and63 (by omega) (by omega)
  have fo64 : bits .or .i32 128 (c / 64 % 64) = 128 + c / 64 % 64 := i32_or6 _ _ (by decide) (by decide) (by decide) (by omega) (by omega)
  have fm64 : (128 + c / 64 % 64) % 256 = 128 + c / 64 % 64 := by omega
  have fa4096 : bits .and .i32 (c / 4096) 63 = c / 4096 % 64 := i32_and63 (by omega) (by omega)
  have fo4096 : bits .or .i32 128 (c / 4096 % 64) = 128 + c / 4096 % 64 := i32_or6 _ _ (by decide) (by decide) (by decide) (by omega) (by omega)
  have fm4096 : (128 + c / 4096 % 64) % 256 = 128 + c / 4096 % 64 := by omega
  have fq : bits .or .i32 240 (c / 262144) = 240 + c / 262144 := i32_or3 _ _ (by decide) (by decide) (by decide) (by omega) (by omega)
  have fqm : (240 + c / 262144) % 256 = 240 + c / 262144 := by omega
  go_enter Tryf.func15, Tryf.ntmps15
  go_wp2_with (at_builtin; refine wpList_append_own_src _ rfl (.tmp 66) (.tmp 71) 22 22 rfl B 5 i0 (.int .u8 0) 1 1 Tryf.underlying22 hi hz0 hz1 hz2 rfl _ _ _ rfl (O0.out.alloc _) _ 1 [.int .u8 (240 + c / 262144)] rfl (srcOne w (.int .u8 (240 + c / 262144)) rfl) (by unfold maxLen; omega) (by omega) (by simp; omega) ?_)
  intro v1 w1 hown1 hgrow1 _
  have O1 := Lib.hid hown1
  have hb1 : Below B w w1 := (HB0.out.alloc (by have := HB0.out.size; omega) _).grown hgrow1 (by have := HB0.out.size; simp; try omega) (fun k hk => (O0.out.lt k hk).1)
  have hs1 : B ≤ w1.heap.size := Nat.le_trans hB hb1.size
  have HB1 := Lib.hid hb1
  clear hown1 hgrow1 hb1
  go_wp2_with (at_builtin; refine wpList_append_own_src _ rfl (.tmp 73) (.tmp 79) 22 22 rfl B 5 i0 (.int .u8 0) 1 1 Tryf.underlying22 hi hz0 hz1 hz2 rfl _ _ _ rfl (O1.out.alloc _) _ 1 [.int .u8 (128 + c / 4096 % 64)] rfl (srcOne w1 (.int .u8 (128 + c / 4096 % 64)) rfl) (by unfold maxLen; omega) (by omega) (by simp; omega) ?_)
  intro v2 w2 hown2 hgrow2 _
  have O2 := Lib.hid hown2
  have hb2 : Below B w w2 := (HB1.out.alloc (by have := HB1.out.size; omega) _).grown hgrow2 (by have := HB1.out.size; simp; try omega) (fun k hk => (O1.out.lt k hk).1)
  have hs2 : B ≤ w2.heap.size := Nat.le_trans hB hb2.size
  have HB2 := Lib.hid hb2
  clear hown2 hgrow2 hb2
  go_wp2_with (at_builtin; refine wpList_append_own_src _ rfl (.tmp 81) (.tmp 87) 22 22 rfl B 5 i0 (.int .u8 0) 1 1 Tryf.underlying22 hi hz0 hz1 hz2 rfl _ _ _ rfl (O2.out.alloc _) _ 1 [.int .u8 (128 + c / 64 % 64)] rfl (srcOne w2 (.int .u8 (128 + c / 64 % 64)) rfl) (by unfold maxLen; omega) (by omega) (by simp; omega) ?_)
  intro v3 w3 hown3 hgrow3 _
  have O3 := Lib.hid hown3
  have hb3 : Below B w w3 := (HB2.out.alloc (by have := HB2.out.size; omega) _).grown hgrow3 (by have := HB2.out.size; simp; try omega) (fun k hk => (O2.out.lt k hk).1)
  have hs3 : B ≤ w3.heap.size := Nat.le_trans hB hb3.size
  have HB3 := Lib.hid hb3
  clear hown3 hgrow3 hb3
  go_wp2_with (at_builtin; refine wpList_append_own_src _ rfl (.tmp 89) (.tmp 94) 22 22 rfl B 5 i0 (.int .u8 0) 1 1 Tryf.underlying22 hi hz0 hz1 hz2 rfl _ _ _ rfl (O3.out.alloc _) _ 1 [.int .u8 (128 + c % 64)] rfl (srcOne w3 (.int .u8 (128 + c % 64)) rfl) (by unfold maxLen; omega) (by omega) (by simp; omega) ?_)
  intro v4 w4 hown4 hgrow4 _
  have O4 := Lib.hid hown4
  have hb4 : Below B w w4 := (HB3.out.alloc (by have := HB3.out.size; omega) _).grown hgrow4 (by have := HB3.out.size; simp; try omega) (fun k hk => (O3.out.lt k hk).1)
  have hs4 : B ≤ w4.heap.size := Nat.le_trans hB hb4.size
  have HB4 := Lib.hid hb4
  clear hown4 hgrow4 hb4
  go_wp2
  go_ret
  have ho := O4.out
  obtain ⟨A', c', rfl⟩ := own_slice ho
  refine ⟨A', _, c', rfl, ?_, by rw [HR.out]; simpa using ho, HB4.out⟩
  rw [HR.out]
  have := ho.1
  simp at this ⊢
  omega

set_option maxHeartbeats 1000000 in
set_option maxRecDepth 100000 in
theorem enc_badA (B : Nat) (A : Option Addr) (n cap : Nat) (bs : List Value) (c : Int) (h0 : -2147483648 ≤ c) (h1 : c < 0) (w : World) (hown : w.ownsRow B 5 1 (.slice A n cap) n bs) (hB : B ≤ w.heap.size) (hn : n ≤ 16777216) :
    Calls Tryf.prog 15 #[.slice A n cap, .int .i32 c] w (RowPost B w (bs ++ Lib.runeCells c)) := by
  obtain ⟨i0, hi, hz0, hz1, hz2⟩ := info_parts u8I
  have O0 := Lib.hid hown
  have HB0 := Lib.hid (Below.refl B w)
  clear hown
  have HR := Lib.hid (show Lib.runeCells c = [.int .u8 (239), .int .u8 (191), .int .u8 (189)] by unfold Lib.runeCells; rw [Lib.encodeRuneZ_bad (.inl h1)]; rfl)
  have fa1 : bits .and .i32 65533 63 = 61 := by decide
  have fa2 : bits .and .i32 1023 63 = 63 := by decide
  have fo1 : bits .or .i32 128 61 = 189 := by decide
  have fo2 : bits .or .i32 128 63 = 191 := by decide
  have fo3 : bits .or .i32 224 15 = 239 := by decide
  go_enter Tryf.func15, Tryf.ntmps15
  go_wp2_with (at_builtin; refine wpList_append_own_src _ rfl (.tmp 44) (.tmp 49) 22 22 rfl B 5 i0 (.int .u8 0) 1 1 Tryf.underlying22 hi hz0 hz1 hz2 rfl _ _ _ rfl (O0.out.alloc _) _ 1 [.int .u8 (239)] rfl (srcOne w (.int .u8 (239)) rfl) (by unfold maxLen; omega) (by omega) (by simp; omega) ?_)
  intro v1 w1 hown1 hgrow1 _
  have O1 := Lib.hid hown1
  have hb1 : Below B w w1 := (HB0.out.alloc (by have := HB0.out.size; omega) _).grown hgrow1 (by have := HB0.out.size; simp; try omega) (fun k hk => (O0.out.lt k hk).1)
  have hs1 : B ≤ w1.heap.size := Nat.le_trans hB hb1.size
  have HB1 := Lib.hid hb1
  clear hown1 hgrow1 hb1
  go_wp2_with (at_builtin; refine wpList_append_own_src _ rfl (.tmp 51) (.tmp 57) 22 22 rfl B 5 i0 (.int .u8 0) 1 1 Tryf.underlying22 hi hz0 hz1 hz2 rfl _ _ _ rfl (O1.out.alloc _) _ 1 [.int .u8 (191)] rfl (srcOne w1 (.int .u8 (191)) rfl) (by unfold maxLen; omega) (by omega) (by simp; omega) ?_)
  intro v2 w2 hown2 hgrow2 _
  have O2 := Lib.hid hown2
  have hb2 : Below B w w2 := (HB1.out.alloc (by have := HB1.out.size; omega) _).grown hgrow2 (by have := HB1.out.size; simp; try omega) (fun k hk => (O1.out.lt k hk).1)
  have hs2 : B ≤ w2.heap.size := Nat.le_trans hB hb2.size
  have HB2 := Lib.hid hb2
  clear hown2 hgrow2 hb2
  go_wp2_with (at_builtin; refine wpList_append_own_src _ rfl (.tmp 59) (.tmp 64) 22 22 rfl B 5 i0 (.int .u8 0) 1 1 Tryf.underlying22 hi hz0 hz1 hz2 rfl _ _ _ rfl (O2.out.alloc _) _ 1 [.int .u8 (189)] rfl (srcOne w2 (.int .u8 (189)) rfl) (by unfold maxLen; omega) (by omega) (by simp; omega) ?_)
  intro v3 w3 hown3 hgrow3 _
  have O3 := Lib.hid hown3
  have hb3 : Below B w w3 := (HB2.out.alloc (by have := HB2.out.size; omega) _).grown hgrow3 (by have := HB2.out.size; simp; try omega) (fun k hk => (O2.out.lt k hk).1)
  have hs3 : B ≤ w3.heap.size := Nat.le_trans hB hb3.size
  have HB3 := Lib.hid hb3
  clear hown3 hgrow3 hb3
  go_wp2
  go_ret
  have ho := O3.out
  obtain ⟨A', c', rfl⟩ := own_slice ho
  refine ⟨A', _, c', rfl, ?_, by rw [HR.out]; simpa using ho, HB3.out⟩
  rw [HR.out]
  have := ho.1
  simp at this ⊢
  omega

set_option maxHeartbeats 1000000 in
set_option maxRecDepth 100000 in
theorem enc_badB (B : Nat) (A : Option Addr) (n cap : Nat) (bs : List Value) (c : Int) (h0 : 55296 ≤ c) (h1 : c ≤ 57343) (w : World) (hown : w.ownsRow B 5 1 (.slice A n cap) n bs) (hB : B ≤ w.heap.size) (hn : n ≤ 16777216) :
    Calls Tryf.prog 15 #[.slice A n cap, .int .i32 c] w (RowPost B w (bs ++ Lib.runeCells c)) := by
  obtain ⟨i0, hi, hz0, hz1, hz2⟩ := info_parts u8I
  have O0 := Lib.hid hown
  have HB0 := Lib.hid (Below.refl B w)
  clear hown
  have HR := Lib.hid (show Lib.runeCells c = [.int .u8 (239), .int .u8 (191), .int .u8 (189)] by unfold Lib.runeCells; rw [Lib.encodeRuneZ_bad (.inr (.inl ⟨h0, h1⟩))]; rfl)
  have fa1 : bits .and .i32 65533 63 = 61 := by decide
  have fa2 : bits .and .i32 1023 63 = 63 := by decide
  have fo1 : bits .or .i32 128 61 = 189 := by decide
  have fo2 : bits .or .i32 128 63 = 191 := by decide
  have fo3 : bits .or .i32 224 15 = 239 := by decide
  go_enter Tryf.func15, Tryf.ntmps15
  go_wp2_with (at_builtin; refine wpList_append_own_src _ rfl (.tmp 44) (.tmp 49) 22 22 rfl B 5 i0 (.int .u8 0) 1 1 Tryf.underlying22 hi hz0 hz1 hz2 rfl _ _ _ rfl (O0.out.alloc _) _ 1 [.int .u8 (239)] rfl (srcOne w (.int .u8 (239)) rfl) (by unfold maxLen; omega) (by omega) (by simp; omega) ?_)
  intro v1 w1 hown1 hgrow1 _
  have O1 := Lib.hid hown1
  have hb1 : Below B w w1 := (HB0.out.alloc (by have := HB0.out.size; omega) _).grown hgrow1 (by have := HB0.out.size; simp; try omega) (fun k hk => (O0.out.lt k hk).1)
  have hs1 : B ≤ w1.heap.size := Nat.le_trans hB hb1.size
  have HB1 := Lib.hid hb1
  clear hown1 hgrow1 hb1
  go_wp2_with (at_builtin; refine wpList_append_own_src _ rfl (.tmp 51) (.tmp 57) 22 22 rfl B 5 i0 (.int .u8 0) 1 1 Tryf.underlying22 hi hz0 hz1 hz2 rfl _ _ _ rfl (O1.out.alloc _) _ 1 [.int .u8 (191)] rfl (srcOne w1 (.int .u8 (191)) rfl) (by unfold maxLen; omega) (by omega) (by simp; omega) ?_)
  intro v2 w2 hown2 hgrow2 _
  have O2 := Lib.hid hown2
  have hb2 : Below B w w2 := (HB1.out.alloc (by have := HB1.out.size; omega) _).grown hgrow2 (by have := HB1.out.size; simp; try omega) (fun k hk => (O1.out.lt k hk).1)
  have hs2 : B ≤ w2.heap.size := Nat.le_trans hB hb2.size
  have HB2 := Lib.hid hb2
  clear hown2 hgrow2 hb2
  go_wp2_with (at_builtin; refine wpList_append_own_src _ rfl (.tmp 59) (.tmp 64) 22 22 rfl B 5 i0 (.int .u8 0) 1 1 Tryf.underlying22 hi hz0 hz1 hz2 rfl _ _ _ rfl (O2.out.alloc _) _ 1 [.int .u8 (189)] rfl (srcOne w2 (.int .u8 (189)) rfl) (by unfold maxLen; omega) (by omega) (by simp; omega) ?_)
  intro v3 w3 hown3 hgrow3 _
  have O3 := Lib.hid hown3
  have hb3 : Below B w w3 := (HB2.out.alloc (by have := HB2.out.size; omega) _).grown hgrow3 (by have := HB2.out.size; simp; try omega) (fun k hk => (O2.out.lt k hk).1)
  have hs3 : B ≤ w3.heap.size := Nat.le_trans hB hb3.size
  have HB3 := Lib.hid hb3
  clear hown3 hgrow3 hb3
  go_wp2
  go_ret
  have ho := O3.out
  obtain ⟨A', c', rfl⟩ := own_slice ho
  refine ⟨A', _, c', rfl, ?_, by rw [HR.out]; simpa using ho, HB3.out⟩
  rw [HR.out]
  have := ho.1
  simp at this ⊢
  omega

set_option maxHeartbeats 1000000 in
set_option maxRecDepth 100000 in
theorem enc_badC (B : Nat) (A : Option Addr) (n cap : Nat) (bs : List Value) (c : Int) (h0 : 1114111 < c) (h1 : c ≤ 2147483647) (w : World) (hown : w.ownsRow B 5 1 (.slice A n cap) n bs) (hB : B ≤ w.heap.size) (hn : n ≤ 16777216) :
    Calls Tryf.prog 15 #[.slice A n cap, .int .i32 c] w (RowPost B w (bs ++ Lib.runeCells c)) := by
  obtain ⟨i0, hi, hz0, hz1, hz2⟩ := info_parts u8I
  have O0 := Lib.hid hown
  have HB0 := Lib.hid (Below.refl B w)
  clear hown
  have HR := Lib.hid (show Lib.runeCells c = [.int .u8 (239), .int .u8 (191), .int .u8 (189)] by unfold Lib.runeCells; rw [Lib.encodeRuneZ_bad (.inr (.inr h0))]; rfl)
  have fa1 : bits .and .i32 65533 63 = 61 := by decide
  have fa2 : bits .and .i32 1023 63 = 63 := by decide
  have fo1 : bits .or .i32 128 61 = 189 := by decide
  have fo2 : bits .or .i32 128 63 = 191 := by decide
  have fo3 : bits .or .i32 224 15 = 239 := by decide
  go_enter Tryf.func15, Tryf.ntmps15
  go_wp2_with (at_builtin; refine wpList_append_own_src _ rfl (.tmp 44) (.tmp 49) 22 22 rfl B 5 i0 (.int .u8 0) 1 1 Tryf.underlying22 hi hz0 hz1 hz2 rfl _ _ _ rfl (O0.out.alloc _) _ 1 [.int .u8 (239)] rfl (srcOne w (.int .u8 (239)) rfl) (by unfold maxLen; omega) (by omega) (by simp; omega) ?_)
  intro v1 w1 hown1 hgrow1 _
  have O1 := Lib.hid hown1
  have hb1 : Below B w w1 := (HB0.out.alloc (by have := HB0.out.size; omega) _).grown hgrow1 (by have := HB0.out.size; simp; try omega) (fun k hk => (O0.out.lt k hk).1)
  have hs1 : B ≤ w1.heap.size := Nat.le_trans hB hb1.size
  have HB1 := Lib.hid hb1
  clear hown1 hgrow1 hb1
  go_wp2_with (at_builtin; refine wpList_append_own_src _ rfl (.tmp 51) (.tmp 57) 22 22 rfl B 5 i0 (.int .u8 0) 1 1 Tryf.underlying22 hi hz0 hz1 hz2 rfl _ _ _ rfl (O1.out.alloc _) _ 1 [.int .u8 (191)] rfl (srcOne w1 (.int .u8 (191)) rfl) (by unfold maxLen; omega) (by omega) (by simp; omega) ?_)
  intro v2 w2 hown2 hgrow2 _
  have O2 := Lib.hid hown2
  have hb2 : Below B w w2 := (HB1.out.alloc (by have := HB1.out.size; omega) _).grown hgrow2 (by have := HB1.out.size; simp; try omega) (fun k hk => (O1.out.lt k hk).1)
  have hs2 : B ≤ w2.heap.size := Nat.le_trans hB hb2.size
  have HB2 := Lib.hid hb2
  clear hown2 hgrow2 hb2
  go_wp2_with (at_builtin; refine wpList_append_own_src _ rfl (.tmp 59) (.tmp 64) 22 22 rfl B 5 i0 (.int .u8 0) 1 1 Tryf.underlying22 hi hz0 hz1 hz2 rfl _ _ _ rfl (O2.out.alloc _) _ 1 [.int .u8 (189)] rfl (srcOne w2 (.int .u8 (189)) rfl) (by unfold maxLen; omega) (by omega) (by simp; omega) ?_)
  intro v3 w3 hown3 hgrow3 _
  have O3 := Lib.hid hown3
  have hb3 : Below B w w3 := (HB2.out.alloc (by have := HB2.out.size; omega) _).grown hgrow3 (by have := HB2.out.size; simp; try omega) (fun k hk => (O2.out.lt k hk).1)
  have hs3 : B ≤ w3.heap.size := Nat.le_trans hB hb3.size
  have HB3 := Lib.hid hb3
  clear hown3 hgrow3 hb3
  go_wp2
  go_ret
  have ho := O3.out
  obtain ⟨A', c', rfl⟩ := own_slice ho
  refine ⟨A', _, c', rfl, ?_, by rw [HR.out]; simpa using ho, HB3.out⟩
  rw [HR.out]
  have := ho.1
  simp at this ⊢
  omega

theorem enc_any (B : Nat) (A : Option Addr) (n cap : Nat) (bs : List Value) (c : Int) (hlo : -2147483648 ≤ c) (hhi : c ≤ 2147483647) (w : World) (hown : w.ownsRow B 5 1 (.slice A n cap) n bs) (hB : B ≤ w.heap.size) (hn : n ≤ 16777216) :
    Calls Tryf.prog 15 #[.slice A n cap, .int .i32 c] w (RowPost B w (bs ++ Lib.runeCells c)) := by
  by_cases h0 : c < 0
  · exact enc_badA B A n cap bs c hlo h0 w hown hB hn
  by_cases h1 : c ≤ 127
  · exact enc_one B A n cap bs c (by omega) h1 w hown hB hn
  by_cases h2 : c ≤ 2047
  · exact enc_two B A n cap bs c (by omega) h2 w hown hB hn
  by_cases h3 : c < 55296
  · exact enc_threeA B A n cap bs c (by omega) h3 w hown hB hn
  by_cases h4 : c ≤ 57343
  · exact enc_badB B A n cap bs c (by omega) h4 w hown hB hn
  by_cases h5 : c ≤ 65535
  · exact enc_threeB B A n cap bs c (by omega) h5 w hown hB hn
  by_cases h6 : c ≤ 1114111
  · exact enc_four B A n cap bs c (by omega) h6 w hown hB hn
  exact enc_badC B A n cap bs c (by omega) hhi w hown hB hn
end Go.Proofs.YthpbnnlmmljcoaaFmt
