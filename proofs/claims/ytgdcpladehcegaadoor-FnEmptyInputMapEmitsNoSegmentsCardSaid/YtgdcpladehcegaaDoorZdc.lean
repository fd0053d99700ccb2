/- zzDecodeRune is Utf8.decode (written by mkzdc.py). -/
import Derived.Test.YtgdcpladehcegaaDoorZl0
namespace Go.Proofs.YtgdcpladehcegaaDoor
open Go.RowKit
set_option linter.unusedVariables false
set_option linter.unusedSimpArgs false
def ZdPost (c wd : Nat) (w : World) (e : Ending) (w' : World) : Prop := e = .returned (.tuple #[.int .i32 (c : Int), .int .i64 (wd : Int)]) ∧ ∃ q, w' = w.drewN q
set_option maxHeartbeats 2000000 in
set_option maxRecDepth 100000 in
theorem zd_a (s : ByteArray) (i b0 b1 b2 b3 n : Nat) (hs : s.size ≤ 1048576) (hn : n + i = s.size) (h0 : i < s.size) (hg0 : (s[i].toNat : Int) = (b0 : Nat)) (bb0 : b0 < 256) (q1 : b0 < 128) (w : World) :
    Calls Tryd.prog 18 #[.string s, .int .i64 (i : Int)] w (ZdPost b0 1 w) := by
  have hwn : IntKind.i64.wrap ((s.size : Int) - (i : Int)) = (n : Int) := by rw [IntKind.wrap_i64]; omega
  have t1 : (b0 : Int) < 128 := by omega
  go_enter Tryd.func18, Tryd.ntmps18
  go_wp2_with (go_at_call 23; (with_reducible refine (zcont_any _ _ _ _).mono ?_); rintro e w' ⟨rfl, rfl⟩)
  go_ret2
  exact ⟨rfl, 0, by rw [World.drewN_zero]⟩
set_option maxHeartbeats 2000000 in
set_option maxRecDepth 100000 in
theorem zd_b0 (s : ByteArray) (i b0 b1 b2 b3 n : Nat) (hs : s.size ≤ 1048576) (hn : n + i = s.size) (h0 : i < s.size) (hg0 : (s[i].toNat : Int) = (b0 : Nat)) (bb0 : b0 < 256) (q1 : 194 ≤ b0) (q2 : b0 ≤ 223) (q3 : n < 2) (w : World) :
    Calls Tryd.prog 18 #[.string s, .int .i64 (i : Int)] w (ZdPost 65533 1 w) := by
  have hwn : IntKind.i64.wrap ((s.size : Int) - (i : Int)) = (n : Int) := by rw [IntKind.wrap_i64]; omega
  have t1 : ¬ ((b0 : Int) < 128) := by omega
  have t2 : (194 : Int) ≤ (b0 : Int) := by omega
  have t3 : (b0 : Int) ≤ 223 := by omega
  have t4 : ¬ (2 : Int) ≤ (n : Int) := by omega
  go_enter Tryd.func18, Tryd.ntmps18
  go_wp2_with (go_at_call 23; (with_reducible refine (zcont_any _ _ _ _).mono ?_); rintro e w' ⟨rfl, rfl⟩)
  go_ret2
  exact ⟨rfl, 0, by rw [World.drewN_zero]⟩
set_option maxHeartbeats 2000000 in
set_option maxRecDepth 100000 in
theorem zd_b1 (s : ByteArray) (i b0 b1 b2 b3 n : Nat) (hs : s.size ≤ 1048576) (hn : n + i = s.size) (h0 : i < s.size) (hg0 : (s[i].toNat : Int) = (b0 : Nat)) (bb0 : b0 < 256) (h1 : i + 1 < s.size) (hg1 : (s[i + 1].toNat : Int) = (b1 : Nat)) (bb1 : b1 < 256) (q1 : 194 ≤ b0) (q2 : b0 ≤ 223) (q4 : ¬ (128 ≤ b1 ∧ b1 ≤ 191)) (w : World) :
    Calls Tryd.prog 18 #[.string s, .int .i64 (i : Int)] w (ZdPost 65533 1 w) := by
  have hwn : IntKind.i64.wrap ((s.size : Int) - (i : Int)) = (n : Int) := by rw [IntKind.wrap_i64]; omega
  have hw1 : IntKind.i64.wrap ((i : Int) + 1) = ((i + 1 : Nat) : Int) := by rw [IntKind.wrap_i64]; omega
  have t1 : ¬ ((b0 : Int) < 128) := by omega
  have t2 : (194 : Int) ≤ (b0 : Int) := by omega
  have t3 : (b0 : Int) ≤ 223 := by omega
  have t4 : (2 : Int) ≤ (n : Int) := by omega
  have rb1 : inR (b1 : Int) 128 191 = false := by unfold inR; simp; omega
  go_enter Tryd.func18, Tryd.ntmps18
  go_wp2_with (go_at_call 23; (with_reducible refine (zcont_any _ _ _ _).mono ?_); rintro e w' ⟨rfl, rfl⟩)
  go_ret2
  exact ⟨rfl, 0, by rw [World.drewN_zero]⟩
set_option maxHeartbeats 2000000 in
set_option maxRecDepth 100000 in
theorem zd_b2 (s : ByteArray) (i b0 b1 b2 b3 n : Nat) (hs : s.size ≤ 1048576) (hn : n + i = s.size) (h0 : i < s.size) (hg0 : (s[i].toNat : Int) = (b0 : Nat)) (bb0 : b0 < 256) (h1 : i + 1 < s.size) (hg1 : (s[i + 1].toNat : Int) = (b1 : Nat)) (bb1 : b1 < 256) (q1 : 194 ≤ b0) (q2 : b0 ≤ 223) (q4 : 128 ≤ b1) (q5 : b1 ≤ 191) (w : World) :
    Calls Tryd.prog 18 #[.string s, .int .i64 (i : Int)] w (ZdPost ((b0 % 32) * 64 + b1 % 64) 2 w) := by
  have hwn : IntKind.i64.wrap ((s.size : Int) - (i : Int)) = (n : Int) := by rw [IntKind.wrap_i64]; omega
  have hw1 : IntKind.i64.wrap ((i : Int) + 1) = ((i + 1 : Nat) : Int) := by rw [IntKind.wrap_i64]; omega
  have t1 : ¬ ((b0 : Int) < 128) := by omega
  have t2 : (194 : Int) ≤ (b0 : Int) := by omega
  have t3 : (b0 : Int) ≤ 223 := by omega
  have t4 : (2 : Int) ≤ (n : Int) := by omega
  have rb1 : inR (b1 : Int) 128 191 = true := by unfold inR; simp; omega
  go_enter Tryd.func18, Tryd.ntmps18
  go_wp2_with (go_at_call 23; (with_reducible refine (zcont_any _ _ _ _).mono ?_); rintro e w' ⟨rfl, rfl⟩)
  go_ret2
  exact ⟨rfl, 0, by rw [World.drewN_zero]⟩
set_option maxHeartbeats 2000000 in
set_option maxRecDepth 100000 in
theorem zd_c0x (s : ByteArray) (i b0 b1 b2 b3 n : Nat) (hs : s.size ≤ 1048576) (hn : n + i = s.size) (h0 : i < s.size) (hg0 : (s[i].toNat : Int) = (b0 : Nat)) (bb0 : b0 < 256) (q1 : 224 ≤ b0) (q2 : b0 ≤ 239) (q3 : b0 = 224) (q5 : n < 3) (w : World) :
    Calls Tryd.prog 18 #[.string s, .int .i64 (i : Int)] w (ZdPost 65533 1 w) := by
  have hwn : IntKind.i64.wrap ((s.size : Int) - (i : Int)) = (n : Int) := by rw [IntKind.wrap_i64]; omega
  have t1 : ¬ ((b0 : Int) < 128) := by omega
  have t2 : (194 : Int) ≤ (b0 : Int) := by omega
  have t3 : ¬ (b0 : Int) ≤ 223 := by omega
  have t5 : (224 : Int) ≤ (b0 : Int) := by omega
  have t6 : (b0 : Int) ≤ 239 := by omega
  have e224 : ((b0 : Int) == 224) = true := by (rw [beq_iff_eq]; omega)
  have e237 : ((b0 : Int) == 237) = false := by (rw [beq_eq_false_iff_ne]; omega)
  have t4 : ¬ (3 : Int) ≤ (n : Int) := by omega
  go_enter Tryd.func18, Tryd.ntmps18
  go_wp2_with (go_at_call 23; (with_reducible refine (zcont_any _ _ _ _).mono ?_); rintro e w' ⟨rfl, rfl⟩)
  go_ret2
  exact ⟨rfl, 0, by rw [World.drewN_zero]⟩
set_option maxHeartbeats 2000000 in
set_option maxRecDepth 100000 in
theorem zd_c1x (s : ByteArray) (i b0 b1 b2 b3 n : Nat) (hs : s.size ≤ 1048576) (hn : n + i = s.size) (h0 : i < s.size) (hg0 : (s[i].toNat : Int) = (b0 : Nat)) (bb0 : b0 < 256) (h1 : i + 1 < s.size) (hg1 : (s[i + 1].toNat : Int) = (b1 : Nat)) (bb1 : b1 < 256) (h2 : i + 2 < s.size) (hg2 : (s[i + 2].toNat : Int) = (b2 : Nat)) (bb2 : b2 < 256) (q1 : 224 ≤ b0) (q2 : b0 ≤ 239) (q3 : b0 = 224) (q5 : 3 ≤ n) (q6 : ¬ (160 ≤ b1 ∧ b1 ≤ 191)) (w : World) :
    Calls Tryd.prog 18 #[.string s, .int .i64 (i : Int)] w (ZdPost 65533 1 w) := by
  have hwn : IntKind.i64.wrap ((s.size : Int) - (i : Int)) = (n : Int) := by rw [IntKind.wrap_i64]; omega
  have hw1 : IntKind.i64.wrap ((i : Int) + 1) = ((i + 1 : Nat) : Int) := by rw [IntKind.wrap_i64]; omega
  have hw2 : IntKind.i64.wrap ((i : Int) + 2) = ((i + 2 : Nat) : Int) := by rw [IntKind.wrap_i64]; omega
  have t1 : ¬ ((b0 : Int) < 128) := by omega
  have t2 : (194 : Int) ≤ (b0 : Int) := by omega
  have t3 : ¬ (b0 : Int) ≤ 223 := by omega
  have t5 : (224 : Int) ≤ (b0 : Int) := by omega
  have t6 : (b0 : Int) ≤ 239 := by omega
  have e224 : ((b0 : Int) == 224) = true := by (rw [beq_iff_eq]; omega)
  have e237 : ((b0 : Int) == 237) = false := by (rw [beq_eq_false_iff_ne]; omega)
  have t4 : (3 : Int) ≤ (n : Int) := by omega
  have rb1 : inR (b1 : Int) 160 191 = false := by unfold inR; simp; omega
  go_enter Tryd.func18, Tryd.ntmps18
  go_wp2_with (go_at_call 23; (with_reducible refine (zcont_any _ _ _ _).mono ?_); rintro e w' ⟨rfl, rfl⟩)
  go_ret2
  exact ⟨rfl, 0, by rw [World.drewN_zero]⟩
set_option maxHeartbeats 2000000 in
set_option maxRecDepth 100000 in
theorem zd_c2x (s : ByteArray) (i b0 b1 b2 b3 n : Nat) (hs : s.size ≤ 1048576) (hn : n + i = s.size) (h0 : i < s.size) (hg0 : (s[i].toNat : Int) = (b0 : Nat)) (bb0 : b0 < 256) (h1 : i + 1 < s.size) (hg1 : (s[i + 1].toNat : Int) = (b1 : Nat)) (bb1 : b1 < 256) (h2 : i + 2 < s.size) (hg2 : (s[i + 2].toNat : Int) = (b2 : Nat)) (bb2 : b2 < 256) (q1 : 224 ≤ b0) (q2 : b0 ≤ 239) (q3 : b0 = 224) (q5 : 3 ≤ n) (q6 : 160 ≤ b1) (q7 : b1 ≤ 191) (q8 : ¬ (128 ≤ b2 ∧ b2 ≤ 191)) (w : World) :
    Calls Tryd.prog 18 #[.string s, .int .i64 (i : Int)] w (ZdPost 65533 1 w) := by
  have hwn : IntKind.i64.wrap ((s.size : Int) - (i : Int)) = (n : Int) := by rw [IntKind.wrap_i64]; omega
  have hw1 : IntKind.i64.wrap ((i : Int) + 1) = ((i + 1 : Nat) : Int) := by rw [IntKind.wrap_i64]; omega
  have hw2 : IntKind.i64.wrap ((i : Int) + 2) = ((i + 2 : Nat) : Int) := by rw [IntKind.wrap_i64]; omega
  have t1 : ¬ ((b0 : Int) < 128) := by omega
  have t2 : (194 : Int) ≤ (b0 : Int) := by omega
  have t3 : ¬ (b0 : Int) ≤ 223 := by omega
  have t5 : (224 : Int) ≤ (b0 : Int) := by omega
  have t6 : (b0 : Int) ≤ 239 := by omega
  have e224 : ((b0 : Int) == 224) = true := by (rw [beq_iff_eq]; omega)
  have e237 : ((b0 : Int) == 237) = false := by (rw [beq_eq_false_iff_ne]; omega)
  have t4 : (3 : Int) ≤ (n : Int) := by omega
  have rb1 : inR (b1 : Int) 160 191 = true := by unfold inR; simp; omega
  have rb2 : inR (b2 : Int) 128 191 = false := by unfold inR; simp; omega
  go_enter Tryd.func18, Tryd.ntmps18
  go_wp2_with (go_at_call 23; (with_reducible refine (zcont_any _ _ _ _).mono ?_); rintro e w' ⟨rfl, rfl⟩)
  go_ret2
  exact ⟨rfl, 0, by rw [World.drewN_zero]⟩
set_option maxHeartbeats 2000000 in
set_option maxRecDepth 100000 in
theorem zd_c3x (s : ByteArray) (i b0 b1 b2 b3 n : Nat) (hs : s.size ≤ 1048576) (hn : n + i = s.size) (h0 : i < s.size) (hg0 : (s[i].toNat : Int) = (b0 : Nat)) (bb0 : b0 < 256) (h1 : i + 1 < s.size) (hg1 : (s[i + 1].toNat : Int) = (b1 : Nat)) (bb1 : b1 < 256) (h2 : i + 2 < s.size) (hg2 : (s[i + 2].toNat : Int) = (b2 : Nat)) (bb2 : b2 < 256) (q1 : 224 ≤ b0) (q2 : b0 ≤ 239) (q3 : b0 = 224) (q5 : 3 ≤ n) (q6 : 160 ≤ b1) (q7 : b1 ≤ 191) (q8 : 128 ≤ b2) (q9 : b2 ≤ 191) (w : World) :
    Calls Tryd.prog 18 #[.string s, .int .i64 (i : Int)] w (ZdPost ((b0 % 16) * 4096 + (b1 % 64) * 64 + b2 % 64) 3 w) := by
  have hwn : IntKind.i64.wrap ((s.size : Int) - (i : Int)) = (n : Int) := by rw [IntKind.wrap_i64]; omega
  have hw1 : IntKind.i64.wrap ((i : Int) + 1) = ((i + 1 : Nat) : Int) := by rw [IntKind.wrap_i64]; omega
  have hw2 : IntKind.i64.wrap ((i : Int) + 2) = ((i + 2 : Nat) : Int) := by rw [IntKind.wrap_i64]; omega
  have t1 : ¬ ((b0 : Int) < 128) := by omega
  have t2 : (194 : Int) ≤ (b0 : Int) := by omega
  have t3 : ¬ (b0 : Int) ≤ 223 := by omega
  have t5 : (224 : Int) ≤ (b0 : Int) := by omega
  have t6 : (b0 : Int) ≤ 239 := by omega
  have e224 : ((b0 : Int) == 224) = true := by (rw [beq_iff_eq]; omega)
  have e237 : ((b0 : Int) == 237) = false := by (rw [beq_eq_false_iff_ne]; omega)
  have t4 : (3 : Int) ≤ (n : Int) := by omega
  have rb1 : inR (b1 : Int) 160 191 = true := by unfold inR; simp; omega
  have rb2 : inR (b2 : Int) 128 191 = true := by unfold inR; simp; omega
  go_enter Tryd.func18, Tryd.ntmps18
  go_upto_region 17 with (go_at_call 23; (with_reducible refine (zcont_any _ _ _ _).mono ?_); rintro e w' ⟨rfl, rfl⟩)
  go_region
  all_goals (try go_wp2)
  go_ret2
  refine ⟨congrArg (fun v : Int => Ending.returned (.tuple #[.int .i32 v, .int .i64 3])) ?_, 1, by rw [World.drew_is_drewN]⟩
  omega
set_option maxHeartbeats 2000000 in
set_option maxRecDepth 100000 in
theorem zd_c0y (s : ByteArray) (i b0 b1 b2 b3 n : Nat) (hs : s.size ≤ 1048576) (hn : n + i = s.size) (h0 : i < s.size) (hg0 : (s[i].toNat : Int) = (b0 : Nat)) (bb0 : b0 < 256) (q1 : 224 ≤ b0) (q2 : b0 ≤ 239) (q3 : b0 = 237) (q5 : n < 3) (w : World) :
    Calls Tryd.prog 18 #[.string s, .int .i64 (i : Int)] w (ZdPost 65533 1 w) := by
  have hwn : IntKind.i64.wrap ((s.size : Int) - (i : Int)) = (n : Int) := by rw [IntKind.wrap_i64]; omega
  have t1 : ¬ ((b0 : Int) < 128) := by omega
  have t2 : (194 : Int) ≤ (b0 : Int) := by omega
  have t3 : ¬ (b0 : Int) ≤ 223 := by omega
  have t5 : (224 : Int) ≤ (b0 : Int) := by omega
  have t6 : (b0 : Int) ≤ 239 := by omega
  have e224 : ((b0 : Int) == 224) = false := by (rw [beq_eq_false_iff_ne]; omega)
  have e237 : ((b0 : Int) == 237) = true := by (rw [beq_iff_eq]; omega)
  have t4 : ¬ (3 : Int) ≤ (n : Int) := by omega
  go_enter Tryd.func18, Tryd.ntmps18
  go_wp2_with (go_at_call 23; (with_reducible refine (zcont_any _ _ _ _).mono ?_); rintro e w' ⟨rfl, rfl⟩)
  go_ret2
  exact ⟨rfl, 0, by rw [World.drewN_zero]⟩
set_option maxHeartbeats 2000000 in
set_option maxRecDepth 100000 in
theorem zd_c1y (s : ByteArray) (i b0 b1 b2 b3 n : Nat) (hs : s.size ≤ 1048576) (hn : n + i = s.size) (h0 : i < s.size) (hg0 : (s[i].toNat : Int) = (b0 : Nat)) (bb0 : b0 < 256) (h1 : i + 1 < s.size) (hg1 : (s[i + 1].toNat : Int) = (b1 : Nat)) (bb1 : b1 < 256) (h2 : i + 2 < s.size) (hg2 : (s[i + 2].toNat : Int) = (b2 : Nat)) (bb2 : b2 < 256) (q1 : 224 ≤ b0) (q2 : b0 ≤ 239) (q3 : b0 = 237) (q5 : 3 ≤ n) (q6 : ¬ (128 ≤ b1 ∧ b1 ≤ 159)) (w : World) :
    Calls Tryd.prog 18 #[.string s, .int .i64 (i : Int)] w (ZdPost 65533 1 w) := by
  have hwn : IntKind.i64.wrap ((s.size : Int) - (i : Int)) = (n : Int) := by rw [IntKind.wrap_i64]; omega
  have hw1 : IntKind.i64.wrap ((i : Int) + 1) = ((i + 1 : Nat) : Int) := by rw [IntKind.wrap_i64]; omega
  have hw2 : IntKind.i64.wrap ((i : Int) + 2) = ((i + 2 : Nat) : Int) := by rw [IntKind.wrap_i64]; omega
  have t1 : ¬ ((b0 : Int) < 128) := by omega
  have t2 : (194 : Int) ≤ (b0 : Int) := by omega
  have t3 : ¬ (b0 : Int) ≤ 223 := by omega
  have t5 : (224 : Int) ≤ (b0 : Int) := by omega
  have t6 : (b0 : Int) ≤ 239 := by omega
  have e224 : ((b0 : Int) == 224) = false := by (rw [beq_eq_false_iff_ne]; omega)
  have e237 : ((b0 : Int) == 237) = true := by (rw [beq_iff_eq]; omega)
  have t4 : (3 : Int) ≤ (n : Int) := by omega
  have rb1 : inR (b1 : Int) 128 159 = false := by unfold inR; simp; omega
  go_enter Tryd.func18, Tryd.ntmps18
  go_wp2_with (go_at_call 23; (with_reducible refine (zcont_any _ _ _ _).mono ?_); rintro e w' ⟨rfl, rfl⟩)
  go_ret2
  exact ⟨rfl, 0, by rw [World.drewN_zero]⟩
set_option maxHeartbeats 2000000 in
set_option maxRecDepth 100000 in
theorem zd_c2y (s : ByteArray) (i b0 b1 b2 b3 n : Nat) (hs : s.size ≤ 1048576) (hn : n + i = s.size) (h0 : i < s.size) (hg0 : (s[i].toNat : Int) = (b0 : Nat)) (bb0 : b0 < 256) (h1 : i + 1 < s.size) (hg1 : (s[i + 1].toNat : Int) = (b1 : Nat)) (bb1 : b1 < 256) (h2 : i + 2 < s.size) (hg2 : (s[i + 2].toNat : Int) = (b2 : Nat)) (bb2 : b2 < 256) (q1 : 224 ≤ b0) (q2 : b0 ≤ 239) (q3 : b0 = 237) (q5 : 3 ≤ n) (q6 : 128 ≤ b1) (q7 : b1 ≤ 159) (q8 : ¬ (128 ≤ b2 ∧ b2 ≤ 191)) (w : World) :
    Calls Tryd.prog 18 #[.string s, .int .i64 (i : Int)] w (ZdPost 65533 1 w) := by
  have hwn : IntKind.i64.wrap ((s.size : Int) - (i : Int)) = (n : Int) := by rw [IntKind.wrap_i64]; omega
  have hw1 : IntKind.i64.wrap ((i : Int) + 1) = ((i + 1 : Nat) : Int) := by rw [IntKind.wrap_i64]; omega
  have hw2 : IntKind.i64.wrap ((i : Int) + 2) = ((i + 2 : Nat) : Int) := by rw [IntKind.wrap_i64]; omega
  have t1 : ¬ ((b0 : Int) < 128) := by omega
  have t2 : (194 : Int) ≤ (b0 : Int) := by omega
  have t3 : ¬ (b0 : Int) ≤ 223 := by omega
  have t5 : (224 : Int) ≤ (b0 : Int) := by omega
  have t6 : (b0 : Int) ≤ 239 := by omega
  have e224 : ((b0 : Int) == 224) = false := by (rw [beq_eq_false_iff_ne]; omega)
  have e237 : ((b0 : Int) == 237) = true := by (rw [beq_iff_eq]; omega)
  have t4 : (3 : Int) ≤ (n : Int) := by omega
  have rb1 : inR (b1 : Int) 128 159 = true := by unfold inR; simp; omega
  have rb2 : inR (b2 : Int) 128 191 = false := by unfold inR; simp; omega
  go_enter Tryd.func18, Tryd.ntmps18
  go_wp2_with (go_at_call 23; (with_reducible refine (zcont_any _ _ _ _).mono ?_); rintro e w' ⟨rfl, rfl⟩)
  go_ret2
  exact ⟨rfl, 0, by rw [World.drewN_zero]⟩
set_option maxHeartbeats 2000000 in
set_option maxRecDepth 100000 in
theorem zd_c3y (s : ByteArray) (i b0 b1 b2 b3 n : Nat) (hs : s.size ≤ 1048576) (hn : n + i = s.size) (h0 : i < s.size) (hg0 : (s[i].toNat : Int) = (b0 : Nat)) (bb0 : b0 < 256) (h1 : i + 1 < s.size) (hg1 : (s[i + 1].toNat : Int) = (b1 : Nat)) (bb1 : b1 < 256) (h2 : i + 2 < s.size) (hg2 : (s[i + 2].toNat : Int) = (b2 : Nat)) (bb2 : b2 < 256) (q1 : 224 ≤ b0) (q2 : b0 ≤ 239) (q3 : b0 = 237) (q5 : 3 ≤ n) (q6 : 128 ≤ b1) (q7 : b1 ≤ 159) (q8 : 128 ≤ b2) (q9 : b2 ≤ 191) (w : World) :
    Calls Tryd.prog 18 #[.string s, .int .i64 (i : Int)] w (ZdPost ((b0 % 16) * 4096 + (b1 % 64) * 64 + b2 % 64) 3 w) := by
  have hwn : IntKind.i64.wrap ((s.size : Int) - (i : Int)) = (n : Int) := by rw [IntKind.wrap_i64]; omega
  have hw1 : IntKind.i64.wrap ((i : Int) + 1) = ((i + 1 : Nat) : Int) := by rw [IntKind.wrap_i64]; omega
  have hw2 : IntKind.i64.wrap ((i : Int) + 2) = ((i + 2 : Nat) : Int) := by rw [IntKind.wrap_i64]; omega
  have t1 : ¬ ((b0 : Int) < 128) := by omega
  have t2 : (194 : Int) ≤ (b0 : Int) := by omega
  have t3 : ¬ (b0 : Int) ≤ 223 := by omega
  have t5 : (224 : Int) ≤ (b0 : Int) := by omega
  have t6 : (b0 : Int) ≤ 239 := by omega
  have e224 : ((b0 : Int) == 224) = false := by (rw [beq_eq_false_iff_ne]; omega)
  have e237 : ((b0 : Int) == 237) = true := by (rw [beq_iff_eq]; omega)
  have t4 : (3 : Int) ≤ (n : Int) := by omega
  have rb1 : inR (b1 : Int) 128 159 = true := by unfold inR; simp; omega
  have rb2 : inR (b2 : Int) 128 191 = true := by unfold inR; simp; omega
  go_enter Tryd.func18, Tryd.ntmps18
  go_upto_region 17 with (go_at_call 23; (with_reducible refine (zcont_any _ _ _ _).mono ?_); rintro e w' ⟨rfl, rfl⟩)
  go_region
  all_goals (try go_wp2)
  go_ret2
  refine ⟨congrArg (fun v : Int => Ending.returned (.tuple #[.int .i32 v, .int .i64 3])) ?_, 1, by rw [World.drew_is_drewN]⟩
  omega
set_option maxHeartbeats 2000000 in
set_option maxRecDepth 100000 in
theorem zd_c0z (s : ByteArray) (i b0 b1 b2 b3 n : Nat) (hs : s.size ≤ 1048576) (hn : n + i = s.size) (h0 : i < s.size) (hg0 : (s[i].toNat : Int) = (b0 : Nat)) (bb0 : b0 < 256) (q1 : 224 ≤ b0) (q2 : b0 ≤ 239) (q3 : b0 ≠ 224) (q4 : b0 ≠ 237) (q5 : n < 3) (w : World) :
    Calls Tryd.prog 18 #[.string s, .int .i64 (i : Int)] w (ZdPost 65533 1 w) := by
  have hwn : IntKind.i64.wrap ((s.size : Int) - (i : Int)) = (n : Int) := by rw [IntKind.wrap_i64]; omega
  have t1 : ¬ ((b0 : Int) < 128) := by omega
  have t2 : (194 : Int) ≤ (b0 : Int) := by omega
  have t3 : ¬ (b0 : Int) ≤ 223 := by omega
  have t5 : (224 : Int) ≤ (b0 : Int) := by omega
  have t6 : (b0 : Int) ≤ 239 := by omega
  have e224 : ((b0 : Int) == 224) = false := by (rw [beq_eq_false_iff_ne]; omega)
  have e237 : ((b0 : Int) == 237) = false := by (rw [beq_eq_false_iff_ne]; omega)
  have t4 : ¬ (3 : Int) ≤ (n : Int) := by omega
  go_enter Tryd.func18, Tryd.ntmps18
  go_wp2_with (go_at_call 23; (with_reducible refine (zcont_any _ _ _ _).mono ?_); rintro e w' ⟨rfl, rfl⟩)
  go_ret2
  exact ⟨rfl, 0, by rw [World.drewN_zero]⟩
set_option maxHeartbeats 2000000 in
set_option maxRecDepth 100000 in
theorem zd_c1z (s : ByteArray) (i b0 b1 b2 b3 n : Nat) (hs : s.size ≤ 1048576) (hn : n + i = s.size) (h0 : i < s.size) (hg0 : (s[i].toNat : Int) = (b0 : Nat)) (bb0 : b0 < 256) (h1 : i + 1 < s.size) (hg1 : (s[i + 1].toNat : Int) = (b1 : Nat)) (bb1 : b1 < 256) (h2 : i + 2 < s.size) (hg2 : (s[i + 2].toNat : Int) = (b2 : Nat)) (bb2 : b2 < 256) (q1 : 224 ≤ b0) (q2 : b0 ≤ 239) (q3 : b0 ≠ 224) (q4 : b0 ≠ 237) (q5 : 3 ≤ n) (q6 : ¬ (128 ≤ b1 ∧ b1 ≤ 191)) (w : World) :
    Calls Tryd.prog 18 #[.string s, .int .i64 (i : Int)] w (ZdPost 65533 1 w) := by
  have hwn : IntKind.i64.wrap ((s.size : Int) - (i : Int)) = (n : Int) := by rw [IntKind.wrap_i64]; omega
  have hw1 : IntKind.i64.wrap ((i : Int) + 1) = ((i + 1 : Nat) : Int) := by rw [IntKind.wrap_i64]; omega
  have hw2 : IntKind.i64.wrap ((i : Int) + 2) = ((i + 2 : Nat) : Int) := by rw [IntKind.wrap_i64]; omega
  have t1 : ¬ ((b0 : Int) < 128) := by omega
  have t2 : (194 : Int) ≤ (b0 : Int) := by omega
  have t3 : ¬ (b0 : Int) ≤ 223 := by omega
  have t5 : (224 : Int) ≤ (b0 : Int) := by omega
  have t6 : (b0 : Int) ≤ 239 := by omega
  have e224 : ((b0 : Int) == 224) = false := by (rw [beq_eq_false_iff_ne]; omega)
  have e237 : ((b0 : Int) == 237) = false := by (rw [beq_eq_false_iff_ne]; omega)
  have t4 : (3 : Int) ≤ (n : Int) := by omega
  have rb1 : inR (b1 : Int) 128 191 = false := by unfold inR; simp; omega
  go_enter Tryd.func18, Tryd.ntmps18
  go_wp2_with (go_at_call 23; (with_reducible refine (zcont_any _ _ _ _).mono ?_); rintro e w' ⟨rfl, rfl⟩)
  go_ret2
  exact ⟨rfl, 0, by rw [World.drewN_zero]⟩
set_option maxHeartbeats 2000000 in
set_option maxRecDepth 100000 in
theorem zd_c2z (s : ByteArray) (i b0 b1 b2 b3 n : Nat) (hs : s.size ≤ 1048576) (hn : n + i = s.size) (h0 : i < s.size) (hg0 : (s[i].toNat : Int) = (b0 : Nat)) (bb0 : b0 < 256) (h1 : i + 1 < s.size) (hg1 : (s[i + 1].toNat : Int) = (b1 : Nat)) (bb1 : b1 < 256) (h2 : i + 2 < s.size) (hg2 : (s[i + 2].toNat : Int) = (b2 : Nat)) (bb2 : b2 < 256) (q1 : 224 ≤ b0) (q2 : b0 ≤ 239) (q3 : b0 ≠ 224) (q4 : b0 ≠ 237) (q5 : 3 ≤ n) (q6 : 128 ≤ b1) (q7 : b1 ≤ 191) (q8 : ¬ (128 ≤ b2 ∧ b2 ≤ 191)) (w : World) :
    Calls Tryd.prog 18 #[.string s, .int .i64 (i : Int)] w (ZdPost 65533 1 w) := by
  have hwn : IntKind.i64.wrap ((s.size : Int) - (i : Int)) = (n : Int) := by rw [IntKind.wrap_i64]; omega
  have hw1 : IntKind.i64.wrap ((i : Int) + 1) = ((i + 1 : Nat) : Int) := by rw [IntKind.wrap_i64]; omega
  have hw2 : IntKind.i64.wrap ((i : Int) + 2) = ((i + 2 : Nat) : Int) := by rw [IntKind.wrap_i64]; omega
  have t1 : ¬ ((b0 : Int) < 128) := by omega
  have t2 : (194 : Int) ≤ (b0 : Int) := by omega
  have t3 : ¬ (b0 : Int) ≤ 223 := by omega
  have t5 : (224 : Int) ≤ (b0 : Int) := by omega
  have t6 : (b0 : Int) ≤ 239 := by omega
  have e224 : ((b0 : Int) == 224) = false := by (rw [beq_eq_false_iff_ne]; omega)
  have e237 : ((b0 : Int) == 237) = false := by (rw [beq_eq_false_iff_ne]; omega)
  have t4 : (3 : Int) ≤ (n : Int) := by omega
  have rb1 : inR (b1 : Int) 128 191 = true := by unfold inR; simp; omega
  have rb2 : inR (b2 : Int) 128 191 = false := by unfold inR; simp; omega
  go_enter Tryd.func18, Tryd.ntmps18
  go_wp2_with (go_at_call 23; (with_reducible refine (zcont_any _ _ _ _).mono ?_); rintro e w' ⟨rfl, rfl⟩)
  go_ret2
  exact ⟨rfl, 0, by rw [World.drewN_zero]⟩
set_option maxHeartbeats 2000000 in
set_option maxRecDepth 100000 in
theorem zd_c3z (s : ByteArray) (i b0 b1 b2 b3 n : Nat) (hs : s.size ≤ 1048576) (hn : n + i = s.size) (h0 : i < s.size) (hg0 : (s[i].toNat : Int) = (b0 : Nat)) (bb0 : b0 < 256) (h1 : i + 1 < s.size) (hg1 : (s[i + 1].toNat : Int) = (b1 : Nat)) (bb1 : b1 < 256) (h2 : i + 2 < s.size) (hg2 : (s[i + 2].toNat : Int) = (b2 : Nat)) (bb2 : b2 < 256) (q1 : 224 ≤ b0) (q2 : b0 ≤ 239) (q3 : b0 ≠ 224) (q4 : b0 ≠ 237) (q5 : 3 ≤ n) (q6 : 128 ≤ b1) (q7 : b1 ≤ 191) (q8 : 128 ≤ b2) (q9 : b2 ≤ 191) (w : World) :
    Calls Tryd.prog 18 #[.string s, .int .i64 (i : Int)] w (ZdPost ((b0 % 16) * 4096 + (b1 % 64) * 64 + b2 % 64) 3 w) := by
  have hwn : IntKind.i64.wrap ((s.size : Int) - (i : Int)) = (n : Int) := by rw [IntKind.wrap_i64]; omega
  have hw1 : IntKind.i64.wrap ((i : Int) + 1) = ((i + 1 : Nat) : Int) := by rw [IntKind.wrap_i64]; omega
  have hw2 : IntKind.i64.wrap ((i : Int) + 2) = ((i + 2 : Nat) : Int) := by rw [IntKind.wrap_i64]; omega
  have t1 : ¬ ((b0 : Int) < 128) := by omega
  have t2 : (194 : Int) ≤ (b0 : Int) := by omega
  have t3 : ¬ (b0 : Int) ≤ 223 := by omega
  have t5 : (224 : Int) ≤ (b0 : Int) := by omega
  have t6 : (b0 : Int) ≤ 239 := by omega
  have e224 : ((b0 : Int) == 224) = false := by (rw [beq_eq_false_iff_ne]; omega)
  have e237 : ((b0 : Int) == 237) = false := by (rw [beq_eq_false_iff_ne]; omega)
  have t4 : (3 : Int) ≤ (n : Int) := by omega
  have rb1 : inR (b1 : Int) 128 191 = true := by unfold inR; simp; omega
  have rb2 : inR (b2 : Int) 128 191 = true := by unfold inR; simp; omega
  go_enter Tryd.func18, Tryd.ntmps18
  go_upto_region 17 with (go_at_call 23; (with_reducible refine (zcont_any _ _ _ _).mono ?_); rintro e w' ⟨rfl, rfl⟩)
  go_region
  all_goals (try go_wp2)
  go_ret2
  refine ⟨congrArg (fun v : Int => Ending.returned (.tuple #[.int .i32 v, .int .i64 3])) ?_, 1, by rw [World.drew_is_drewN]⟩
  omega
set_option maxHeartbeats 2000000 in
set_option maxRecDepth 100000 in
theorem zd_d0x (s : ByteArray) (i b0 b1 b2 b3 n : Nat) (hs : s.size ≤ 1048576) (hn : n + i = s.size) (h0 : i < s.size) (hg0 : (s[i].toNat : Int) = (b0 : Nat)) (bb0 : b0 < 256) (q1 : 240 ≤ b0) (q2 : b0 ≤ 244) (q3 : b0 = 240) (q5 : n < 4) (w : World) :
    Calls Tryd.prog 18 #[.string s, .int .i64 (i : Int)] w (ZdPost 65533 1 w) := by
  have hwn : IntKind.i64.wrap ((s.size : Int) - (i : Int)) = (n : Int) := by rw [IntKind.wrap_i64]; omega
  have t1 : ¬ ((b0 : Int) < 128) := by omega
  have t2 : (194 : Int) ≤ (b0 : Int) := by omega
  have t3 : ¬ (b0 : Int) ≤ 223 := by omega
  have t5 : (224 : Int) ≤ (b0 : Int) := by omega
  have t6 : ¬ (b0 : Int) ≤ 239 := by omega
  have t7 : (240 : Int) ≤ (b0 : Int) := by omega
  have t8 : (b0 : Int) ≤ 244 := by omega
  have e240 : ((b0 : Int) == 240) = true := by (rw [beq_iff_eq]; omega)
  have e244 : ((b0 : Int) == 244) = false := by (rw [beq_eq_false_iff_ne]; omega)
  have t4 : ¬ (4 : Int) ≤ (n : Int) := by omega
  go_enter Tryd.func18, Tryd.ntmps18
  go_wp2_with (go_at_call 23; (with_reducible refine (zcont_any _ _ _ _).mono ?_); rintro e w' ⟨rfl, rfl⟩)
  go_ret2
  exact ⟨rfl, 0, by rw [World.drewN_zero]⟩
set_option maxHeartbeats 2000000 in
set_option maxRecDepth 100000 in
theorem zd_d1x (s : ByteArray) (i b0 b1 b2 b3 n : Nat) (hs : s.size ≤ 1048576) (hn : n + i = s.size) (h0 : i < s.size) (hg0 : (s[i].toNat : Int) = (b0 : Nat)) (bb0 : b0 < 256) (h1 : i + 1 < s.size) (hg1 : (s[i + 1].toNat : Int) = (b1 : Nat)) (bb1 : b1 < 256) (h2 : i + 2 < s.size) (hg2 : (s[i + 2].toNat : Int) = (b2 : Nat)) (bb2 : b2 < 256) (h3 : i + 3 < s.size) (hg3 : (s[i + 3].toNat : Int) = (b3 : Nat)) (bb3 : b3 < 256) (q1 : 240 ≤ b0) (q2 : b0 ≤ 244) (q3 : b0 = 240) (q5 : 4 ≤ n) (q6 : ¬ (144 ≤ b1 ∧ b1 ≤ 191)) (w : World) :
    Calls Tryd.prog 18 #[.string s, .int .i64 (i : Int)] w (ZdPost 65533 1 w) := by
  have hwn : IntKind.i64.wrap ((s.size : Int) - (i : Int)) = (n : Int) := by rw [IntKind.wrap_i64]; omega
  have hw1 : IntKind.i64.wrap ((i : Int) + 1) = ((i + 1 : Nat) : Int) := by rw [IntKind.wrap_i64]; omega
  have hw2 : IntKind.i64.wrap ((i : Int) + 2) = ((i + 2 : Nat) : Int) := by rw [IntKind.wrap_i64]; omega
  have hw3 : IntKind.i64.wrap ((i : Int) + 3) = ((i + 3 : Nat) : Int) := by rw [IntKind.wrap_i64]; omega
  have t1 : ¬ ((b0 : Int) < 128) := by omega
  have t2 : (194 : Int) ≤ (b0 : Int) := by omega
  have t3 : ¬ (b0 : Int) ≤ 223 := by omega
  have t5 : (224 : Int) ≤ (b0 : Int) := by omega
  have t6 : ¬ (b0 : Int) ≤ 239 := by omega
  have t7 : (240 : Int) ≤ (b0 : Int) := by omega
  have t8 : (b0 : Int) ≤ 244 := by omega
  have e240 : ((b0 : Int) == 240) = true := by (rw [beq_iff_eq]; omega)
  have e244 : ((b0 : Int) == 244) = false := by (rw [beq_eq_false_iff_ne]; omega)
  have t4 : (4 : Int) ≤ (n : Int) := by omega
  have rb1 : inR (b1 : Int) 144 191 = false := by unfold inR; simp; omega
  go_enter Tryd.func18, Tryd.ntmps18
  go_wp2_with (go_at_call 23; (with_reducible refine (zcont_any _ _ _ _).mono ?_); rintro e w' ⟨rfl, rfl⟩)
  go_ret2
  exact ⟨rfl, 0, by rw [World.drewN_zero]⟩
set_option maxHeartbeats 2000000 in
set_option maxRecDepth 100000 in
theorem zd_d2x (s : ByteArray) (i b0 b1 b2 b3 n : Nat) (hs : s.size ≤ 1048576) (hn : n + i = s.size) (h0 : i < s.size) (hg0 : (s[i].toNat : Int) = (b0 : Nat)) (bb0 : b0 < 256) (h1 : i + 1 < s.size) (hg1 : (s[i + 1].toNat : Int) = (b1 : Nat)) (bb1 : b1 < 256) (h2 : i + 2 < s.size) (hg2 : (s[i + 2].toNat : Int) = (b2 : Nat)) (bb2 : b2 < 256) (h3 : i + 3 < s.size) (hg3 : (s[i + 3].toNat : Int) = (b3 : Nat)) (bb3 : b3 < 256) (q1 : 240 ≤ b0) (q2 : b0 ≤ 244) (q3 : b0 = 240) (q5 : 4 ≤ n) (q6 : 144 ≤ b1) (q7 : b1 ≤ 191) (q8 : ¬ (128 ≤ b2 ∧ b2 ≤ 191)) (w : World) :
    Calls Tryd.prog 18 #[.string s, .int .i64 (i : Int)] w (ZdPost 65533 1 w) := by
  have hwn : IntKind.i64.wrap ((s.size : Int) - (i : Int)) = (n : Int) := by rw [IntKind.wrap_i64]; omega
  have hw1 : IntKind.i64.wrap ((i : Int) + 1) = ((i + 1 : Nat) : Int) := by rw [IntKind.wrap_i64]; omega
  have hw2 : IntKind.i64.wrap ((i : Int) + 2) = ((i + 2 : Nat) : Int) := by rw [IntKind.wrap_i64]; omega
  have hw3 : IntKind.i64.wrap ((i : Int) + 3) = ((i + 3 : Nat) : Int) := by rw [IntKind.wrap_i64]; omega
  have t1 : ¬ ((b0 : Int) < 128) := by omega
  have t2 : (194 : Int) ≤ (b0 : Int) := by omega
  have t3 : ¬ (b0 : Int) ≤ 223 := by omega
  have t5 : (224 : Int) ≤ (b0 : Int) := by omega
  have t6 : ¬ (b0 : Int) ≤ 239 := by omega
  have t7 : (240 : Int) ≤ (b0 : Int) := by omega
  have t8 : (b0 : Int) ≤ 244 := by omega
  have e240 : ((b0 : Int) == 240) = true := by (rw [beq_iff_eq]; omega)
  have e244 : ((b0 : Int) == 244) = false := by (rw [beq_eq_false_iff_ne]; omega)
  have t4 : (4 : Int) ≤ (n : Int) := by omega
  have rb1 : inR (b1 : Int) 144 191 = true := by unfold inR; simp; omega
  have rb2 : inR (b2 : Int) 128 191 = false := by unfold inR; simp; omega
  go_enter Tryd.func18, Tryd.ntmps18
  go_wp2_with (go_at_call 23; (with_reducible refine (zcont_any _ _ _ _).mono ?_); rintro e w' ⟨rfl, rfl⟩)
  go_ret2
  exact ⟨rfl, 0, by rw [World.drewN_zero]⟩
set_option maxHeartbeats 2000000 in
set_option maxRecDepth 100000 in
theorem zd_d3x (s : ByteArray) (i b0 b1 b2 b3 n : Nat) (hs : s.size ≤ 1048576) (hn : n + i = s.size) (h0 : i < s.size) (hg0 : (s[i].toNat : Int) = (b0 : Nat)) (bb0 : b0 < 256) (h1 : i + 1 < s.size) (hg1 : (s[i + 1].toNat : Int) = (b1 : Nat)) (bb1 : b1 < 256) (h2 : i + 2 < s.size) (hg2 : (s[i + 2].toNat : Int) = (b2 : Nat)) (bb2 : b2 < 256) (h3 : i + 3 < s.size) (hg3 : (s[i + 3].toNat : Int) = (b3 : Nat)) (bb3 : b3 < 256) (q1 : 240 ≤ b0) (q2 : b0 ≤ 244) (q3 : b0 = 240) (q5 : 4 ≤ n) (q6 : 144 ≤ b1) (q7 : b1 ≤ 191) (q8 : 128 ≤ b2) (q9 : b2 ≤ 191) (q10 : ¬ (128 ≤ b3 ∧ b3 ≤ 191)) (w : World) :
    Calls Tryd.prog 18 #[.string s, .int .i64 (i : Int)] w (ZdPost 65533 1 w) := by
  have hwn : IntKind.i64.wrap ((s.size : Int) - (i : Int)) = (n : Int) := by rw [IntKind.wrap_i64]; omega
  have hw1 : IntKind.i64.wrap ((i : Int) + 1) = ((i + 1 : Nat) : Int) := by rw [IntKind.wrap_i64]; omega
  have hw2 : IntKind.i64.wrap ((i : Int) + 2) = ((i + 2 : Nat) : Int) := by rw [IntKind.wrap_i64]; omega
  have hw3 : IntKind.i64.wrap ((i : Int) + 3) = ((i + 3 : Nat) : Int) := by rw [IntKind.wrap_i64]; omega
  have t1 : ¬ ((b0 : Int) < 128) := by omega
  have t2 : (194 : Int) ≤ (b0 : Int) := by omega
  have t3 : ¬ (b0 : Int) ≤ 223 := by omega
  have t5 : (224 : Int) ≤ (b0 : Int) := by omega
  have t6 : ¬ (b0 : Int) ≤ 239 := by omega
  have t7 : (240 : Int) ≤ (b0 : Int) := by omega
  have t8 : (b0 : Int) ≤ 244 := by omega
  have e240 : ((b0 : Int) == 240) = true := by (rw [beq_iff_eq]; omega)
  have e244 : ((b0 : Int) == 244) = false := by (rw [beq_eq_false_iff_ne]; omega)
  have t4 : (4 : Int) ≤ (n : Int) := by omega
  have rb1 : inR (b1 : Int) 144 191 = true := by unfold inR; simp; omega
  have rb2 : inR (b2 : Int) 128 191 = true := by unfold inR; simp; omega
  have rb3 : inR (b3 : Int) 128 191 = false := by unfold inR; simp; omega
  go_enter Tryd.func18, Tryd.ntmps18
  go_wp2_with (go_at_call 23; (with_reducible refine (zcont_any _ _ _ _).mono ?_); rintro e w' ⟨rfl, rfl⟩)
  go_ret2
  exact ⟨rfl, 0, by rw [World.drewN_zero]⟩
set_option maxHeartbeats 2000000 in
set_option maxRecDepth 100000 in
theorem zd_d4x (s : ByteArray) (i b0 b1 b2 b3 n : Nat) (hs : s.size ≤ 1048576) (hn : n + i = s.size) (h0 : i < s.size) (hg0 : (s[i].toNat : Int) = (b0 : Nat)) (bb0 : b0 < 256) (h1 : i + 1 < s.size) (hg1 : (s[i + 1].toNat : Int) = (b1 : Nat)) (bb1 : b1 < 256) (h2 : i + 2 < s.size) (hg2 : (s[i + 2].toNat : Int) = (b2 : Nat)) (bb2 : b2 < 256) (h3 : i + 3 < s.size) (hg3 : (s[i + 3].toNat : Int) = (b3 : Nat)) (bb3 : b3 < 256) (q1 : 240 ≤ b0) (q2 : b0 ≤ 244) (q3 : b0 = 240) (q5 : 4 ≤ n) (q6 : 144 ≤ b1) (q7 : b1 ≤ 191) (q8 : 128 ≤ b2) (q9 : b2 ≤ 191) (q10 : 128 ≤ b3) (q11 : b3 ≤ 191) (w : World) :
    Calls Tryd.prog 18 #[.string s, .int .i64 (i : Int)] w (ZdPost ((b0 % 8) * 262144 + (b1 % 64) * 4096 + (b2 % 64) * 64 + b3 % 64) 4 w) := by
  have hwn : IntKind.i64.wrap ((s.size : Int) - (i : Int)) = (n : Int) := by rw [IntKind.wrap_i64]; omega
  have hw1 : IntKind.i64.wrap ((i : Int) + 1) = ((i + 1 : Nat) : Int) := by rw [IntKind.wrap_i64]; omega
  have hw2 : IntKind.i64.wrap ((i : Int) + 2) = ((i + 2 : Nat) : Int) := by rw [IntKind.wrap_i64]; omega
  have hw3 : IntKind.i64.wrap ((i : Int) + 3) = ((i + 3 : Nat) : Int) := by rw [IntKind.wrap_i64]; omega
  have t1 : ¬ ((b0 : Int) < 128) := by omega
  have t2 : (194 : Int) ≤ (b0 : Int) := by omega
  have t3 : ¬ (b0 : Int) ≤ 223 := by omega
  have t5 : (224 : Int) ≤ (b0 : Int) := by omega
  have t6 : ¬ (b0 : Int) ≤ 239 := by omega
  have t7 : (240 : Int) ≤ (b0 : Int) := by omega
  have t8 : (b0 : Int) ≤ 244 := by omega
  have e240 : ((b0 : Int) == 240) = true := by (rw [beq_iff_eq]; omega)
  have e244 : ((b0 : Int) == 244) = false := by (rw [beq_eq_false_iff_ne]; omega)
  have t4 : (4 : Int) ≤ (n : Int) := by omega
  have rb1 : inR (b1 : Int) 144 191 = true := by unfold inR; simp; omega
  have rb2 : inR (b2 : Int) 128 191 = true := by unfold inR; simp; omega
  have rb3 : inR (b3 : Int) 128 191 = true := by unfold inR; simp; omega
  go_enter Tryd.func18, Tryd.ntmps18
  go_upto_region 27 with (go_at_call 23; (with_reducible refine (zcont_any _ _ _ _).mono ?_); rintro e w' ⟨rfl, rfl⟩)
  go_region
  all_goals (try go_wp2)
  go_ret2
  refine ⟨congrArg (fun v : Int => Ending.returned (.tuple #[.int .i32 v, .int .i64 4])) ?_, 1, by rw [World.drew_is_drewN]⟩
  omega
set_option maxHeartbeats 2000000 in
set_option maxRecDepth 100000 in
theorem zd_d0y (s : ByteArray) (i b0 b1 b2 b3 n : Nat) (hs : s.size ≤ 1048576) (hn : n + i = s.size) (h0 : i < s.size) (hg0 : (s[i].toNat : Int) = (b0 : Nat)) (bb0 : b0 < 256) (q1 : 240 ≤ b0) (q2 : b0 ≤ 244) (q3 : b0 = 244) (q5 : n < 4) (w : World) :
    Calls Tryd.prog 18 #[.string s, .int .i64 (i : Int)] w (ZdPost 65533 1 w) := by
  have hwn : IntKind.i64.wrap ((s.size : Int) - (i : Int)) = (n : Int) := by rw [IntKind.wrap_i64]; omega
  have t1 : ¬ ((b0 : Int) < 128) := by omega
  have t2 : (194 : Int) ≤ (b0 : Int) := by omega
  have t3 : ¬ (b0 : Int) ≤ 223 := by omega
  have t5 : (224 : Int) ≤ (b0 : Int) := by omega
  have t6 : ¬ (b0 : Int) ≤ 239 := by omega
  have t7 : (240 : Int) ≤ (b0 : Int) := by omega
  have t8 : (b0 : Int) ≤ 244 := by omega
  have e240 : ((b0 : Int) == 240) = false := by (rw [beq_eq_false_iff_ne]; omega)
  have e244 : ((b0 : Int) == 244) = true := by (rw [beq_iff_eq]; omega)
  have t4 : ¬ (4 : Int) ≤ (n : Int) := by omega
  go_enter Tryd.func18, Tryd.ntmps18
  go_wp2_with (go_at_call 23; (with_reducible refine (zcont_any _ _ _ _).mono ?_); rintro e w' ⟨rfl, rfl⟩)
  go_ret2
  exact ⟨rfl, 0, by rw [World.drewN_zero]⟩
set_option maxHeartbeats 2000000 in
set_option maxRecDepth 100000 in
theorem zd_d1y (s : ByteArray) (i b0 b1 b2 b3 n : Nat) (hs : s.size ≤ 1048576) (hn : n + i = s.size) (h0 : i < s.size) (hg0 : (s[i].toNat : Int) = (b0 : Nat)) (bb0 : b0 < 256) (h1 : i + 1 < s.size) (hg1 : (s[i + 1].toNat : Int) = (b1 : Nat)) (bb1 : b1 < 256) (h2 : i + 2 < s.size) (hg2 : (s[i + 2].toNat : Int) = (b2 : Nat)) (bb2 : b2 < 256) (h3 : i + 3 < s.size) (hg3 : (s[i + 3].toNat : Int) = (b3 : Nat)) (bb3 : b3 < 256) (q1 : 240 ≤ b0) (q2 : b0 ≤ 244) (q3 : b0 = 244) (q5 : 4 ≤ n) (q6 : ¬ (128 ≤ b1 ∧ b1 ≤ 143)) (w : World) :
    Calls Tryd.prog 18 #[.string s, .int .i64 (i : Int)] w (ZdPost 65533 1 w) := by
  have hwn : IntKind.i64.wrap ((s.size : Int) - (i : Int)) = (n : Int) := by rw [IntKind.wrap_i64]; omega
  have hw1 : IntKind.i64.wrap ((i : Int) + 1) = ((i + 1 : Nat) : Int) := by rw [IntKind.wrap_i64]; omega
  have hw2 : IntKind.i64.wrap ((i : Int) + 2) = ((i + 2 : Nat) : Int) := by rw [IntKind.wrap_i64]; omega
  have hw3 : IntKind.i64.wrap ((i : Int) + 3) = ((i + 3 : Nat) : Int) := by rw [IntKind.wrap_i64]; omega
  have t1 : ¬ ((b0 : Int) < 128) := by omega
  have t2 : (194 : Int) ≤ (b0 : Int) := by omega
  have t3 : ¬ (b0 : Int) ≤ 223 := by omega
  have t5 : (224 : Int) ≤ (b0 : Int) := by omega
  have t6 : ¬ (b0 : Int) ≤ 239 := by omega
  have t7 : (240 : Int) ≤ (b0 : Int) := by omega
  have t8 : (b0 : Int) ≤ 244 := by omega
  have e240 : ((b0 : Int) == 240) = false := by (rw [beq_eq_false_iff_ne]; omega)
  have e244 : ((b0 : Int) == 244) = true := by (rw [beq_iff_eq]; omega)
  have t4 : (4 : Int) ≤ (n : Int) := by omega
  have rb1 : inR (b1 : Int) 128 143 = false := by unfold inR; simp; omega
  go_enter Tryd.func18, Tryd.ntmps18
  go_wp2_with (go_at_call 23; (with_reducible refine (zcont_any _ _ _ _).mono ?_); rintro e w' ⟨rfl, rfl⟩)
  go_ret2
  exact ⟨rfl, 0, by rw [World.drewN_zero]⟩
set_option maxHeartbeats 2000000 in
set_option maxRecDepth 100000 in
theorem zd_d2y (s : ByteArray) (i b0 b1 b2 b3 n : Nat) (hs : s.size ≤ 1048576) (hn : n + i = s.size) (h0 : i < s.size) (hg0 : (s[i].toNat : Int) = (b0 : Nat)) (bb0 : b0 < 256) (h1 : i + 1 < s.size) (hg1 : (s[i + 1].toNat : Int) = (b1 : Nat)) (bb1 : b1 < 256) (h2 : i + 2 < s.size) (hg2 : (s[i + 2].toNat : Int) = (b2 : Nat)) (bb2 : b2 < 256) (h3 : i + 3 < s.size) (hg3 : (s[i + 3].toNat : Int) = (b3 : Nat)) (bb3 : b3 < 256) (q1 : 240 ≤ b0) (q2 : b0 ≤ 244) (q3 : b0 = 244) (q5 : 4 ≤ n) (q6 : 128 ≤ b1) (q7 : b1 ≤ 143) (q8 : ¬ (128 ≤ b2 ∧ b2 ≤ 191)) (w : World) :
    Calls Tryd.prog 18 #[.string s, .int .i64 (i : Int)] w (ZdPost 65533 1 w) := by
  have hwn : IntKind.i64.wrap ((s.size : Int) - (i : Int)) = (n : Int) := by rw [IntKind.wrap_i64]; omega
  have hw1 : IntKind.i64.wrap ((i : Int) + 1) = ((i + 1 : Nat) : Int) := by rw [IntKind.wrap_i64]; omega
  have hw2 : IntKind.i64.wrap ((i : Int) + 2) = ((i + 2 : Nat) : Int) := by rw [IntKind.wrap_i64]; omega
  have hw3 : IntKind.i64.wrap ((i : Int) + 3) = ((i + 3 : Nat) : Int) := by rw [IntKind.wrap_i64]; omega
  have t1 : ¬ ((b0 : Int) < 128) := by omega
  have t2 : (194 : Int) ≤ (b0 : Int) := by omega
  have t3 : ¬ (b0 : Int) ≤ 223 := by omega
  have t5 : (224 : Int) ≤ (b0 : Int) := by omega
  have t6 : ¬ (b0 : Int) ≤ 239 := by omega
  have t7 : (240 : Int) ≤ (b0 : Int) := by omega
  have t8 : (b0 : Int) ≤ 244 := by omega
  have e240 : ((b0 : Int) == 240) = false := by (rw [beq_eq_false_iff_ne]; omega)
  have e244 : ((b0 : Int) == 244) = true := by (rw [beq_iff_eq]; omega)
  have t4 : (4 : Int) ≤ (n : Int) := by omega
  have rb1 : inR (b1 : Int) 128 143 = true := by unfold inR; simp; omega
  have rb2 : inR (b2 : Int) 128 191 = false := by unfold inR; simp; omega
  go_enter Tryd.func18, Tryd.ntmps18
  go_wp2_with (go_at_call 23; (with_reducible refine (zcont_any _ _ _ _).mono ?_); rintro e w' ⟨rfl, rfl⟩)
  go_ret2
  exact ⟨rfl, 0, by rw [World.drewN_zero]⟩
set_option maxHeartbeats 2000000 in
set_option maxRecDepth 100000 in
theorem zd_d3y (s : ByteArray) (i b0 b1 b2 b3 n : Nat) (hs : s.size ≤ 1048576) (hn : n + i = s.size) (h0 : i < s.size) (hg0 : (s[i].toNat : Int) = (b0 : Nat)) (bb0 : b0 < 256) (h1 : i + 1 < s.size) (hg1 : (s[i + 1].toNat : Int) = (b1 : Nat)) (bb1 : b1 < 256) (h2 : i + 2 < s.size) (hg2 : (s[i + 2].toNat : Int) = (b2 : Nat)) (bb2 : b2 < 256) (h3 : i + 3 < s.size) (hg3 : (s[i + 3].toNat : Int) = (b3 : Nat)) (bb3 : b3 < 256) (q1 : 240 ≤ b0) (q2 : b0 ≤ 244) (q3 : b0 = 244) (q5 : 4 ≤ n) (q6 : 128 ≤ b1) (q7 : b1 ≤ 143) (q8 : 128 ≤ b2) (q9 : b2 ≤ 191) (q10 : ¬ (128 ≤ b3 ∧ b3 ≤ 191)) (w : World) :
    Calls Tryd.prog 18 #[.string s, .int .i64 (i : Int)] w (ZdPost 65533 1 w) := by
  have hwn : IntKind.i64.wrap ((s.size : Int) - (i : Int)) = (n : Int) := by rw [IntKind.wrap_i64]; omega
  have hw1 : IntKind.i64.wrap ((i : Int) + 1) = ((i + 1 : Nat) : Int) := by rw [IntKind.wrap_i64]; omega
  have hw2 : IntKind.i64.wrap ((i : Int) + 2) = ((i + 2 : Nat) : Int) := by rw [IntKind.wrap_i64]; omega
  have hw3 : IntKind.i64.wrap ((i : Int) + 3) = ((i + 3 : Nat) : Int) := by rw [IntKind.wrap_i64]; omega
  have t1 : ¬ ((b0 : Int) < 128) := by omega
  have t2 : (194 : Int) ≤ (b0 : Int) := by omega
  have t3 : ¬ (b0 : Int) ≤ 223 := by omega
  have t5 : (224 : Int) ≤ (b0 : Int) := by omega
  have t6 : ¬ (b0 : Int) ≤ 239 := by omega
  have t7 : (240 : Int) ≤ (b0 : Int) := by omega
  have t8 : (b0 : Int) ≤ 244 := by omega
  have e240 : ((b0 : Int) == 240) = false := by (rw [beq_eq_false_iff_ne]; omega)
  have e244 : ((b0 : Int) == 244) = true := by (rw [beq_iff_eq]; omega)
  have t4 : (4 : Int) ≤ (n : Int) := by omega
  have rb1 : inR (b1 : Int) 128 143 = true := by unfold inR; simp; omega
  have rb2 : inR (b2 : Int) 128 191 = true := by unfold inR; simp; omega
  have rb3 : inR (b3 : Int) 128 191 = false := by unfold inR; simp; omega
  go_enter Tryd.func18, Tryd.ntmps18
  go_wp2_with (go_at_call 23; (with_reducible refine (zcont_any _ _ _ _).mono ?_); rintro e w' ⟨rfl, rfl⟩)
  go_ret2
  exact ⟨rfl, 0, by rw [World.drewN_zero]⟩
set_option maxHeartbeats 2000000 in
set_option maxRecDepth 100000 in
theorem zd_d4y (s : ByteArray) (i b0 b1 b2 b3 n : Nat) (hs : s.size ≤ 1048576) (hn : n + i = s.size) (h0 : i < s.size) (hg0 : (s[i].toNat : Int) = (b0 : Nat)) (bb0 : b0 < 256) (h1 : i + 1 < s.size) (hg1 : (s[i + 1].toNat : Int) = (b1 : Nat)) (bb1 : b1 < 256) (h2 : i + 2 < s.size) (hg2 : (s[i + 2].toNat : Int) = (b2 : Nat)) (bb2 : b2 < 256) (h3 : i + 3 < s.size) (hg3 : (s[i + 3].toNat : Int) = (b3 : Nat)) (bb3 : b3 < 256) (q1 : 240 ≤ b0) (q2 : b0 ≤ 244) (q3 : b0 = 244) (q5 : 4 ≤ n) (q6 : 128 ≤ b1) (q7 : b1 ≤ 143) (q8 : 128 ≤ b2) (q9 : b2 ≤ 191) (q10 : 128 ≤ b3) (q11 : b3 ≤ 191) (w : World) :
    Calls Tryd.prog 18 #[.string s, .int .i64 (i : Int)] w (ZdPost ((b0 % 8) * 262144 + (b1 % 64) * 4096 + (b2 % 64) * 64 + b3 % 64) 4 w) := by
  have hwn : IntKind.i64.wrap ((s.size : Int) - (i : Int)) = (n : Int) := by rw [IntKind.wrap_i64]; omega
  have hw1 : IntKind.i64.wrap ((i : Int) + 1) = ((i + 1 : Nat) : Int) := by rw [IntKind.wrap_i64]; omega
  have hw2 : IntKind.i64.wrap ((i : Int) + 2) = ((i + 2 : Nat) : Int) := by rw [IntKind.wrap_i64]; omega
  have hw3 : IntKind.i64.wrap ((i : Int) + 3) = ((i + 3 : Nat) : Int) := by rw [IntKind.wrap_i64]; omega
  have t1 : ¬ ((b0 : Int) < 128) := by omega
  have t2 : (194 : Int) ≤ (b0 : Int) := by omega
  have t3 : ¬ (b0 : Int) ≤ 223 := by omega
  have t5 : (224 : Int) ≤ (b0 : Int) := by omega
  have t6 : ¬ (b0 : Int) ≤ 239 := by omega
  have t7 : (240 : Int) ≤ (b0 : Int) := by omega
  have t8 : (b0 : Int) ≤ 244 := by omega
  have e240 : ((b0 : Int) == 240) = false := by (rw [beq_eq_false_iff_ne]; omega)
  have e244 : ((b0 : Int) == 244) = true := by (rw [beq_iff_eq]; omega)
  have t4 : (4 : Int) ≤ (n : Int) := by omega
  have rb1 : inR (b1 : Int) 128 143 = true := by unfold inR; simp; omega
  have rb2 : inR (b2 : Int) 128 191 = true := by unfold inR; simp; omega
  have rb3 : inR (b3 : Int) 128 191 = true := by unfold inR; simp; omega
  go_enter Tryd.func18, Tryd.ntmps18
  go_upto_region 27 with (go_at_call 23; (with_reducible refine (zcont_any _ _ _ _).mono ?_); rintro e w' ⟨rfl, rfl⟩)
  go_region
  all_goals (try go_wp2)
  go_ret2
  refine ⟨congrArg (fun v : Int => Ending.returned (.tuple #[.int .i32 v, .int .i64 4])) ?_, 1, by rw [World.drew_is_drewN]⟩
  omega
set_option maxHeartbeats 2000000 in
set_option maxRecDepth 100000 in
theorem zd_d0z (s : ByteArray) (i b0 b1 b2 b3 n : Nat) (hs : s.size ≤ 1048576) (hn : n + i = s.size) (h0 : i < s.size) (hg0 : (s[i].toNat : Int) = (b0 : Nat)) (bb0 : b0 < 256) (q1 : 240 ≤ b0) (q2 : b0 ≤ 244) (q3 : b0 ≠ 240) (q4 : b0 ≠ 244) (q5 : n < 4) (w : World) :
    Calls Tryd.prog 18 #[.string s, .int .i64 (i : Int)] w (ZdPost 65533 1 w) := by
  have hwn : IntKind.i64.wrap ((s.size : Int) - (i : Int)) = (n : Int) := by rw [IntKind.wrap_i64]; omega
  have t1 : ¬ ((b0 : Int) < 128) := by omega
  have t2 : (194 : Int) ≤ (b0 : Int) := by omega
  have t3 : ¬ (b0 : Int) ≤ 223 := by omega
  have t5 : (224 : Int) ≤ (b0 : Int) := by omega
  have t6 : ¬ (b0 : Int) ≤ 239 := by omega
  have t7 : (240 : Int) ≤ (b0 : Int) := by omega
  have t8 : (b0 : Int) ≤ 244 := by omega
  have e240 : ((b0 : Int) == 240) = false := by (rw [beq_eq_false_iff_ne]; omega)
  have e244 : ((b0 : Int) == 244) = false := by (rw [beq_eq_false_iff_ne]; omega)
  have t4 : ¬ (4 : Int) ≤ (n : Int) := by omega
  go_enter Tryd.func18, Tryd.ntmps18
  go_wp2_with (go_at_call 23; (with_reducible refine (zcont_any _ _ _ _).mono ?_); rintro e w' ⟨rfl, rfl⟩)
  go_ret2
  exact ⟨rfl, 0, by rw [World.drewN_zero]⟩
set_option maxHeartbeats 2000000 in
set_option maxRecDepth 100000 in
theorem zd_d1z (s : ByteArray) (i b0 b1 b2 b3 n : Nat) (hs : s.size ≤ 1048576) (hn : n + i = s.size) (h0 : i < s.size) (hg0 : (s[i].toNat : Int) = (b0 : Nat)) (bb0 : b0 < 256) (h1 : i + 1 < s.size) (hg1 : (s[i + 1].toNat : Int) = (b1 : Nat)) (bb1 : b1 < 256) (h2 : i + 2 < s.size) (hg2 : (s[i + 2].toNat : Int) = (b2 : Nat)) (bb2 : b2 < 256) (h3 : i + 3 < s.size) (hg3 : (s[i + 3].toNat : Int) = (b3 : Nat)) (bb3 : b3 < 256) (q1 : 240 ≤ b0) (q2 : b0 ≤ 244) (q3 : b0 ≠ 240) (q4 : b0 ≠ 244) (q5 : 4 ≤ n) (q6 : ¬ (128 ≤ b1 ∧ b1 ≤ 191)) (w : World) :
    Calls Tryd.prog 18 #[.string s, .int .i64 (i : Int)] w (ZdPost 65533 1 w) := by
  have hwn : IntKind.i64.wrap ((s.size : Int) - (i : Int)) = (n : Int) := by rw [IntKind.wrap_i64]; omega
  have hw1 : IntKind.i64.wrap ((i : Int) + 1) = ((i + 1 : Nat) : Int) := by rw [IntKind.wrap_i64]; omega
  have hw2 : IntKind.i64.wrap ((i : Int) + 2) = ((i + 2 : Nat) : Int) := by rw [IntKind.wrap_i64]; omega
  have hw3 : IntKind.i64.wrap ((i : Int) + 3) = ((i + 3 : Nat) : Int) := by rw [IntKind.wrap_i64]; omega
  have t1 : ¬ ((b0 : Int) < 128) := by omega
  have t2 : (194 : Int) ≤ (b0 : Int) := by omega
  have t3 : ¬ (b0 : Int) ≤ 223 := by omega
  have t5 : (224 : Int) ≤ (b0 : Int) := by omega
  have t6 : ¬ (b0 : Int) ≤ 239 := by omega
  have t7 : (240 : Int) ≤ (b0 : Int) := by omega
  have t8 : (b0 : Int) ≤ 244 := by omega
  have e240 : ((b0 : Int) == 240) = false := by (rw [beq_eq_false_iff_ne]; omega)
  have e244 : ((b0 : Int) == 244) = false := by (rw [beq_eq_false_iff_ne]; omega)
  have t4 : (4 : Int) ≤ (n : Int) := by omega
  have rb1 : inR (b1 : Int) 128 191 = false := by unfold inR; simp; omega
  go_enter Tryd.func18, Tryd.ntmps18
  go_wp2_with (go_at_call 23; (with_reducible refine (zcont_any _ _ _ _).mono ?_); rintro e w' ⟨rfl, rfl⟩)
  go_ret2
  exact ⟨rfl, 0, by rw [World.drewN_zero]⟩
set_option maxHeartbeats 2000000 in
set_option maxRecDepth 100000 in
theorem zd_d2z (s : ByteArray) (i b0 b1 b2 b3 n : Nat) (hs : s.size ≤ 1048576) (hn : n + i = s.size) (h0 : i < s.size) (hg0 : (s[i].toNat : Int) = (b0 : Nat)) (bb0 : b0 < 256) (h1 : i + 1 < s.size) (hg1 : (s[i + 1].toNat : Int) = (b1 : Nat)) (bb1 : b1 < 256) (h2 : i + 2 < s.size) (hg2 : (s[i + 2].toNat : Int) = (b2 : Nat)) (bb2 : b2 < 256) (h3 : i + 3 < s.size) (hg3 : (s[i + 3].toNat : Int) = (b3 : Nat)) (bb3 : b3 < 256) (q1 : 240 ≤ b0) (q2 : b0 ≤ 244) (q3 : b0 ≠ 240) (q4 : b0 ≠ 244) (q5 : 4 ≤ n) (q6 : 128 ≤ b1) (q7 : b1 ≤ 191) (q8 : ¬ (128 ≤ b2 ∧ b2 ≤ 191)) (w : World) :
    Calls Tryd.prog 18 #[.string s, .int .i64 (i : Int)] w (ZdPost 65533 1 w) := by
  have hwn : IntKind.i64.wrap ((s.size : Int) - (i : Int)) = (n : Int) := by rw [IntKind.wrap_i64]; omega
  have hw1 : IntKind.i64.wrap ((i : Int) + 1) = ((i + 1 : Nat) : Int) := by rw [IntKind.wrap_i64]; omega
  have hw2 : IntKind.i64.wrap ((i : Int) + 2) = ((i + 2 : Nat) : Int) := by rw [IntKind.wrap_i64]; omega
  have hw3 : IntKind.i64.wrap ((i : Int) + 3) = ((i + 3 : Nat) : Int) := by rw [IntKind.wrap_i64]; omega
  have t1 : ¬ ((b0 : Int) < 128) := by omega
  have t2 : (194 : Int) ≤ (b0 : Int) := by omega
  have t3 : ¬ (b0 : Int) ≤ 223 := by omega
  have t5 : (224 : Int) ≤ (b0 : Int) := by omega
  have t6 : ¬ (b0 : Int) ≤ 239 := by omega
  have t7 : (240 : Int) ≤ (b0 : Int) := by omega
  have t8 : (b0 : Int) ≤ 244 := by omega
  have e240 : ((b0 : Int) == 240) = false := by (rw [beq_eq_false_iff_ne]; omega)
  have e244 : ((b0 : Int) == 244) = false := by (rw [beq_eq_false_iff_ne]; omega)
  have t4 : (4 : Int) ≤ (n : Int) := by omega
  have rb1 : inR (b1 : Int) 128 191 = true := by unfold inR; simp; omega
  have rb2 : inR (b2 : Int) 128 191 = false := by unfold inR; simp; omega
  go_enter Tryd.func18, Tryd.ntmps18
  go_wp2_with (go_at_call 23; (with_reducible refine (zcont_any _ _ _ _).mono ?_); rintro e w' ⟨rfl, rfl⟩)
  go_ret2
  exact ⟨rfl, 0, by rw [World.drewN_zero]⟩
set_option maxHeartbeats 2000000 in
set_option maxRecDepth 100000 in
theorem zd_d3z (s : ByteArray) (i b0 b1 b2 b3 n : Nat) (hs : s.size ≤ 1048576) (hn : n + i = s.size) (h0 : i < s.size) (hg0 : (s[i].toNat : Int) = (b0 : Nat)) (bb0 : b0 < 256) (h1 : i + 1 < s.size) (hg1 : (s[i + 1].toNat : Int) = (b1 : Nat)) (bb1 : b1 < 256) (h2 : i + 2 < s.size) (hg2 : (s[i + 2].toNat : Int) = (b2 : Nat)) (bb2 : b2 < 256) (h3 : i + 3 < s.size) (hg3 : (s[i + 3].toNat : Int) = (b3 : Nat)) (bb3 : b3 < 256) (q1 : 240 ≤ b0) (q2 : b0 ≤ 244) (q3 : b0 ≠ 240) (q4 : b0 ≠ 244) (q5 : 4 ≤ n) (q6 : 128 ≤ b1) (q7 : b1 ≤ 191) (q8 : 128 ≤ b2) (q9 : b2 ≤ 191) (q10 : ¬ (128 ≤ b3 ∧ b3 ≤ 191)) (w : World) :
    Calls Tryd.prog 18 #[.string s, .int .i64 (i : Int)] w (ZdPost 65533 1 w) := by
  have hwn : IntKind.i64.wrap ((s.size : Int) - (i : Int)) = (n : Int) := by rw [IntKind.wrap_i64]; omega
  have hw1 : IntKind.i64.wrap ((i : Int) + 1) = ((i + 1 : Nat) : Int) := by rw [IntKind.wrap_i64]; omega
  have hw2 : IntKind.i64.wrap ((i : Int) + 2) = ((i + 2 : Nat) : Int) := by rw [IntKind.wrap_i64]; omega
  have hw3 : IntKind.i64.wrap ((i : Int) + 3) = ((i + 3 : Nat) : Int) := by rw [IntKind.wrap_i64]; omega
  have t1 : ¬ ((b0 : Int) < 128) := by omega
  have t2 : (194 : Int) ≤ (b0 : Int) := by omega
  have t3 : ¬ (b0 : Int) ≤ 223 := by omega
  have t5 : (224 : Int) ≤ (b0 : Int) := by omega
  have t6 : ¬ (b0 : Int) ≤ 239 := by omega
  have t7 : (240 : Int) ≤ (b0 : Int) := by omega
  have t8 : (b0 : Int) ≤ 244 := by omega
  have e240 : ((b0 : Int) == 240) = false := by (rw [beq_eq_false_iff_ne]; omega)
  have e244 : ((b0 : Int) == 244) = false := by (rw [beq_eq_false_iff_ne]; omega)
  have t4 : (4 : Int) ≤ (n : Int) := by omega
  have rb1 : inR (b1 : Int) 128 191 = true := by unfold inR; simp; omega
  have rb2 : inR (b2 : Int) 128 191 = true := by unfold inR; simp; omega
  have rb3 : inR (b3 : Int) 128 191 = false := by unfold inR; simp; omega
  go_enter Tryd.func18, Tryd.ntmps18
  go_wp2_with (go_at_call 23; (with_reducible refine (zcont_any _ _ _ _).mono ?_); rintro e w' ⟨rfl, rfl⟩)
  go_ret2
  exact ⟨rfl, 0, by rw [World.drewN_zero]⟩
set_option maxHeartbeats 2000000 in
set_option maxRecDepth 100000 in
theorem zd_d4z (s : ByteArray) (i b0 b1 b2 b3 n : Nat) (hs : s.size ≤ 1048576) (hn : n + i = s.size) (h0 : i < s.size) (hg0 : (s[i].toNat : Int) = (b0 : Nat)) (bb0 : b0 < 256) (h1 : i + 1 < s.size) (hg1 : (s[i + 1].toNat : Int) = (b1 : Nat)) (bb1 : b1 < 256) (h2 : i + 2 < s.size) (hg2 : (s[i + 2].toNat : Int) = (b2 : Nat)) (bb2 : b2 < 256) (h3 : i + 3 < s.size) (hg3 : (s[i + 3].toNat : Int) = (b3 : Nat)) (bb3 : b3 < 256) (q1 : 240 ≤ b0) (q2 : b0 ≤ 244) (q3 : b0 ≠ 240) (q4 : b0 ≠ 244) (q5 : 4 ≤ n) (q6 : 128 ≤ b1) (q7 : b1 ≤ 191) (q8 : 128 ≤ b2) (q9 : b2 ≤ 191) (q10 : 128 ≤ b3) (q11 : b3 ≤ 191) (w : World) :
    Calls Tryd.prog 18 #[.string s, .int .i64 (i : Int)] w (ZdPost ((b0 % 8) * 262144 + (b1 % 64) * 4096 + (b2 % 64) * 64 + b3 % 64) 4 w) := by
  have hwn : IntKind.i64.wrap ((s.size : Int) - (i : Int)) = (n : Int) := by rw [IntKind.wrap_i64]; omega
  have hw1 : IntKind.i64.wrap ((i : Int) + 1) = ((i + 1 : Nat) : Int) := by rw [IntKind.wrap_i64]; omega
  have hw2 : IntKind.i64.wrap ((i : Int) + 2) = ((i + 2 : Nat) : Int) := by rw [IntKind.wrap_i64]; omega
  have hw3 : IntKind.i64.wrap ((i : Int) + 3) = ((i + 3 : Nat) : Int) := by rw [IntKind.wrap_i64]; omega
  have t1 : ¬ ((b0 : Int) < 128) := by omega
  have t2 : (194 : Int) ≤ (b0 : Int) := by omega
  have t3 : ¬ (b0 : Int) ≤ 223 := by omega
  have t5 : (224 : Int) ≤ (b0 : Int) := by omega
  have t6 : ¬ (b0 : Int) ≤ 239 := by omega
  have t7 : (240 : Int) ≤ (b0 : Int) := by omega
  have t8 : (b0 : Int) ≤ 244 := by omega
  have e240 : ((b0 : Int) == 240) = false := by (rw [beq_eq_false_iff_ne]; omega)
  have e244 : ((b0 : Int) == 244) = false := by (rw [beq_eq_false_iff_ne]; omega)
  have t4 : (4 : Int) ≤ (n : Int) := by omega
  have rb1 : inR (b1 : Int) 128 191 = true := by unfold inR; simp; omega
  have rb2 : inR (b2 : Int) 128 191 = true := by unfold inR; simp; omega
  have rb3 : inR (b3 : Int) 128 191 = true := by unfold inR; simp; omega
  go_enter Tryd.func18, Tryd.ntmps18
  go_upto_region 27 with (go_at_call 23; (with_reducible refine (zcont_any _ _ _ _).mono ?_); rintro e w' ⟨rfl, rfl⟩)
  go_region
  all_goals (try go_wp2)
  go_ret2
  refine ⟨congrArg (fun v : Int => Ending.returned (.tuple #[.int .i32 v, .int .i64 4])) ?_, 1, by rw [World.drew_is_drewN]⟩
  omega
set_option maxHeartbeats 2000000 in
set_option maxRecDepth 100000 in
theorem zd_e0 (s : ByteArray) (i b0 b1 b2 b3 n : Nat) (hs : s.size ≤ 1048576) (hn : n + i = s.size) (h0 : i < s.size) (hg0 : (s[i].toNat : Int) = (b0 : Nat)) (bb0 : b0 < 256) (q1 : 128 ≤ b0) (q2 : b0 < 194) (w : World) :
    Calls Tryd.prog 18 #[.string s, .int .i64 (i : Int)] w (ZdPost 65533 1 w) := by
  have hwn : IntKind.i64.wrap ((s.size : Int) - (i : Int)) = (n : Int) := by rw [IntKind.wrap_i64]; omega
  have t1 : ¬ ((b0 : Int) < 128) := by omega
  have t2 : ¬ (194 : Int) ≤ (b0 : Int) := by omega
  have t5 : ¬ (224 : Int) ≤ (b0 : Int) := by omega
  have t7 : ¬ (240 : Int) ≤ (b0 : Int) := by omega
  go_enter Tryd.func18, Tryd.ntmps18
  go_wp2_with (go_at_call 23; (with_reducible refine (zcont_any _ _ _ _).mono ?_); rintro e w' ⟨rfl, rfl⟩)
  go_ret2
  exact ⟨rfl, 0, by rw [World.drewN_zero]⟩
set_option maxHeartbeats 2000000 in
set_option maxRecDepth 100000 in
theorem zd_e1 (s : ByteArray) (i b0 b1 b2 b3 n : Nat) (hs : s.size ≤ 1048576) (hn : n + i = s.size) (h0 : i < s.size) (hg0 : (s[i].toNat : Int) = (b0 : Nat)) (bb0 : b0 < 256) (q1 : 245 ≤ b0) (w : World) :
    Calls Tryd.prog 18 #[.string s, .int .i64 (i : Int)] w (ZdPost 65533 1 w) := by
  have hwn : IntKind.i64.wrap ((s.size : Int) - (i : Int)) = (n : Int) := by rw [IntKind.wrap_i64]; omega
  have t1 : ¬ ((b0 : Int) < 128) := by omega
  have t2 : (194 : Int) ≤ (b0 : Int) := by omega
  have t3 : ¬ (b0 : Int) ≤ 223 := by omega
  have t5 : (224 : Int) ≤ (b0 : Int) := by omega
  have t6 : ¬ (b0 : Int) ≤ 239 := by omega
  have t7 : (240 : Int) ≤ (b0 : Int) := by omega
  have t8 : ¬ (b0 : Int) ≤ 244 := by omega
  go_enter Tryd.func18, Tryd.ntmps18
  go_wp2_with (go_at_call 23; (with_reducible refine (zcont_any _ _ _ _).mono ?_); rintro e w' ⟨rfl, rfl⟩)
  go_ret2
  exact ⟨rfl, 0, by rw [World.drewN_zero]⟩
theorem dec_2v (b0 b1 b2 b3 n : Nat) (h1 : 194 ≤ b0) (h2 : b0 ≤ 223) (hn : 2 ≤ n) (h3 : 128 ≤ b1) (h4 : b1 ≤ 191) : dec b0 b1 b2 b3 n = ((b0 % 32) * 64 + b1 % 64, 2) := by
  unfold dec
  rw [if_neg (by omega), if_pos (by omega), if_pos (by omega)]
theorem dec_4v (b0 b1 b2 b3 n : Nat) (h1 : 240 ≤ b0) (h2 : b0 ≤ 244) (hn : 4 ≤ n) (h3 : lo4 b0 ≤ b1) (h4 : b1 ≤ hi4 b0) (h5 : 128 ≤ b2) (h6 : b2 ≤ 191) (h7 : 128 ≤ b3) (h8 : b3 ≤ 191) :
    dec b0 b1 b2 b3 n = ((b0 % 8) * 262144 + (b1 % 64) * 4096 + (b2 % 64) * 64 + b3 % 64, 4) := by
  unfold lo4 at h3
  unfold hi4 at h4
  have h9 : 128 ≤ b1 ∧ b1 ≤ 191 := by split at h3 <;> split at h4 <;> omega
  have h10 : 65536 ≤ (b0 % 8) * 262144 + (b1 % 64) * 4096 + (b2 % 64) * 64 + b3 % 64 := by split at h3 <;> omega
  unfold dec
  rw [if_neg (by omega), if_neg (by omega), if_neg (by omega), if_pos (by omega), if_pos]
  rw [valid_nat]
  refine ⟨h10, .inr ⟨by omega, ?_⟩⟩
  split at h4 <;> omega

theorem zdec_any (s : ByteArray) (i c wd : Nat) (hs : s.size ≤ 1048576) (hi : i < s.size) (hd : Utf8.decode s i = (c, wd)) (w : World) : Calls Tryd.prog 18 #[.string s, .int .i64 (i : Int)] w (ZdPost c wd w) := by
  rw [decode_dec] at hd
  have l0 := byteAt_lt s i; have l1 := byteAt_lt s (i + 1); have l2 := byteAt_lt s (i + 2); have l3 := byteAt_lt s (i + 3)
  have hg0 := get_nat s i hi
  have hn : s.size - i + i = s.size := by omega
  have hg1 := get_nat s (i + 1)
  have hg2 := get_nat s (i + 2)
  have hg3 := get_nat s (i + 3)
  obtain ⟨n, en⟩ : ∃ n, n = s.size - i := ⟨_, rfl⟩
  obtain ⟨b0, e0⟩ : ∃ b, b = byteAt s i := ⟨_, rfl⟩
  obtain ⟨b1, e1⟩ : ∃ b, b = byteAt s (i + 1) := ⟨_, rfl⟩
  obtain ⟨b2, e2⟩ : ∃ b, b = byteAt s (i + 2) := ⟨_, rfl⟩
  obtain ⟨b3, e3⟩ : ∃ b, b = byteAt s (i + 3) := ⟨_, rfl⟩
  rw [← en] at hd hn
  rw [← e0] at hd l0 hg0
  rw [← e1] at hd l1 hg1
  rw [← e2] at hd l2 hg2
  rw [← e3] at hd l3 hg3
  clear en e0 e1 e2 e3
  by_cases a1 : b0 < 128
  · rw [dec_1 _ _ _ _ _ a1] at hd
    obtain ⟨rfl, rfl⟩ := Prod.mk.inj hd
    exact zd_a s i b0 b1 b2 b3 n hs hn hi hg0 l0 a1 w
  by_cases a2 : b0 < 194 ∨ 244 < b0
  · rw [dec_5 _ _ _ _ _ l0 (by omega) a2] at hd
    obtain ⟨rfl, rfl⟩ := Prod.mk.inj hd
    rcases a2 with a2 | a2
    · exact zd_e0 s i b0 b1 b2 b3 n hs hn hi hg0 l0 (by omega) a2 w
    · exact zd_e1 s i b0 b1 b2 b3 n hs hn hi hg0 l0 (by omega) w
  by_cases a3 : b0 ≤ 223
  · by_cases m2 : 2 ≤ n
    · have h1 : i + 1 < s.size := by omega
      by_cases r1 : 128 ≤ b1 ∧ b1 ≤ 191
      · rw [dec_2v _ _ _ _ _ (by omega) a3 m2 r1.1 r1.2] at hd
        obtain ⟨rfl, rfl⟩ := Prod.mk.inj hd
        exact zd_b2 s i b0 b1 b2 b3 n hs hn hi hg0 l0 h1 (hg1 h1) l1 (by omega) a3 r1.1 r1.2 w
      · rw [dec_2e _ _ _ _ _ (by omega) a3 l1 (by omega)] at hd
        obtain ⟨rfl, rfl⟩ := Prod.mk.inj hd
        exact zd_b1 s i b0 b1 b2 b3 n hs hn hi hg0 l0 h1 (hg1 h1) l1 (by omega) a3 r1 w
    · rw [dec_2e _ _ _ _ _ (by omega) a3 l1 (by omega)] at hd
      obtain ⟨rfl, rfl⟩ := Prod.mk.inj hd
      exact zd_b0 s i b0 b1 b2 b3 n hs hn hi hg0 l0 (by omega) a3 (by omega) w
  by_cases a4 : b0 ≤ 239
  · by_cases v1 : b0 = 224
    case pos =>
      by_cases m3 : 3 ≤ n
      case neg =>
        rw [dec_3e _ _ _ _ _ (by omega) a4 l1 l2 (by omega)] at hd
        obtain ⟨rfl, rfl⟩ := Prod.mk.inj hd
        exact zd_c0x s i b0 b1 b2 b3 n hs hn hi hg0 l0 (by omega) a4 v1 (by omega) w
      have h1 : i + 1 < s.size := by omega
      have h2 : i + 2 < s.size := by omega
      have hl : lo3 b0 = 160 := by unfold lo3; split <;> omega
      have hh : hi3 b0 = 191 := by unfold hi3; split <;> omega
      by_cases r1 : 160 ≤ b1 ∧ b1 ≤ 191
      case neg =>
        rw [dec_3e _ _ _ _ _ (by omega) a4 l1 l2 (by rw [hl, hh]; omega)] at hd
        obtain ⟨rfl, rfl⟩ := Prod.mk.inj hd
        exact zd_c1x s i b0 b1 b2 b3 n hs hn hi hg0 l0 h1 (hg1 h1) l1 h2 (hg2 h2) l2 (by omega) a4 v1 m3 r1 w
      by_cases r2 : 128 ≤ b2 ∧ b2 ≤ 191
      case neg =>
        rw [dec_3e _ _ _ _ _ (by omega) a4 l1 l2 (by rw [hl, hh]; omega)] at hd
        obtain ⟨rfl, rfl⟩ := Prod.mk.inj hd
        exact zd_c2x s i b0 b1 b2 b3 n hs hn hi hg0 l0 h1 (hg1 h1) l1 h2 (hg2 h2) l2 (by omega) a4 v1 m3 r1.1 r1.2 r2 w
      rw [dec_3 _ _ _ _ _ (by omega) a4 m3 (by rw [hl]; exact r1.1) (by rw [hh]; exact r1.2) r2.1 r2.2] at hd
      obtain ⟨rfl, rfl⟩ := Prod.mk.inj hd
      exact zd_c3x s i b0 b1 b2 b3 n hs hn hi hg0 l0 h1 (hg1 h1) l1 h2 (hg2 h2) l2 (by omega) a4 v1 m3 r1.1 r1.2 r2.1 r2.2 w
    by_cases v2 : b0 = 237
    case pos =>
      by_cases m3 : 3 ≤ n
      case neg =>
        rw [dec_3e _ _ _ _ _ (by omega) a4 l1 l2 (by omega)] at hd
        obtain ⟨rfl, rfl⟩ := Prod.mk.inj hd
        exact zd_c0y s i b0 b1 b2 b3 n hs hn hi hg0 l0 (by omega) a4 v2 (by omega) w
      have h1 : i + 1 < s.size := by omega
      have h2 : i + 2 < s.size := by omega
      have hl : lo3 b0 = 128 := by unfold lo3; split <;> omega
      have hh : hi3 b0 = 159 := by unfold hi3; split <;> omega
      by_cases r1 : 128 ≤ b1 ∧ b1 ≤ 159
      case neg =>
        rw [dec_3e _ _ _ _ _ (by omega) a4 l1 l2 (by rw [hl, hh]; omega)] at hd
        obtain ⟨rfl, rfl⟩ := Prod.mk.inj hd
        exact zd_c1y s i b0 b1 b2 b3 n hs hn hi hg0 l0 h1 (hg1 h1) l1 h2 (hg2 h2) l2 (by omega) a4 v2 m3 r1 w
      by_cases r2 : 128 ≤ b2 ∧ b2 ≤ 191
      case neg =>
        rw [dec_3e _ _ _ _ _ (by omega) a4 l1 l2 (by rw [hl, hh]; omega)] at hd
        obtain ⟨rfl, rfl⟩ := Prod.mk.inj hd
        exact zd_c2y s i b0 b1 b2 b3 n hs hn hi hg0 l0 h1 (hg1 h1) l1 h2 (hg2 h2) l2 (by omega) a4 v2 m3 r1.1 r1.2 r2 w
      rw [dec_3 _ _ _ _ _ (by omega) a4 m3 (by rw [hl]; exact r1.1) (by rw [hh]; exact r1.2) r2.1 r2.2] at hd
      obtain ⟨rfl, rfl⟩ := Prod.mk.inj hd
      exact zd_c3y s i b0 b1 b2 b3 n hs hn hi hg0 l0 h1 (hg1 h1) l1 h2 (hg2 h2) l2 (by omega) a4 v2 m3 r1.1 r1.2 r2.1 r2.2 w
    by_cases m3 : 3 ≤ n
    case neg =>
      rw [dec_3e _ _ _ _ _ (by omega) a4 l1 l2 (by omega)] at hd
      obtain ⟨rfl, rfl⟩ := Prod.mk.inj hd
      exact zd_c0z s i b0 b1 b2 b3 n hs hn hi hg0 l0 (by omega) a4 v1 v2 (by omega) w
    have h1 : i + 1 < s.size := by omega
    have h2 : i + 2 < s.size := by omega
    have hl : lo3 b0 = 128 := by unfold lo3; split <;> omega
    have hh : hi3 b0 = 191 := by unfold hi3; split <;> omega
    by_cases r1 : 128 ≤ b1 ∧ b1 ≤ 191
    case neg =>
      rw [dec_3e _ _ _ _ _ (by omega) a4 l1 l2 (by rw [hl, hh]; omega)] at hd
      obtain ⟨rfl, rfl⟩ := Prod.mk.inj hd
      exact zd_c1z s i b0 b1 b2 b3 n hs hn hi hg0 l0 h1 (hg1 h1) l1 h2 (hg2 h2) l2 (by omega) a4 v1 v2 m3 r1 w
    by_cases r2 : 128 ≤ b2 ∧ b2 ≤ 191
    case neg =>
      rw [dec_3e _ _ _ _ _ (by omega) a4 l1 l2 (by rw [hl, hh]; omega)] at hd
      obtain ⟨rfl, rfl⟩ := Prod.mk.inj hd
      exact zd_c2z s i b0 b1 b2 b3 n hs hn hi hg0 l0 h1 (hg1 h1) l1 h2 (hg2 h2) l2 (by omega) a4 v1 v2 m3 r1.1 r1.2 r2 w
    rw [dec_3 _ _ _ _ _ (by omega) a4 m3 (by rw [hl]; exact r1.1) (by rw [hh]; exact r1.2) r2.1 r2.2] at hd
    obtain ⟨rfl, rfl⟩ := Prod.mk.inj hd
    exact zd_c3z s i b0 b1 b2 b3 n hs hn hi hg0 l0 h1 (hg1 h1) l1 h2 (hg2 h2) l2 (by omega) a4 v1 v2 m3 r1.1 r1.2 r2.1 r2.2 w
  have a5 : b0 ≤ 244 := by omega
  by_cases v1 : b0 = 240
  case pos =>
    have hl : lo4 b0 = 144 := by unfold lo4; split <;> omega
    have hh : hi4 b0 = 191 := by unfold hi4; split <;> omega
    by_cases m3 : 4 ≤ n
    case neg =>
      rw [dec_4e _ _ _ _ _ (by omega) a5 l1 l2 l3 (by rw [hl, hh]; omega)] at hd
      obtain ⟨rfl, rfl⟩ := Prod.mk.inj hd
      exact zd_d0x s i b0 b1 b2 b3 n hs hn hi hg0 l0 (by omega) a5 v1 (by omega) w
    have h1 : i + 1 < s.size := by omega
    have h2 : i + 2 < s.size := by omega
    have h3 : i + 3 < s.size := by omega
    by_cases r1 : 144 ≤ b1 ∧ b1 ≤ 191
    case neg =>
      rw [dec_4e _ _ _ _ _ (by omega) a5 l1 l2 l3 (by rw [hl, hh]; omega)] at hd
      obtain ⟨rfl, rfl⟩ := Prod.mk.inj hd
      exact zd_d1x s i b0 b1 b2 b3 n hs hn hi hg0 l0 h1 (hg1 h1) l1 h2 (hg2 h2) l2 h3 (hg3 h3) l3 (by omega) a5 v1 m3 r1 w
    by_cases r2 : 128 ≤ b2 ∧ b2 ≤ 191
    case neg =>
      rw [dec_4e _ _ _ _ _ (by omega) a5 l1 l2 l3 (by rw [hl, hh]; omega)] at hd
      obtain ⟨rfl, rfl⟩ := Prod.mk.inj hd
      exact zd_d2x s i b0 b1 b2 b3 n hs hn hi hg0 l0 h1 (hg1 h1) l1 h2 (hg2 h2) l2 h3 (hg3 h3) l3 (by omega) a5 v1 m3 r1.1 r1.2 r2 w
    by_cases r3 : 128 ≤ b3 ∧ b3 ≤ 191
    case neg =>
      rw [dec_4e _ _ _ _ _ (by omega) a5 l1 l2 l3 (by rw [hl, hh]; omega)] at hd
      obtain ⟨rfl, rfl⟩ := Prod.mk.inj hd
      exact zd_d3x s i b0 b1 b2 b3 n hs hn hi hg0 l0 h1 (hg1 h1) l1 h2 (hg2 h2) l2 h3 (hg3 h3) l3 (by omega) a5 v1 m3 r1.1 r1.2 r2.1 r2.2 r3 w
    rw [dec_4v _ _ _ _ _ (by omega) a5 m3 (by rw [hl]; exact r1.1) (by rw [hh]; exact r1.2) r2.1 r2.2 r3.1 r3.2] at hd
    obtain ⟨rfl, rfl⟩ := Prod.mk.inj hd
    exact zd_d4x s i b0 b1 b2 b3 n hs hn hi hg0 l0 h1 (hg1 h1) l1 h2 (hg2 h2) l2 h3 (hg3 h3) l3 (by omega) a5 v1 m3 r1.1 r1.2 r2.1 r2.2 r3.1 r3.2 w
  by_cases v2 : b0 = 244
  case pos =>
    have hl : lo4 b0 = 128 := by unfold lo4; split <;> omega
    have hh : hi4 b0 = 143 := by unfold hi4; split <;> omega
    by_cases m3 : 4 ≤ n
    case neg =>
      rw [dec_4e _ _ _ _ _ (by omega) a5 l1 l2 l3 (by rw [hl, hh]; omega)] at hd
      obtain ⟨rfl, rfl⟩ := Prod.mk.inj hd
      exact zd_d0y s i b0 b1 b2 b3 n hs hn hi hg0 l0 (by omega) a5 v2 (by omega) w
    have h1 : i + 1 < s.size := by omega
    have h2 : i + 2 < s.size := by omega
    have h3 : i + 3 < s.size := by omega
    by_cases r1 : 128 ≤ b1 ∧ b1 ≤ 143
    case neg =>
      rw [dec_4e _ _ _ _ _ (by omega) a5 l1 l2 l3 (by rw [hl, hh]; omega)] at hd
      obtain ⟨rfl, rfl⟩ := Prod.mk.inj hd
      exact zd_d1y s i b0 b1 b2 b3 n hs hn hi hg0 l0 h1 (hg1 h1) l1 h2 (hg2 h2) l2 h3 (hg3 h3) l3 (by omega) a5 v2 m3 r1 w
    by_cases r2 : 128 ≤ b2 ∧ b2 ≤ 191
    case neg =>
      rw [dec_4e _ _ _ _ _ (by omega) a5 l1 l2 l3 (by rw [hl, hh]; omega)] at hd
      obtain ⟨rfl, rfl⟩ := Prod.mk.inj hd
      exact zd_d2y s i b0 b1 b2 b3 n hs hn hi hg0 l0 h1 (hg1 h1) l1 h2 (hg2 h2) l2 h3 (hg3 h3) l3 (by omega) a5 v2 m3 r1.1 r1.2 r2 w
    by_cases r3 : 128 ≤ b3 ∧ b3 ≤ 191
    case neg =>
      rw [dec_4e _ _ _ _ _ (by omega) a5 l1 l2 l3 (by rw [hl, hh]; omega)] at hd
      obtain ⟨rfl, rfl⟩ := Prod.mk.inj hd
      exact zd_d3y s i b0 b1 b2 b3 n hs hn hi hg0 l0 h1 (hg1 h1) l1 h2 (hg2 h2) l2 h3 (hg3 h3) l3 (by omega) a5 v2 m3 r1.1 r1.2 r2.1 r2.2 r3 w
    rw [dec_4v _ _ _ _ _ (by omega) a5 m3 (by rw [hl]; exact r1.1) (by rw [hh]; exact r1.2) r2.1 r2.2 r3.1 r3.2] at hd
    obtain ⟨rfl, rfl⟩ := Prod.mk.inj hd
    exact zd_d4y s i b0 b1 b2 b3 n hs hn hi hg0 l0 h1 (hg1 h1) l1 h2 (hg2 h2) l2 h3 (hg3 h3) l3 (by omega) a5 v2 m3 r1.1 r1.2 r2.1 r2.2 r3.1 r3.2 w
  have hl : lo4 b0 = 128 := by unfold lo4; split <;> omega
  have hh : hi4 b0 = 191 := by unfold hi4; split <;> omega
  by_cases m3 : 4 ≤ n
  case neg =>
    rw [dec_4e _ _ _ _ _ (by omega) a5 l1 l2 l3 (by rw [hl, hh]; omega)] at hd
    obtain ⟨rfl, rfl⟩ := Prod.mk.inj hd
    exact zd_d0z s i b0 b1 b2 b3 n hs hn hi hg0 l0 (by omega) a5 v1 v2 (by omega) w
  have h1 : i + 1 < s.size := by omega
  have h2 : i + 2 < s.size := by omega
  have h3 : i + 3 < s.size := by omega
  by_cases r1 : 128 ≤ b1 ∧ b1 ≤ 191
  case neg =>
    rw [dec_4e _ _ _ _ _ (by omega) a5 l1 l2 l3 (by rw [hl, hh]; omega)] at hd
    obtain ⟨rfl, rfl⟩ := Prod.mk.inj hd
    exact zd_d1z s i b0 b1 b2 b3 n hs hn hi hg0 l0 h1 (hg1 h1) l1 h2 (hg2 h2) l2 h3 (hg3 h3) l3 (by omega) a5 v1 v2 m3 r1 w
  by_cases r2 : 128 ≤ b2 ∧ b2 ≤ 191
  case neg =>
    rw [dec_4e _ _ _ _ _ (by omega) a5 l1 l2 l3 (by rw [hl, hh]; omega)] at hd
    obtain ⟨rfl, rfl⟩ := Prod.mk.inj hd
    exact zd_d2z s i b0 b1 b2 b3 n hs hn hi hg0 l0 h1 (hg1 h1) l1 h2 (hg2 h2) l2 h3 (hg3 h3) l3 (by omega) a5 v1 v2 m3 r1.1 r1.2 r2 w
  by_cases r3 : 128 ≤ b3 ∧ b3 ≤ 191
  case neg =>
    rw [dec_4e _ _ _ _ _ (by omega) a5 l1 l2 l3 (by rw [hl, hh]; omega)] at hd
    obtain ⟨rfl, rfl⟩ := Prod.mk.inj hd
    exact zd_d3z s i b0 b1 b2 b3 n hs hn hi hg0 l0 h1 (hg1 h1) l1 h2 (hg2 h2) l2 h3 (hg3 h3) l3 (by omega) a5 v1 v2 m3 r1.1 r1.2 r2.1 r2.2 r3 w
  rw [dec_4v _ _ _ _ _ (by omega) a5 m3 (by rw [hl]; exact r1.1) (by rw [hh]; exact r1.2) r2.1 r2.2 r3.1 r3.2] at hd
  obtain ⟨rfl, rfl⟩ := Prod.mk.inj hd
  exact zd_d4z s i b0 b1 b2 b3 n hs hn hi hg0 l0 h1 (hg1 h1) l1 h2 (hg2 h2) l2 h3 (hg3 h3) l3 (by omega) a5 v1 v2 m3 r1.1 r1.2 r2.1 r2.2 r3.1 r3.2 w
end Go.Proofs.YtgdcpladehcegaaDoor
