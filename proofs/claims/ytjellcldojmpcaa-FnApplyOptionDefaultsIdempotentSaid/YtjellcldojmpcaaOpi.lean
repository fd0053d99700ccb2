/- zzRule, zzImplied; the plain law of the implications (written by mkopi.py). -/
import Derived.Test.YtjellcldojmpcaaOpa
namespace Go.Proofs.Ytjellcldojmpcaa
open Go.RowKit
set_option linter.unusedVariables false
set_option linter.unusedSimpArgs false
def rA : Nat → BitVec 64
  | 0 => 8#64
  | 1 => 536870912#64
  | 2 => 8796093022208#64
  | 3 => 128#64
  | 4 => 65536#64
  | _ => 64#64
def rB : Nat → BitVec 64
  | 0 => 144115188092633104#64
  | 1 => 16#64
  | 2 => 4352#64
  | 3 => 1024#64
  | 4 => 8192#64
  | _ => 130944#64
def RulePost (i : Nat) (w : World) (e : Ending) (w' : World) : Prop := e = .returned (.tuple #[.int .u64 ((rA i).toNat : Int), .int .u64 ((rB i).toNat : Int)]) ∧ w = w'
set_option maxRecDepth 100000 in
theorem rule_0 (w : World) : Calls Try.prog 16 #[.int .i64 0] w (RulePost 0 w) := by
  have e1 : ((rA 0).toNat : Int) = 8 := by kernel_rfl
  have e2 : ((rB 0).toNat : Int) = 144115188092633104 := by kernel_rfl
  unfold RulePost
  rw [e1, e2]
  go_enter Try.func16, Try.ntmps16
  go_wp2
  go_ret2
  exact ⟨rfl, rfl⟩
set_option maxRecDepth 100000 in
theorem rule_1 (w : World) : Calls Try.prog 16 #[.int .i64 1] w (RulePost 1 w) := by
  have e1 : ((rA 1).toNat : Int) = 536870912 := by kernel_rfl
  have e2 : ((rB 1).toNat : Int) = 16 := by kernel_rfl
  unfold RulePost
  rw [e1, e2]
  go_enter Try.func16, Try.ntmps16
  go_wp2
  go_ret2
  exact ⟨rfl, rfl⟩
set_option maxRecDepth 100000 in
theorem rule_2 (w : World) : Calls Try.prog 16 #[.int .i64 2] w (RulePost 2 w) := by
  have e1 : ((rA 2).toNat : Int) = 8796093022208 := by kernel_rfl
  have e2 : ((rB 2).toNat : Int) = 4352 := by kernel_rfl
  unfold RulePost
  rw [e1, e2]
  go_enter Try.func16, Try.ntmps16
  go_wp2
  go_ret2
  exact ⟨rfl, rfl⟩
set_option maxRecDepth 100000 in
theorem rule_3 (w : World) : Calls Try.prog 16 #[.int .i64 3] w (RulePost 3 w) := by
  have e1 : ((rA 3).toNat : Int) = 128 := by kernel_rfl
  have e2 : ((rB 3).toNat : Int) = 1024 := by kernel_rfl
  unfold RulePost
  rw [e1, e2]
  go_enter Try.func16, Try.ntmps16
  go_wp2
  go_ret2
  exact ⟨rfl, rfl⟩
set_option maxRecDepth 100000 in
theorem rule_4 (w : World) : Calls Try.prog 16 #[.int .i64 4] w (RulePost 4 w) := by
  have e1 : ((rA 4).toNat : Int) = 65536 := by kernel_rfl
  have e2 : ((rB 4).toNat : Int) = 8192 := by kernel_rfl
  unfold RulePost
  rw [e1, e2]
  go_enter Try.func16, Try.ntmps16
  go_wp2
  go_ret2
  exact ⟨rfl, rfl⟩
set_option maxRecDepth 100000 in
theorem rule_5 (w : World) : Calls Try.prog 16 #[.int .i64 5] w (RulePost 5 w) := by
  have e1 : ((rA 5).toNat : Int) = 64 := by kernel_rfl
  have e2 : ((rB 5).toNat : Int) = 130944 := by kernel_rfl
  unfold RulePost
  rw [e1, e2]
  go_enter Try.func16, Try.ntmps16
  go_wp2
  go_ret2
  exact ⟨rfl, rfl⟩
theorem rule_any (i : Nat) (hi : i < 6) (x : Int) (hx : x = i) (w : World) : Calls Try.prog 16 #[.int .i64 x] w (RulePost i w) := by
  subst hx
  have h : i = 0 ∨ i = 1 ∨ i = 2 ∨ i = 3 ∨ i = 4 ∨ i = 5 := by omega
  rcases h with rfl | rfl | rfl | rfl | rfl | rfl
  · exact rule_0 w
  · exact rule_1 w
  · exact rule_2 w
  · exact rule_3 w
  · exact rule_4 w
  · exact rule_5 w
def stepR (o u : BitVec 64) (i : Nat) : BitVec 64 := bif meets (o ||| u) (rA i) then u ||| rB i else u
def innR (o u : BitVec 64) : Nat → BitVec 64
  | 0 => u
  | k + 1 => stepR o (innR o u k) (5 - k)
def outR (o : BitVec 64) : Nat → BitVec 64
  | 0 => 0#64
  | k + 1 => innR o (outR o k) 6
def impl (o : BitVec 64) : BitVec 64 := outR o 7
set_option maxHeartbeats 4000000 in
set_option maxRecDepth 100000 in
theorem impl_any (o : BitVec 64) (w : World) : Calls Try.prog 12 #[.int .u64 (o.toNat : Int)] w fun e w' => e = .returned (.int .u64 ((impl o).toNat : Int)) ∧ w = w' := by
  go_enter Try.func12, Try.ntmps12
  go_wp2
  go_loopw [4, 3, 5, 6, 7] (fun i u j a b wr => ∃ k : Nat, i = .int .i64 k ∧ k ≤ 7 ∧ u = .int .u64 ((outR o k).toNat : Int) ∧ wr = w) (fun i u j a b _ => 7 - (intOf i).toNat)
  case atStart => exact ⟨0, rfl, by omega, rfl, rfl⟩
  case round =>
    obtain ⟨k, rfl, hk, rfl, hw⟩ := hrel
    have HW := Lib.hid hw
    clear hw
    by_cases hlt : k < 7
    · have hle : (k : Int) ≤ 6 := by omega
      go_wp2
      go_loopw [5, 3, 6, 7] (fun j u a b wx => ∃ d : Nat, j = .int .i64 (5 - (d : Int)) ∧ d ≤ 6 ∧ u = .int .u64 ((innR o (outR o k) d).toNat : Int) ∧ wx = wr) (fun j u a b _ => (intOf j + 1).toNat)
      case atStart => exact ⟨0, rfl, by omega, rfl, rfl⟩
      case round =>
        obtain ⟨d, rfl, hd, rfl, hw⟩ := hrel
        have HW2 := Lib.hid hw
        clear hw
        by_cases hd6 : d < 6
        · have hge : (0 : Int) ≤ 5 - (d : Int) := by omega
          obtain ⟨U, hU⟩ : ∃ U, U = innR o (outR o k) d := ⟨_, rfl⟩
          rw [← hU]
          have HU := Lib.hid hU
          clear hU
          obtain ⟨q, hq⟩ : ∃ q : Nat, q = 5 - d := ⟨_, rfl⟩
          have HQ := Lib.hid hq
          have hqx : 5 - (d : Int) = (q : Int) := by omega
          have hq6 : q < 6 := by omega
          have RX := Lib.hid (rule_any q hq6 (5 - (d : Int)) hqx)
          clear hq hqx hq6
          cases hm : meets (o ||| U) (rA q)
          all_goals
            have HM := Lib.hid hm
            have hb := ne0 (o ||| U) (rA q)
            rw [hm, ← and64, ← or64] at hb
            clear hm
            go_wp2_with (go_at_call 16; refine (RX.out _).mono ?_; rintro e wz ⟨rfl, rfl⟩)
            go_roundw
            case rel =>
              refine ⟨d + 1, by go_num, by omega, ?_, HW2.out⟩
              show _ = Value.int .u64 ((stepR o (innR o (outR o k) d) (5 - d)).toNat : Int)
              rw [← HU.out, ← HQ.out]
              unfold stepR
              rw [HM.out]
              first | rfl | (rw [or64]; rfl)
            case measure =>
              simp [intOf]
              omega
        · obtain rfl : d = 6 := by omega
          go_wp2
          go_roundw
          case rel =>
            refine ⟨k + 1, by go_num, by omega, rfl, HW2.out.trans HW.out⟩
          case measure =>
            simp [intOf]
            omega
    · obtain rfl : k = 7 := by omega
      go_wp2
      go_ret
      exact ⟨rfl, HW.out.symm⟩
theorem meets_or {n : Nat} (x y a : BitVec n) : meets (x ||| y) a = (meets x a || meets y a) := by
  unfold meets
  rw [Bool.eq_iff_iff]
  simp only [decide_eq_true_eq, Bool.or_eq_true]
  have h : (x ||| y) &&& a = (x &&& a) ||| (y &&& a) := by
    apply BitVec.eq_of_getElem_eq; intro i hi; simp only [BitVec.getElem_or, BitVec.getElem_and]; cases x[i] <;> cases y[i] <;> cases a[i] <;> rfl
  rw [h]
  constructor
  · intro h1
    by_cases h2 : x &&& a = 0#n
    · right
      intro h3; apply h1; rw [h2, h3]; simp
    · exact .inl h2
  · intro h1 h2
    have hx : ∀ i (hi : i < n), (x &&& a)[i] = false ∧ (y &&& a)[i] = false := fun i hi => by
      have h4 : ((x &&& a) ||| (y &&& a))[i] = (0#n)[i] := by rw [h2]
      rw [BitVec.getElem_or, BitVec.getElem_zero, Bool.or_eq_false_iff] at h4
      exact h4
    rcases h1 with h1 | h1
    · exact h1 (BitVec.eq_of_getElem_eq fun i hi => by rw [(hx i hi).1, BitVec.getElem_zero])
    · exact h1 (BitVec.eq_of_getElem_eq fun i hi => by rw [(hx i hi).2, BitVec.getElem_zero])
def sel (t : Bool) (d : BitVec 64) : BitVec 64 := bif t then d else 0#64
/-- What six tests imply. -/
def Ub (t0 t1 t2 t3 t4 t5 : Bool) : BitVec 64 := sel t0 (rB 0) ||| sel t1 (rB 1) ||| sel t2 (rB 2) ||| sel (t3 || t5) (rB 3) ||| sel (t4 || t5) (rB 4) ||| sel t5 (rB 5)
def UbO (o : BitVec 64) : BitVec 64 := Ub (meets o (rA 0)) (meets o (rA 1)) (meets o (rA 2)) (meets o (rA 3)) (meets o (rA 4)) (meets o (rA 5))
def stepT (t : Bool) (u a d : BitVec 64) : BitVec 64 := bif (t || meets u a) then u ||| d else u
theorem stepR_T (o u : BitVec 64) (i : Nat) : stepR o u i = stepT (meets o (rA i)) u (rA i) (rB i) := by unfold stepR stepT; rw [meets_or]
def passT (t0 t1 t2 t3 t4 t5 : Bool) (u : BitVec 64) : BitVec 64 := stepT t0 (stepT t1 (stepT t2 (stepT t3 (stepT t4 (stepT t5 u (rA 5) (rB 5)) (rA 4) (rB 4)) (rA 3) (rB 3)) (rA 2) (rB 2)) (rA 1) (rB 1)) (rA 0) (rB 0)
theorem innR_T (o u : BitVec 64) : innR o u 6 = passT (meets o (rA 0)) (meets o (rA 1)) (meets o (rA 2)) (meets o (rA 3)) (meets o (rA 4)) (meets o (rA 5)) u := by
  simp only [innR, stepR_T]; rfl
theorem pass1 (t0 t1 t2 t3 t4 t5 : Bool) : passT t0 t1 t2 t3 t4 t5 0#64 = Ub t0 t1 t2 t3 t4 t5 := by
  cases t0 <;> cases t1 <;> cases t2 <;> cases t3 <;> cases t4 <;> cases t5 <;> kernel_rfl
theorem pass2 (t0 t1 t2 t3 t4 t5 : Bool) : passT t0 t1 t2 t3 t4 t5 (Ub t0 t1 t2 t3 t4 t5) = Ub t0 t1 t2 t3 t4 t5 := by
  cases t0 <;> cases t1 <;> cases t2 <;> cases t3 <;> cases t4 <;> cases t5 <;> kernel_rfl
theorem outR_U (o : BitVec 64) : ∀ k, outR o (k + 1) = UbO o
  | 0 => by
    show innR o (0#64) 6 = _
    rw [innR_T, pass1]; rfl
  | k + 1 => by
    show innR o (outR o (k + 1)) 6 = _
    rw [outR_U o k, innR_T]
    exact pass2 _ _ _ _ _ _
theorem impl_U (o : BitVec 64) : impl o = UbO o := outR_U o 6
theorem fix_T (o x V a d : BitVec 64) : fixB (o ||| V) a d (x ||| V) = x ||| stepT (meets o a) V a d := by
  unfold fixB stepT
  rw [meets_or]
  cases (meets o a || meets V a)
  · rfl
  · show x ||| V ||| d = x ||| (V ||| d)
    rw [BitVec.or_assoc]
def sixT (t0 t1 t2 t3 t4 t5 : Bool) : BitVec 64 := stepT t5 (stepT t4 (stepT t3 (stepT t2 (stepT t1 (stepT t0 0#64 (rA 0) (rB 0)) (rA 1) (rB 1)) (rA 2) (rB 2)) (rA 3) (rB 3)) (rA 4) (rB 4)) (rA 5) (rB 5)
theorem sixT_U (t0 t1 t2 t3 t4 t5 : Bool) : sixT t0 t1 t2 t3 t4 t5 = Ub t0 t1 t2 t3 t4 t5 := by
  cases t0 <;> cases t1 <;> cases t2 <;> cases t3 <;> cases t4 <;> cases t5 <;> kernel_rfl
/-- The options with V added to the three sets. -/
def OptSt.add (S : OptSt) (V : BitVec 64) : OptSt := { S with f := S.f ||| V, o := S.o ||| V, m := S.m ||| V }
theorem add_fix (S : OptSt) (V a d : BitVec 64) : (S.add V).fix a d = S.add (stepT (meets S.o a) V a d) := by
  unfold OptSt.fix OptSt.add
  simp only [fix_T]
theorem six_U (S : OptSt) : S.six = S.add (UbO S.o) := by
  have h0 : S = S.add 0#64 := by unfold OptSt.add; simp
  have h : S.six = S.add (sixT (meets S.o (rA 0)) (meets S.o (rA 1)) (meets S.o (rA 2)) (meets S.o (rA 3)) (meets S.o (rA 4)) (meets S.o (rA 5))) := by
    conv => lhs; rw [h0]
    unfold OptSt.six
    rw [add_fix, add_fix, add_fix, add_fix, add_fix, add_fix]
    rfl
  rw [h, sixT_U]; rfl
theorem Ub_again (t0 t1 t2 t3 t4 t5 : Bool) : Ub (t0 || meets (Ub t0 t1 t2 t3 t4 t5) (rA 0)) (t1 || meets (Ub t0 t1 t2 t3 t4 t5) (rA 1)) (t2 || meets (Ub t0 t1 t2 t3 t4 t5) (rA 2)) (t3 || meets (Ub t0 t1 t2 t3 t4 t5) (rA 3)) (t4 || meets (Ub t0 t1 t2 t3 t4 t5) (rA 4)) (t5 || meets (Ub t0 t1 t2 t3 t4 t5) (rA 5)) = Ub t0 t1 t2 t3 t4 t5 := by
  cases t0 <;> cases t1 <;> cases t2 <;> cases t3 <;> cases t4 <;> cases t5 <;> kernel_rfl
theorem UbO_again (o : BitVec 64) : UbO (o ||| UbO o) = UbO o := by
  unfold UbO
  rw [meets_or, meets_or, meets_or, meets_or, meets_or, meets_or]
  exact Ub_again _ _ _ _ _ _
end Go.Proofs.Ytjellcldojmpcaa
