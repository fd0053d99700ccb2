/- n011_102, AllocateTopLevel: the law's own helpers. -/
import Derived.Test.YtlpmkbdglpnjhaaMin
import Derived.Test.YtlpmkbdglpnjhaaBdt
import Derived.Test.YtlpmkbdglpnjhaaAcc
namespace Go.Proofs.Ytlpmkbdglpnjhaa
open Go.RowKit
set_option linter.unusedVariables false
set_option linter.unusedSimpArgs false
def AnyBool (w : World) (e : Ending) (w' : World) : Prop := ∃ b, e = .returned (.bool b) ∧ w = w'
def AnyInt (w : World) (e : Ending) (w' : World) : Prop := ∃ b : Int, e = .returned (.int .i64 b) ∧ w = w'
def pin (k : Int) : Bool := decide (k % 3 = 0)
def nsI (k : Int) : Int := if k % 3 = 2 then 1 else 0
def cAt (c0 c1 c2 c3 n : Int) : Int := if n = 0 then c0 else if n = 1 then c1 else if n = 2 then c2 else c3
set_option maxRecDepth 100000 in
theorem pin_any (k : Int) (h0 : 0 ≤ k) (h1 : k ≤ 255) (w : World) : Calls Try.prog 27 #[.int .u8 k] w fun e w' => e = .returned (.bool (pin k)) ∧ w = w' := by
  rcases (by omega : k % 3 = 0 ∨ ¬ k % 3 = 0) with e | e
  · have HK := Lib.hid (show pin k = true by unfold pin; simpa using e)
    have t : (k % 3 == 0) = true := by rw [beq_iff_eq]; exact e
    go_enter Try.func27, Try.ntmps27
    go_wp2
    go_ret
    exact ⟨ret_bool HK.out.symm, rfl⟩
  · have HK := Lib.hid (show pin k = false by unfold pin; simpa using e)
    have t : (k % 3 == 0) = false := by rw [beq_eq_false_iff_ne]; exact e
    go_enter Try.func27, Try.ntmps27
    go_wp2
    go_ret
    exact ⟨ret_bool HK.out.symm, rfl⟩
set_option maxRecDepth 100000 in
theorem ns_any (k : Int) (h0 : 0 ≤ k) (h1 : k ≤ 255) (w : World) : Calls Try.prog 13 #[.int .u8 k] w fun e w' => e = .returned (.int .i64 (nsI k)) ∧ w = w' := by
  rcases (by omega : k % 3 = 2 ∨ ¬ k % 3 = 2) with e | e
  · have HK := Lib.hid (show nsI k = 1 by unfold nsI; rw [if_pos e])
    have t : (k % 3 == 2) = true := by rw [beq_iff_eq]; exact e
    go_enter Try.func13, Try.ntmps13
    go_wp2
    go_ret
    exact ⟨ret_int HK.out.symm, rfl⟩
  · have HK := Lib.hid (show nsI k = 0 by unfold nsI; rw [if_neg e])
    have t : (k % 3 == 2) = false := by rw [beq_eq_false_iff_ne]; exact e
    go_enter Try.func13, Try.ntmps13
    go_wp2
    go_ret
    exact ⟨ret_int HK.out.symm, rfl⟩
set_option maxRecDepth 100000 in
theorem cAt_any (c0 c1 c2 c3 m : Int) (hm : m = 0 ∨ m = 1) (w : World) : Calls Try.prog 15 #[.int .u32 c0, .int .u32 c1, .int .u32 c2, .int .u32 c3, .int .i64 m] w fun e w' => e = .returned (.int .u32 (cAt c0 c1 c2 c3 m)) ∧ w = w' := by
  rcases hm with rfl | rfl
  · go_enter Try.func15, Try.ntmps15
    go_wp2
    go_ret
    exact ⟨rfl, rfl⟩
  · go_enter Try.func15, Try.ntmps15
    go_wp2
    go_ret
    exact ⟨rfl, rfl⟩
set_option maxRecDepth 100000 in
theorem counts_any (c0 c1 c2 c3 : Int) (w : World) : Calls Try.prog 19 #[.int .u32 c0, .int .u32 c1, .int .u32 c2, .int .u32 c3] w fun e w' => e = .returned (.bool (decide (c0 ≤ 65536 ∧ c1 ≤ 65536 ∧ c2 ≤ 65536 ∧ c3 ≤ 65536))) ∧ w = w' := by
  by_cases h0 : c0 ≤ 65536
  · by_cases h1 : c1 ≤ 65536
    · by_cases h2 : c2 ≤ 65536
      · by_cases h3 : c3 ≤ 65536
        · go_enter Try.func19, Try.ntmps19
          go_wp2
          go_ret
          exact ⟨ret_bool (by simp [*]), rfl⟩
        · go_enter Try.func19, Try.ntmps19
          go_wp2
          go_ret
          exact ⟨ret_bool (by simp; omega), rfl⟩
      · go_enter Try.func19, Try.ntmps19
        go_wp2
        go_ret
        exact ⟨ret_bool (by simp; omega), rfl⟩
    · go_enter Try.func19, Try.ntmps19
      go_wp2
      go_ret
      exact ⟨ret_bool (by simp; omega), rfl⟩
  · go_enter Try.func19, Try.ntmps19
    go_wp2
    go_ret
    exact ⟨ret_bool (by simp; omega), rfl⟩
theorem counts_size : (Try.prog.info? 35).map (·.size) = some 4 := by kernel_rfl
set_option maxRecDepth 100000 in
theorem sc_any (c0 c1 c2 c3 : Int) (w : World) : Calls Try.prog 10 #[.int .u32 c0, .int .u32 c1, .int .u32 c2, .int .u32 c3] w (KPost (.agg #[.int .u32 c0, .int .u32 c1, .int .u32 c2, .int .u32 c3]) w) := by
  have HF := Lib.hid ((Blk.new w 35 #[.int .u32 c0, .int .u32 c1, .int .u32 c2, .int .u32 c3]).alloc (.cells #[.int .u32 c0, .int .u32 c1, .int .u32 c2, .int .u32 c3] 35))
  go_enter Try.func10, Try.ntmps10
  go_wp2
  refine bodyPost_ret (results_cell_row rfl _ _ w.heap.size _ #[.int .u32 c0, .int .u32 c1, .int .u32 c2, .int .u32 c3] (0, 0) _ rfl HF.out Try.underlying35 rfl counts_size) rfl ?_
  exact ⟨rfl, only_alloc (only_alloc (World.grownBy.refl _ _) _) _⟩
theorem nsI_kd (k : Int) : nsI k = ((if kdOf k = 18 then 1 else 0 : Nat) : Int) := by
  unfold nsI kdOf
  by_cases e0 : k % 3 = 0
  · rw [if_pos e0, if_neg (by omega)]; rfl
  · rw [if_neg e0]
    by_cases e1 : k % 3 = 1
    · rw [if_pos e1, if_neg (by omega)]; rfl
    · rw [if_neg e1, if_pos (by omega)]; rfl
set_option maxRecDepth 100000 in
theorem cAt4 (c0 c1 c2 c3 m : Nat) (hm : m < 4) (w : World) : Calls Try.prog 15 #[.int .u32 (c0 : Int), .int .u32 (c1 : Int), .int .u32 (c2 : Int), .int .u32 (c3 : Int), .int .i64 (m : Int)] w fun e w' => e = .returned (.int .u32 ((f4 c0 c1 c2 c3 m : Nat) : Int)) ∧ w = w' := by
  rcases (by omega : m = 0 ∨ m = 1 ∨ m = 2 ∨ m = 3) with rfl | rfl | rfl | rfl
  all_goals
    go_enter Try.func15, Try.ntmps15
    go_wp2
    go_ret
    exact ⟨rfl, rfl⟩
def TopsPost (n nt : Nat) (ks ts : List Int) (w : World) (e : Ending) (w' : World) : Prop :=
  ∃ b, e = .returned (.bool b) ∧ (b = true → ∀ m, m < nt → ts.getD m 0 < n ∧ ¬ ks.getD (ts.getD m 0).toNat 0 % 3 = 0) ∧ w = w'
set_option maxHeartbeats 4000000 in
set_option maxRecDepth 100000 in
theorem tops_any (A1 : Option Addr) (n cc1 : Nat) (ks : List Int) (A2 : Option Addr) (nt cc2 : Nat) (ts : List Int) (w : World)
    (h1 : Reads w w.heap.size 1 A1 n (ks.map (Value.int .u8))) (h2 : Reads w w.heap.size 1 A2 nt (ts.map (Value.int .u32))) (hn : n ≤ 1048576) (ht : nt ≤ 1048576)
    (hk : ∀ x ∈ ks, 0 ≤ x ∧ x ≤ 255) (hd : ∀ x ∈ ts, 0 ≤ x ∧ x ≤ 4294967295) :
    Calls Try.prog 20 #[.slice A1 n cc1, .slice A2 nt cc2] w (TopsPost n nt ks ts w) := by
  have l1 : ks.length = n := by have := h1.1; simpa using this
  have l2 : ts.length = nt := by have := h2.1; simpa using this
  have H1 := Lib.hid h1; have H2 := Lib.hid h2; have L1 := Lib.hid l1; have L2 := Lib.hid l2; have HK := Lib.hid hk; have HD := Lib.hid hd
  clear h1 h2 l1 l2 hk hd
  go_enter Try.func20, Try.ntmps20
  go_wp2
  go_loop [5] (fun t => ∃ k : Nat, t = .int .i64 k ∧ k ≤ nt ∧ (∀ m, m < k → ts.getD m 0 < n ∧ ¬ ks.getD (ts.getD m 0).toNat 0 % 3 = 0)) (fun t => nt - (intOf t).toNat)
  case atStart => exact ⟨0, rfl, by omega, fun m hm => by omega⟩
  case round =>
    obtain ⟨k, rfl, hk, hok⟩ := hrel
    have HOK := Lib.hid hok
    clear hok
    by_cases hlt : k < nt
    · obtain ⟨b2, off2, e2, hb2, hc2⟩ := reads_any H2.out (by omega)
      subst e2
      obtain ⟨x2, hx2⟩ : ∃ x, ts[k]? = some x := ⟨_, List.getElem?_eq_getElem (by have := L2.out; omega)⟩
      have q2 := HD.out x2 (List.mem_of_getElem? hx2)
      have d2 : w.cell? ⟨b2, off2 + k, none⟩ = some (.int .u32 x2) := hc2 k x2 hx2
      have G2 : Hid (ts.getD k 0 = x2) := Lib.hid (by rw [List.getD_eq_getElem?_getD, hx2]; rfl)
      clear hc2 hx2
      have hw1 : IntKind.u32.wrap (n : Int) = n := by rw [IntKind.wrap_u32]; omega
      by_cases hin : x2 < n
      · obtain ⟨i, rfl⟩ := Int.eq_ofNat_of_zero_le q2.1
        obtain ⟨b1, off1, e1, hb1, hc1⟩ := reads_any H1.out (by omega)
        subst e1
        obtain ⟨x1, hx1⟩ : ∃ x, ks[i]? = some x := ⟨_, List.getElem?_eq_getElem (by have := L1.out; omega)⟩
        have q1 := HK.out x1 (List.mem_of_getElem? hx1)
        have d1 : w.cell? ⟨b1, off1 + i, none⟩ = some (.int .u8 x1) := hc1 i x1 hx1
        have G1 : Hid (ks.getD i 0 = x1) := Lib.hid (by rw [List.getD_eq_getElem?_getD, hx1]; rfl)
        clear hc1 hx1
        have t1 : decide ((n : Int) ≤ (i : Int)) = false := by simp; omega
        by_cases hp : x1 % 3 = 0
        · have HP : Hid (pin x1 = true) := Lib.hid (by unfold pin; simpa using hp)
          clear hp
          go_wp2_with (go_at_call 27; refine (pin_any x1 q1.1 q1.2 _).mono ?_; rw [HP.out]; rintro e wz ⟨rfl, rfl⟩)
          go_ret
          exact ⟨false, rfl, (fun h => by cases h), rfl⟩
        · have HP : Hid (pin x1 = false) := Lib.hid (by unfold pin; simpa using hp)
          have HF : Hid (∀ m, m < k + 1 → ts.getD m 0 < n ∧ ¬ ks.getD (ts.getD m 0).toNat 0 % 3 = 0) := Lib.hid (fun m hm => by
            by_cases e : m = k
            · subst e; rw [G2.out, Int.toNat_natCast, G1.out]; exact ⟨hin, hp⟩
            · exact HOK.out m (by omega))
          clear hp
          go_wp2_with (go_at_call 27; refine (pin_any x1 q1.1 q1.2 _).mono ?_; rw [HP.out]; rintro e wz ⟨rfl, rfl⟩)
          go_round
          case rel => exact ⟨k + 1, by go_num, by omega, HF.out⟩
          case measure => simp [intOf]; omega
      · have t1 : decide ((n : Int) ≤ x2) = true := by simp; omega
        go_wp2
        go_ret
        exact ⟨false, rfl, (fun h => by cases h), rfl⟩
    · obtain rfl : k = nt := by omega
      go_wp2
      go_ret
      exact ⟨true, rfl, fun _ => HOK.out, rfl⟩
set_option maxHeartbeats 2000000 in
set_option maxRecDepth 100000 in
theorem zbytes (A1 : Option Addr) (n1 c1 : Nat) (A2 : Option Addr) (n2 c2' : Nat) (A3 : Option Addr) (n3 c3' : Nat) (k0 k1 k2 k3 : Int) (w : World)
    (l1 : n1 ≤ 9223372036854775807) (l2 : n2 ≤ 9223372036854775807) (l3 : n3 ≤ 9223372036854775807) :
    Calls Try.prog 4 #[.slice A1 n1 c1, .slice A2 n2 c2', .slice A3 n3 c3', .int .u32 k0, .int .u32 k1, .int .u32 k2, .int .u32 k3] w (AnyBool w) := by
  go_enter Try.func4, Try.ntmps4
  go_wp2
  all_goals (go_ret; exact ⟨_, rfl, rfl⟩)
/-- What the law's guard asks. -/
structure Fit (n nt nc : Nat) (c0 c1 c2 c3 : Int) (ks ts : List Int) : Prop where
  hn : n ≤ 65536
  ht : nt ≤ 65536
  ec : nc = nt
  hc : c0 ≤ 65536 ∧ c1 ≤ 65536 ∧ c2 ≤ 65536 ∧ c3 ≤ 65536
  tops : ∀ m, m < nt → ts.getD m 0 < n ∧ ¬ ks.getD (ts.getD m 0).toNat 0 % 3 = 0
def FitPost (n nt nc : Nat) (c0 c1 c2 c3 : Int) (ks ts : List Int) (w : World) (e : Ending) (w' : World) : Prop :=
  ∃ b, e = .returned (.bool b) ∧ (b = true → Fit n nt nc c0 c1 c2 c3 ks ts) ∧ w = w'
set_option maxHeartbeats 8000000 in
set_option maxRecDepth 100000 in
theorem fit_any (A1 : Option Addr) (n cc1 : Nat) (ks : List Int) (A2 : Option Addr) (nt cc2 : Nat) (ts : List Int) (A3 : Option Addr) (nc cc3 : Nat) (c0 c1 c2 c3 : Int) (w : World)
    (h1 : Reads w w.heap.size 1 A1 n (ks.map (Value.int .u8))) (h2 : Reads w w.heap.size 1 A2 nt (ts.map (Value.int .u32)))
    (l1 : n ≤ 9223372036854775807) (l2 : nt ≤ 9223372036854775807) (l3 : nc ≤ 9223372036854775807)
    (hk : ∀ x ∈ ks, 0 ≤ x ∧ x ≤ 255) (hd : ∀ x ∈ ts, 0 ≤ x ∧ x ≤ 4294967295) :
    Calls Try.prog 5 #[.slice A1 n cc1, .slice A2 nt cc2, .slice A3 nc cc3, .int .u32 c0, .int .u32 c1, .int .u32 c2, .int .u32 c3] w (FitPost n nt nc c0 c1 c2 c3 ks ts w) := by
  have H1 := Lib.hid h1; have H2 := Lib.hid h2; have HK := Lib.hid hk; have HD := Lib.hid hd
  clear h1 h2 hk hd
  have hno : FitPost n nt nc c0 c1 c2 c3 ks ts w (.returned (.bool false)) w := ⟨false, rfl, (fun h => by cases h), rfl⟩
  have HNO := Lib.hid hno
  clear hno
  by_cases b1 : n ≤ 65536
  rotate_left
  · go_enter Try.func5, Try.ntmps5
    go_wp2
    go_ret
    exact HNO.out
  by_cases b2 : nt ≤ 65536
  rotate_left
  · go_enter Try.func5, Try.ntmps5
    go_wp2
    go_ret
    exact HNO.out
  by_cases b3 : nc ≤ 65536
  rotate_left
  · go_enter Try.func5, Try.ntmps5
    go_wp2
    go_ret
    exact HNO.out
  by_cases hc : c0 ≤ 65536 ∧ c1 ≤ 65536 ∧ c2 ≤ 65536 ∧ c3 ≤ 65536
  · have HC := Lib.hid hc
    have HCB := Lib.hid (show decide (c0 ≤ 65536 ∧ c1 ≤ 65536 ∧ c2 ≤ 65536 ∧ c3 ≤ 65536) = true by simpa using hc)
    clear hc
    by_cases hnc : nc = nt
    · subst hnc
      go_enter Try.func5, Try.ntmps5
      go_wp2_with (go_at_call 19; refine (counts_any c0 c1 c2 c3 _).mono ?_; rw [HCB.out]; rintro e wz ⟨rfl, rfl⟩)
      all_goals first | (go_ret; exact HNO.out) | skip
      refine (tops_any A1 n cc1 ks A2 nc cc2 ts w H1.out H2.out (by omega) (by omega) HK.out HD.out).mono ?_
      rintro e w1 ⟨b, rfl, hb, rfl⟩
      have HBB := Lib.hid hb
      clear hb
      go_wp2
      go_ret
      exact ⟨b, rfl, fun h => ⟨b1, b2, rfl, HC.out, HBB.out h⟩, rfl⟩
    · have t1 : ((nc : Int) != (nt : Int)) = true := by rw [bne_iff_ne]; omega
      clear hnc
      go_enter Try.func5, Try.ntmps5
      go_wp2_with (go_at_call 19; refine (counts_any c0 c1 c2 c3 _).mono ?_; rw [HCB.out]; rintro e wz ⟨rfl, rfl⟩)
      all_goals (go_ret; exact HNO.out)
  · have HCB := Lib.hid (show decide (c0 ≤ 65536 ∧ c1 ≤ 65536 ∧ c2 ≤ 65536 ∧ c3 ≤ 65536) = false by simpa using hc)
    clear hc
    go_enter Try.func5, Try.ntmps5
    go_wp2_with (go_at_call 19; refine (counts_any c0 c1 c2 c3 _).mono ?_; rw [HCB.out]; rintro e wz ⟨rfl, rfl⟩)
    all_goals (go_ret; exact HNO.out)
end Go.Proofs.Ytlpmkbdglpnjhaa
