/- n011_102: the law's own helpers: bounds, copies, counts, the end of a chain of links. -/
import Derived.Test.YtgjmjdacdjobjaaDoorMin
import Derived.Test.YtgjmjdacdjobjaaDoorBdt
import Derived.Test.YtgjmjdacdjobjaaDoorFlw
namespace Go.Proofs.YtgjmjdacdjobjaaDoor
open Go.RowKit
set_option linter.unusedVariables false
set_option linter.unusedSimpArgs false
def AnyBool (w : World) (e : Ending) (w' : World) : Prop := ∃ b, e = .returned (.bool b) ∧ w = w'
def AnyInt (w : World) (e : Ending) (w' : World) : Prop := ∃ b : Int, e = .returned (.int .i64 b) ∧ w = w'
set_option maxHeartbeats 2000000 in
set_option maxRecDepth 100000 in
theorem zbytes (A0 : Option Addr) (n0 c0 : Nat) (s0 : List ByteArray) (A1 : Option Addr) (n1 c1 : Nat) (A2 : Option Addr) (n2 c2' : Nat) (A3 : Option Addr) (n3 c3' : Nat) (k0 k1 k2 k3 k4 : Int) (w : World)
    (h0 : Lv.ok w w.heap.size ⟨A0, n0, c0, s0⟩) (l1 : n1 ≤ 9223372036854775807) (l2 : n2 ≤ 9223372036854775807) (l3 : n3 ≤ 9223372036854775807) :
    Calls Tryd.prog 4 #[.slice A0 n0 c0, .slice A1 n1 c1, .slice A2 n2 c2', .slice A3 n3 c3', .int .u32 k0, .int .u32 k1, .int .u32 k2, .int .u32 k3, .int .u32 k4] w (AnyBool w) := by
  have l0 : n0 ≤ 9223372036854775807 := h0.2.2.1
  have H0 := Lib.hid h0
  clear h0
  go_enter Tryd.func4, Tryd.ntmps4
  go_wp2
  all_goals first | (go_ret; exact ⟨_, rfl, rfl⟩) | skip
  go_loopw [19, 20] (fun v t wr => ∃ (z : Int) (k : Nat), v = .int .i64 z ∧ t = .int .i64 k ∧ k ≤ n0 ∧ w = wr) (fun _ t _ => n0 - (intOf t).toNat)
  case atStart => exact ⟨_, 0, rfl, rfl, by omega, rfl⟩
  case round =>
    obtain ⟨z, k, rfl, rfl, hk, rfl⟩ := hrel
    by_cases hlt : k < n0
    · obtain ⟨b2, off2, e2, _, hc2⟩ := reads_any H0.out.1 (by show 0 < n0; omega)
      obtain ⟨x, hx⟩ : ∃ x, s0[k]? = some x := ⟨_, List.getElem?_eq_getElem (by have : s0.length = n0 := H0.out.2.2.2.1; omega)⟩
      have c2 := hc2 k x hx
      have hxs : x.size ≤ 9223372036854775807 := H0.out.2.2.2.2 x (List.mem_of_getElem? hx)
      simp only at e2
      subst e2
      clear hc2 hx
      go_wp2
      all_goals first | (go_ret; exact ⟨_, rfl, rfl⟩) | skip
      go_roundw
      case rel => exact ⟨_, k + 1, rfl, by go_num, by omega, by first | rfl | trivial⟩
      case measure => simp [intOf]; omega
    · obtain rfl : n0 = k := by omega
      clear hlt hk
      go_wp2
      all_goals (go_ret; exact ⟨_, rfl, rfl⟩)
set_option maxHeartbeats 1000000 in
set_option maxRecDepth 100000 in
theorem zstr (A : Option Addr) (n c : Nat) (ss : List ByteArray) (w : World) (h : Lv.ok w w.heap.size ⟨A, n, c, ss⟩) : Calls Tryd.prog 16 #[.slice A n c] w (AnyInt w) := by
  have l0 : n ≤ 9223372036854775807 := h.2.2.1
  have H0 := Lib.hid h
  clear h
  go_enter Tryd.func16, Tryd.ntmps16
  go_wp2
  go_loopw [3, 4] (fun v t wr => ∃ (z : Int) (k : Nat), v = .int .i64 z ∧ t = .int .i64 k ∧ k ≤ n ∧ w = wr) (fun _ t _ => n - (intOf t).toNat)
  case atStart => exact ⟨_, 0, rfl, rfl, by omega, rfl⟩
  case round =>
    obtain ⟨z, k, rfl, rfl, hk, rfl⟩ := hrel
    by_cases hlt : k < n
    · obtain ⟨b2, off2, e2, _, hc2⟩ := reads_any H0.out.1 (by show 0 < n; omega)
      obtain ⟨x, hx⟩ : ∃ x, ss[k]? = some x := ⟨_, List.getElem?_eq_getElem (by have : ss.length = n := H0.out.2.2.2.1; omega)⟩
      have c2 := hc2 k x hx
      have hxs : x.size ≤ 9223372036854775807 := H0.out.2.2.2.2 x (List.mem_of_getElem? hx)
      simp only at e2
      subst e2
      clear hc2 hx
      go_wp2
      all_goals first | (go_ret; exact ⟨_, rfl, rfl⟩) | skip
      go_roundw
      case rel => exact ⟨_, k + 1, rfl, by go_num, by omega, by first | rfl | trivial⟩
      case measure => simp [intOf]; omega
    · obtain rfl : n = k := by omega
      go_wp2
      go_ret
      exact ⟨_, rfl, rfl⟩
def pin (k : Int) : Bool := decide (k % 3 = 0)
def nsI (k : Int) : Int := if k % 3 = 2 then 1 else 0
def cAt (c0 c1 c2 c3 n : Int) : Int := if n = 0 then c0 else if n = 1 then c1 else if n = 2 then c2 else c3
set_option maxRecDepth 100000 in
theorem pin_any (k : Int) (h0 : 0 ≤ k) (h1 : k ≤ 255) (w : World) : Calls Tryd.prog 15 #[.int .u8 k] w fun e w' => e = .returned (.bool (pin k)) ∧ w = w' := by
  rcases (by omega : k % 3 = 0 ∨ ¬ k % 3 = 0) with e | e
  · have HK := Lib.hid (show pin k = true by unfold pin; simpa using e)
    have t : (k % 3 == 0) = true := by rw [beq_iff_eq]; exact e
    go_enter Tryd.func15, Tryd.ntmps15
    go_wp2
    go_ret
    exact ⟨ret_bool HK.out.symm, rfl⟩
  · have HK := Lib.hid (show pin k = false by unfold pin; simpa using e)
    have t : (k % 3 == 0) = false := by rw [beq_eq_false_iff_ne]; exact e
    go_enter Tryd.func15, Tryd.ntmps15
    go_wp2
    go_ret
    exact ⟨ret_bool HK.out.symm, rfl⟩
set_option maxRecDepth 100000 in
theorem ns_any (k : Int) (h0 : 0 ≤ k) (h1 : k ≤ 255) (w : World) : Calls Tryd.prog 28 #[.int .u8 k] w fun e w' => e = .returned (.int .i64 (nsI k)) ∧ w = w' := by
  rcases (by omega : k % 3 = 2 ∨ ¬ k % 3 = 2) with e | e
  · have HK := Lib.hid (show nsI k = 1 by unfold nsI; rw [if_pos e])
    have t : (k % 3 == 2) = true := by rw [beq_iff_eq]; exact e
    go_enter Tryd.func28, Tryd.ntmps28
    go_wp2
    go_ret
    exact ⟨ret_int HK.out.symm, rfl⟩
  · have HK := Lib.hid (show nsI k = 0 by unfold nsI; rw [if_neg e])
    have t : (k % 3 == 2) = false := by rw [beq_eq_false_iff_ne]; exact e
    go_enter Tryd.func28, Tryd.ntmps28
    go_wp2
    go_ret
    exact ⟨ret_int HK.out.symm, rfl⟩
set_option maxRecDepth 100000 in
theorem cAt_any (c0 c1 c2 c3 m : Int) (hm : m = 0 ∨ m = 1) (w : World) : Calls Tryd.prog 27 #[.int .u32 c0, .int .u32 c1, .int .u32 c2, .int .u32 c3, .int .i64 m] w fun e w' => e = .returned (.int .u32 (cAt c0 c1 c2 c3 m)) ∧ w = w' := by
  rcases hm with rfl | rfl
  · go_enter Tryd.func27, Tryd.ntmps27
    go_wp2
    go_ret
    exact ⟨rfl, rfl⟩
  · go_enter Tryd.func27, Tryd.ntmps27
    go_wp2
    go_ret
    exact ⟨rfl, rfl⟩
set_option maxRecDepth 100000 in
theorem counts_any (c0 c1 c2 c3 : Int) (w : World) : Calls Tryd.prog 17 #[.int .u32 c0, .int .u32 c1, .int .u32 c2, .int .u32 c3] w fun e w' => e = .returned (.bool (decide (c0 ≤ 65536 ∧ c1 ≤ 65536 ∧ c2 ≤ 65536 ∧ c3 ≤ 65536))) ∧ w = w' := by
  by_cases h0 : c0 ≤ 65536
  · by_cases h1 : c1 ≤ 65536
    · by_cases h2 : c2 ≤ 65536
      · by_cases h3 : c3 ≤ 65536
        · go_enter Tryd.func17, Tryd.ntmps17
          go_wp2
          go_ret
          exact ⟨ret_bool (by simp [*]), rfl⟩
        · go_enter Tryd.func17, Tryd.ntmps17
          go_wp2
          go_ret
          exact ⟨ret_bool (by simp; omega), rfl⟩
      · go_enter Tryd.func17, Tryd.ntmps17
        go_wp2
        go_ret
        exact ⟨ret_bool (by simp; omega), rfl⟩
    · go_enter Tryd.func17, Tryd.ntmps17
      go_wp2
      go_ret
      exact ⟨ret_bool (by simp; omega), rfl⟩
  · go_enter Tryd.func17, Tryd.ntmps17
    go_wp2
    go_ret
    exact ⟨ret_bool (by simp; omega), rfl⟩
/-- Every symbol that is not pinned has no slot, or one in range. -/
def nestOk (c0 c1 c2 c3 : Int) (ks ds : List Int) (m : Nat) : Prop := ks.getD m 0 % 3 = 0 ∨ ds.getD m 0 = 0 ∨ ds.getD m 0 - 1 < cAt c0 c1 c2 c3 (nsI (ks.getD m 0))
def NestPost (n1 n3 : Nat) (c0 c1 c2 c3 : Int) (ks ds : List Int) (w : World) (e : Ending) (w' : World) : Prop :=
  ∃ b, e = .returned (.bool b) ∧ (b = true → ∀ m, m < n1 → m < n3 → nestOk c0 c1 c2 c3 ks ds m) ∧ ∃ N, w' = w.drewN N
theorem nsI_01 (k : Int) : nsI k = 0 ∨ nsI k = 1 := by unfold nsI; split <;> simp
set_option maxHeartbeats 4000000 in
set_option maxRecDepth 100000 in
theorem nest_any (A1 : Option Addr) (n1 cc1 : Nat) (ks : List Int) (A3 : Option Addr) (n3 cc3 : Nat) (ds : List Int) (c0 c1 c2 c3 : Int) (w : World)
    (h1 : Reads w w.heap.size 1 A1 n1 (ks.map (Value.int .u8))) (h3 : Reads w w.heap.size 1 A3 n3 (ds.map (Value.int .u32))) (hn1 : n1 ≤ 1048576) (hn3 : n3 ≤ 1048576)
    (hk : ∀ x ∈ ks, 0 ≤ x ∧ x ≤ 255) (hd : ∀ x ∈ ds, 0 ≤ x ∧ x ≤ 4294967295) :
    Calls Tryd.prog 18 #[.slice A1 n1 cc1, .slice A3 n3 cc3, .int .u32 c0, .int .u32 c1, .int .u32 c2, .int .u32 c3] w (NestPost n1 n3 c0 c1 c2 c3 ks ds w) := by
  have l1 : ks.length = n1 := by have := h1.1; simpa using this
  have l3 : ds.length = n3 := by have := h3.1; simpa using this
  have H1 := Lib.hid h1; have H3 := Lib.hid h3; have L1 := Lib.hid l1; have L3 := Lib.hid l3; have HK := Lib.hid hk; have HD := Lib.hid hd
  clear h1 h3 l1 l3 hk hd
  go_enter Tryd.func18, Tryd.ntmps18
  go_wp2
  go_loopw [13] (fun t wr => ∃ (k N : Nat), t = .int .i64 k ∧ k ≤ n1 ∧ (∀ m, m < k → nestOk c0 c1 c2 c3 ks ds m) ∧ wr = w.drewN N) (fun t _ => n1 - (intOf t).toNat)
  case atStart => exact ⟨0, 0, rfl, by omega, fun m hm => by omega, rfl⟩
  case round =>
    obtain ⟨k, N, rfl, hk, hok, hwr0⟩ := hrel
    have HOK := Lib.hid hok; have HW := Lib.hid hwr0
    have hcell : ∀ p : Addr, wr.cell? p = w.cell? p := fun p => by rw [hwr0]; rfl
    have HCELL := Lib.hid hcell
    clear hok hwr0 hcell
    by_cases hlt1 : k < n1
    · by_cases hlt3 : k < n3
      · obtain ⟨b1, off1, e1, hb1, hc1⟩ := reads_any H1.out (by omega)
        subst e1
        obtain ⟨b3, off3, e3, hb3, hc3⟩ := reads_any H3.out (by omega)
        subst e3
        obtain ⟨x1, hx1⟩ : ∃ x, ks[k]? = some x := ⟨_, List.getElem?_eq_getElem (by have := L1.out; omega)⟩
        obtain ⟨x3, hx3⟩ : ∃ x, ds[k]? = some x := ⟨_, List.getElem?_eq_getElem (by have := L3.out; omega)⟩
        have q1 := HK.out x1 (List.mem_of_getElem? hx1)
        have q3 := HD.out x3 (List.mem_of_getElem? hx3)
        have d1 : wr.cell? ⟨b1, off1 + k, none⟩ = some (.int .u8 x1) := (HCELL.out _).trans (hc1 k x1 hx1)
        have d3 : wr.cell? ⟨b3, off3 + k, none⟩ = some (.int .u32 x3) := (HCELL.out _).trans (hc3 k x3 hx3)
        have G1 : Hid (ks.getD k 0 = x1) := Lib.hid (by rw [List.getD_eq_getElem?_getD, hx1]; rfl)
        have G3 : Hid (ds.getD k 0 = x3) := Lib.hid (by rw [List.getD_eq_getElem?_getD, hx3]; rfl)
        clear hc1 hc3 hx1 hx3
        have step : nestOk c0 c1 c2 c3 ks ds k → ∀ m, m < k + 1 → nestOk c0 c1 c2 c3 ks ds m := fun h m hm => by
          by_cases e : m = k
          · subst e; exact h
          · exact HOK.out m (by omega)
        have STEP := Lib.hid step
        clear step
        by_cases hp : x1 % 3 = 0
        · have HP : Hid (pin x1 = true) := Lib.hid (by unfold pin; simpa using hp)
          have HF := Lib.hid (STEP.out (.inl (by rw [G1.out]; exact hp)))
          have PI1 := Lib.hid (fun W : World => (pin_any x1 q1.1 q1.2 W).mono (fun e w' h => (⟨by rw [h.1, HP.out], h.2.symm⟩ : e = Ending.returned (.bool true) ∧ w' = W)))
          clear hp
          go_wp2
          go_quiet ((go_at_call 15; exact Calls.quiet_of_same (PI1.out _)))
          go_wp2
          go_roundw
          case rel => exact ⟨k + 1, _, by go_num, by omega, HF.out, by first | exact HW.out | (rw [HW.out, World.drewN_drewN])⟩
          case measure => simp [intOf]; omega
        · have HP : Hid (pin x1 = false) := Lib.hid (by unfold pin; simpa using hp)
          have PI1 := Lib.hid (fun W : World => (pin_any x1 q1.1 q1.2 W).mono (fun e w' h => (⟨by rw [h.1, HP.out], h.2.symm⟩ : e = Ending.returned (.bool false) ∧ w' = W)))
          by_cases h0 : x3 = 0
          · have t3 : (x3 != 0) = false := by rw [h0]; rfl
            have HF := Lib.hid (STEP.out (.inr (.inl (by rw [G3.out]; exact h0))))
            clear h0 hp
            go_wp2
            go_quiet ((go_at_call 15; exact Calls.quiet_of_same (PI1.out _)))
            go_wp2
            go_roundw
            case rel => exact ⟨k + 1, _, by go_num, by omega, HF.out, by first | exact HW.out | (rw [HW.out, World.drewN_drewN])⟩
            case measure => simp [intOf]; omega
          · have t3 : (x3 != 0) = true := by rw [bne_iff_ne]; exact h0
            have hwr : IntKind.u32.wrap (x3 - 1) = x3 - 1 := by rw [IntKind.wrap_u32]; omega
            have NS1 := Lib.hid (fun W : World => (ns_any x1 q1.1 q1.2 W).mono (fun e w' h => (⟨h.1, h.2.symm⟩ : e = Ending.returned (.int .i64 (nsI x1)) ∧ w' = W)))
            have CA1 := Lib.hid (fun W : World => (cAt_any c0 c1 c2 c3 (nsI x1) (nsI_01 x1) W).mono (fun e w' h => (⟨h.1, h.2.symm⟩ : e = Ending.returned (.int .u32 (cAt c0 c1 c2 c3 (nsI x1))) ∧ w' = W)))
            have hp0 : 0 ≤ x3 - 1 := by omega
            by_cases hc : x3 - 1 < cAt c0 c1 c2 c3 (nsI x1)
            · have HF := Lib.hid (STEP.out (.inr (.inr (by rw [G3.out, G1.out]; exact hc))))
              have t4 : decide (cAt c0 c1 c2 c3 (nsI x1) ≤ x3 - 1) = false := by simp; omega
              clear h0 hp
              go_wp2
              go_quiet ((first | (go_at_call 15; exact Calls.quiet_of_same (PI1.out _)) | (go_at_call 28; exact Calls.quiet_of_same (NS1.out _)) | (go_at_call 27; exact Calls.quiet_of_same (CA1.out _))))
              go_wp2
              go_roundw
              case rel => exact ⟨k + 1, _, by go_num, by omega, HF.out, by first | exact HW.out | (rw [HW.out, World.drewN_drewN])⟩
              case measure => simp [intOf]; omega
            · have t4 : decide (cAt c0 c1 c2 c3 (nsI x1) ≤ x3 - 1) = true := by simp; omega
              have hc' : cAt c0 c1 c2 c3 (nsI x1) ≤ x3 - 1 := by omega
              clear h0 hp
              go_wp2
              go_quiet ((first | (go_at_call 15; exact Calls.quiet_of_same (PI1.out _)) | (go_at_call 28; exact Calls.quiet_of_same (NS1.out _)) | (go_at_call 27; exact Calls.quiet_of_same (CA1.out _))))
              go_wp2
              go_ret
              exact ⟨false, rfl, (fun h => by cases h), _, by first | exact HW.out | (rw [HW.out, World.drewN_drewN])⟩
      · have hok2 : ∀ m, m < n1 → m < n3 → nestOk c0 c1 c2 c3 ks ds m := fun m h1 h2 => HOK.out m (by omega)
        have HOK2 := Lib.hid hok2
        clear hok2 HOK
        go_wp2
        go_ret
        exact ⟨true, rfl, fun _ => HOK2.out, _, by first | exact HW.out | (rw [HW.out, World.drewN_drewN])⟩
    · have hok2 : ∀ m, m < n1 → m < n3 → nestOk c0 c1 c2 c3 ks ds m := fun m h1 h2 => HOK.out m (by omega)
      have HOK2 := Lib.hid hok2
      clear hok2 HOK
      go_wp2
      go_ret
      exact ⟨true, rfl, fun _ => HOK2.out, _, by first | exact HW.out | (rw [HW.out, World.drewN_drewN])⟩
theorem counts_size : (Tryd.prog.info? 37).map (·.size) = some 4 := by kernel_rfl
set_option maxRecDepth 100000 in
theorem sc_any (c0 c1 c2 c3 : Int) (w : World) : Calls Tryd.prog 11 #[.int .u32 c0, .int .u32 c1, .int .u32 c2, .int .u32 c3] w (KPost (.agg #[.int .u32 c0, .int .u32 c1, .int .u32 c2, .int .u32 c3]) w) := by
  have HF := Lib.hid ((Blk.new w 37 #[.int .u32 c0, .int .u32 c1, .int .u32 c2, .int .u32 c3]).alloc (.cells #[.int .u32 c0, .int .u32 c1, .int .u32 c2, .int .u32 c3] 37))
  go_enter Tryd.func11, Tryd.ntmps11
  go_wp2
  refine bodyPost_ret (results_cell_row rfl _ _ w.heap.size _ #[.int .u32 c0, .int .u32 c1, .int .u32 c2, .int .u32 c3] (0, 0) _ rfl HF.out Tryd.underlying37 rfl counts_size) rfl ?_
  exact ⟨rfl, only_alloc (only_alloc (World.grownBy.refl _ _) _) _⟩
/-- The end of a chain of links that lead forward. -/
def rootF (n : Nat) (ls : List Int) (t : Nat) : Nat := if h : t < n ∧ (t : Int) < ls.getD t 0 ∧ ls.getD t 0 < n then rootF n ls (ls.getD t 0).toNat else t
  termination_by n - t
  decreasing_by (have := h.2.1; have := h.2.2; omega)
theorem rootF_step {n : Nat} {ls : List Int} {t : Nat} (h : t < n ∧ (t : Int) < ls.getD t 0 ∧ ls.getD t 0 < n) : rootF n ls t = rootF n ls (ls.getD t 0).toNat := by rw [rootF, dif_pos h]
theorem rootF_end {n : Nat} {ls : List Int} {t : Nat} (h : ¬ (t < n ∧ (t : Int) < ls.getD t 0 ∧ ls.getD t 0 < n)) : rootF n ls t = t := by rw [rootF, dif_neg h]
theorem rootF_roots (n : Nat) (ls : List Int) : Roots n (rootF n ls) (fun m => n - m) := by
  have key : ∀ d t, n - t = d → t < n → rootF n ls t < n ∧ rootF n ls (rootF n ls t) = rootF n ls t ∧ n - rootF n ls t ≤ n - t := by
    intro d
    induction d using Nat.strongRecOn with
    | ind d ih =>
      intro t hd ht
      by_cases h : t < n ∧ (t : Int) < ls.getD t 0 ∧ ls.getD t 0 < n
      · rw [rootF_step h]
        have h1 := h.2.1; have h2 := h.2.2
        obtain ⟨k1, k2, k3⟩ := ih (n - (ls.getD t 0).toNat) (by omega) (ls.getD t 0).toNat rfl (by omega)
        exact ⟨k1, k2, by omega⟩
      · have e := rootF_end h
        rw [e, e]
        exact ⟨ht, rfl, Nat.le_refl _⟩
  exact fun m hm => key _ m rfl hm
theorem lk_of {w : World} {g n : Nat} {ss : List ByteArray} {ks ls ds : List Int} (h : Tbl w g n (symF n ss ks ls ds)) : Lk w g n (symF n ss ks ls ds) (rootF n ls) (fun m => n - m) := by
  refine ⟨_, h, fun m hm => SymR.like_refl _, fun m hm => ?_⟩
  by_cases ho : lkOk n ls m
  · have h1 := ho.1; have h2 := ho.2
    refine .inr ⟨(ls.getD m 0).toNat, if_pos ho, (if_pos ho).trans (by omega), by omega, by show n - _ < n - m; omega, (rootF_step ⟨hm, h1, h2⟩).symm⟩
  · exact .inl ⟨if_neg ho, if_neg ho, rootF_end (fun h => ho ⟨h.2.1, h.2.2⟩)⟩
set_option maxHeartbeats 2000000 in
set_option maxRecDepth 100000 in
theorem root_any (A2 : Option Addr) (n cc : Nat) (ls : List Int) (q : Nat) (w : World) (h2 : Reads w w.heap.size 1 A2 n (ls.map (Value.int .u32))) (hn : n ≤ 65536) (hq : q < n) (hl : ∀ x ∈ ls, 0 ≤ x ∧ x ≤ 4294967295) :
    Calls Tryd.prog 14 #[.slice A2 n cc, .int .u32 q] w fun e w' => e = .returned (.int .u32 (rootF n ls q)) ∧ w = w' := by
  have l2 : ls.length = n := by have := h2.1; simpa using this
  obtain ⟨b2, off2, e2, hb2, hc2⟩ := reads_any h2 (by omega)
  subst e2
  have HC2 := Lib.hid hc2; have L2 := Lib.hid l2; have HL := Lib.hid hl
  have hwn : IntKind.u32.wrap (n : Int) = n := by rw [IntKind.wrap_u32]; omega
  clear hc2 l2 hl h2
  go_enter Tryd.func14, Tryd.ntmps14
  go_wp2
  go_loop [6] (fun v => ∃ t : Nat, v = .int .u32 t ∧ t < n ∧ Hid (rootF n ls t = rootF n ls q)) (fun v => n - (intOf v).toNat)
  case atStart => exact ⟨q, rfl, hq, Lib.hid rfl⟩
  case round =>
    obtain ⟨t, rfl, ht, HT⟩ := hrel
    obtain ⟨x, hx⟩ : ∃ x, ls[t]? = some x := ⟨_, List.getElem?_eq_getElem (by have := L2.out; omega)⟩
    have qx := HL.out x (List.mem_of_getElem? hx)
    have c0 := HC2.out t x hx
    have GX : Hid (ls.getD t 0 = x) := Lib.hid (by rw [List.getD_eq_getElem?_getD, hx]; rfl)
    clear hx
    by_cases h1 : (t : Int) < x
    · by_cases h2 : x < n
      · obtain ⟨y, rfl⟩ : ∃ y : Nat, x = y := ⟨x.toNat, by omega⟩
        have HN : Hid (rootF n ls y = rootF n ls q) := Lib.hid (by
          rw [← HT.out, rootF_step (t := t) ⟨ht, by rw [GX.out]; exact h1, by rw [GX.out]; exact h2⟩, GX.out, Int.toNat_natCast])
        go_wp2
        go_round
        case rel => exact ⟨y, rfl, by omega, HN⟩
        case measure => simp [intOf]; omega
      · have HE : Hid (rootF n ls q = t) := Lib.hid (by rw [← HT.out]; exact rootF_end (fun h => h2 (by rw [← GX.out]; exact h.2.2)))
        go_wp2
        go_ret
        exact ⟨ret_int (by rw [HE.out]), rfl⟩
    · have HE : Hid (rootF n ls q = t) := Lib.hid (by rw [← HT.out]; exact rootF_end (fun h => h1 (by rw [← GX.out]; exact h.2.1)))
      go_wp2
      go_ret
      exact ⟨ret_int (by rw [HE.out]), rfl⟩
/-- What the law's guard asks. -/
structure Fit (nn n nl nd : Nat) (c0 c1 c2 c3 q : Int) (ks ds : List Int) : Prop where
  hn : n ≤ 65536
  e0 : nn = n
  e2 : nl = n
  e3 : nd = n
  hq : q < n
  hc : c0 ≤ 65536 ∧ c1 ≤ 65536 ∧ c2 ≤ 65536 ∧ c3 ≤ 65536
  nest : ∀ m, m < n → nestOk c0 c1 c2 c3 ks ds m
def FitPost (nn n nl nd : Nat) (c0 c1 c2 c3 q : Int) (ks ds : List Int) (w : World) (e : Ending) (w' : World) : Prop :=
  ∃ b, e = .returned (.bool b) ∧ (b = true → Fit nn n nl nd c0 c1 c2 c3 q ks ds) ∧ ∃ N, w' = w.drewN N
set_option maxHeartbeats 8000000 in
set_option maxRecDepth 100000 in
theorem fit_any (A0 : Option Addr) (nn cc0 : Nat) (ss : List ByteArray) (A1 : Option Addr) (n cc1 : Nat) (ks : List Int) (A2 : Option Addr) (nl cc2 : Nat) (A3 : Option Addr) (nd cc3 : Nat) (ds : List Int) (c0 c1 c2 c3 q : Int) (w : World)
    (h0 : Lv.ok w w.heap.size ⟨A0, nn, cc0, ss⟩) (h1 : Reads w w.heap.size 1 A1 n (ks.map (Value.int .u8))) (h3 : Reads w w.heap.size 1 A3 nd (ds.map (Value.int .u32)))
    (l1 : n ≤ 9223372036854775807) (l2 : nl ≤ 9223372036854775807) (l3 : nd ≤ 9223372036854775807) (hq0 : 0 ≤ q)
    (hk : ∀ x ∈ ks, 0 ≤ x ∧ x ≤ 255) (hd : ∀ x ∈ ds, 0 ≤ x ∧ x ≤ 4294967295) :
    Calls Tryd.prog 5 #[.slice A0 nn cc0, .slice A1 n cc1, .slice A2 nl cc2, .slice A3 nd cc3, .int .u32 c0, .int .u32 c1, .int .u32 c2, .int .u32 c3, .int .u32 q] w (FitPost nn n nl nd c0 c1 c2 c3 q ks ds w) := by
  have l0 : nn ≤ 9223372036854775807 := h0.2.2.1
  have H0 := Lib.hid h0; have H1 := Lib.hid h1; have H3 := Lib.hid h3; have HK := Lib.hid hk; have HD := Lib.hid hd
  clear h0 h1 h3 hk hd
  have hno : FitPost nn n nl nd c0 c1 c2 c3 q ks ds w (.returned (.bool false)) w := ⟨false, rfl, (fun h => by cases h), 0, rfl⟩
  have HNO := Lib.hid hno
  clear hno
  by_cases hbig : 65536 < nn ∨ 65536 < n ∨ 65536 < nl ∨ 65536 < nd
  · have HB := Lib.hid hbig
    clear hbig
    go_enter Tryd.func5, Tryd.ntmps5
    go_wp2
    all_goals first | (go_ret; exact HNO.out) | (exfalso; have hq := HB.out; go_light; omega)
  · have b0 : nn ≤ 65536 := by omega
    have b1 : n ≤ 65536 := by omega
    have b2 : nl ≤ 65536 := by omega
    have b3 : nd ≤ 65536 := by omega
    clear hbig
    go_enter Tryd.func5, Tryd.ntmps5
    go_wp2_with (go_at_call 16; refine (zstr A0 nn cc0 ss _ H0.out).mono ?_)
    rintro e wz ⟨z, rfl, rfl⟩
    by_cases hc : c0 ≤ 65536 ∧ c1 ≤ 65536 ∧ c2 ≤ 65536 ∧ c3 ≤ 65536
    · have HC := Lib.hid hc
      have HCB := Lib.hid (show decide (c0 ≤ 65536 ∧ c1 ≤ 65536 ∧ c2 ≤ 65536 ∧ c3 ≤ 65536) = true by simpa using hc)
      clear hc
      go_wp2_with (go_at_call 17; refine (counts_any c0 c1 c2 c3 _).mono ?_; rw [HCB.out]; rintro e wz ⟨rfl, rfl⟩)
      all_goals first | (go_ret; exact HNO.out) | skip
      have e0 : (nn : Int) = n := by assumption
      have e2 : (nl : Int) = n := by assumption
      have e3 : (nd : Int) = n := by assumption
      have eq_ : q < (n : Int) := by assumption
      have E0 := Lib.hid e0; have E2 := Lib.hid e2; have E3 := Lib.hid e3; have EQ := Lib.hid eq_
      refine (nest_any A1 n cc1 ks A3 nd cc3 ds c0 c1 c2 c3 w H1.out H3.out (by omega) (by omega) HK.out HD.out).mono ?_
      clear e0 e2 e3 eq_
      rintro e w1 ⟨b, rfl, hb, hN⟩
      have HBB := Lib.hid hb; have HNN := Lib.hid hN
      clear hb hN
      go_wp2
      go_ret
      exact ⟨b, rfl, fun h => ⟨b1, by have := E0.out; omega, by have := E2.out; omega, by have := E3.out; omega, EQ.out, HC.out, fun m hm => HBB.out h m hm (by have := E3.out; omega)⟩, HNN.out⟩
    · have HCB := Lib.hid (show decide (c0 ≤ 65536 ∧ c1 ≤ 65536 ∧ c2 ≤ 65536 ∧ c3 ≤ 65536) = false by simpa using hc)
      clear hc
      go_wp2_with (go_at_call 17; refine (counts_any c0 c1 c2 c3 _).mono ?_; rw [HCB.out]; rintro e wz ⟨rfl, rfl⟩)
      all_goals (go_ret; exact HNO.out)
/-- What a copy of names hands back. -/
def CloneS (w : World) (n : Nat) (ss : List ByteArray) (e : Ending) (w' : World) : Prop :=
  ∃ A c, e = .returned (.slice A n c) ∧ Lv.ok w' w'.heap.size ⟨A, n, c, ss⟩ ∧ Below w.heap.size w w'
theorem str_info : (Tryd.prog.info? 9).map (fun i => (i.zero, i.size, i.bytes)) = some (some (.string ⟨#[]⟩), 1, 16) := by kernel_rfl
def mkS (n : Nat) : Array Value := madeCells #[.string ⟨#[]⟩] n
set_option maxHeartbeats 1000000 in
set_option maxRecDepth 100000 in
theorem cloneS (A : Option Addr) (n c : Nat) (ss : List ByteArray) (w : World) (h : Lv.ok w w.heap.size ⟨A, n, c, ss⟩) (hn : n ≤ 16777216) : Calls Tryd.prog 6 #[.slice A n c] w (CloneS w n ss) := by
  have heq : ∀ (W : World) (a : Option Addr) (l c : Nat), (binOp .eql 22 (.slice a l c) (.slice none 0 0)).run Tryd.prog W = .ok (.bool a.isNone) W := fun W a l c => Lib.run_eql_slice_nil W 22 9 a l c 0 0 Tryd.underlying22
  cases A with
  | none =>
    have hn0 : n = 0 := h.2.1 rfl
    subst hn0
    have H := Lib.hid h
    clear h
    go_enter Tryd.func6, Tryd.ntmps6
    go_wp2
    go_ret
    exact ⟨none, 0, rfl, H.out, Below.refl _ _⟩
  | some ad =>
    obtain ⟨i0, hi, hz0, hz1, hz2⟩ := info_parts str_info
    have hlen : ss.length = n := h.2.2.2.1
    have hmk : ∀ W : World, (Instr.makeSlice 22 (.int .i64 (n : Int)) (.int .i64 (n : Int))).run Tryd.prog W = .ok (.slice (some ⟨W.heap.size, 0, none⟩) n n) (W.alloc (.cells (mkS n) 9)) := fun W => by
      have := run_make (P := Tryd.prog) W 22 9 i0 (.string ⟨#[]⟩) Tryd.underlying22 hi hz0 .i64 .i64 n n (by omega) (by omega) (by rw [hz2]; omega) (by omega)
      simpa [hz1, Value.cells, mkS] using this
    have HM0 := Lib.hid (Blk.new w 9 (mkS n))
    have HMS := Lib.hid (show (mkS n).size = n by simp [mkS, madeCells])
    have H := Lib.hid h; have HLEN := Lib.hid hlen
    clear h hlen
    go_enter Tryd.func6, Tryd.ntmps6
    go_wp2
    clear hmk heq
    go_loopw [4] (fun i wr => ∃ (k : Nat) (cs : Array Value), i = .int .i64 k ∧ k ≤ n ∧ Blk wr w.heap.size 9 cs ∧ cs.size = n ∧ (∀ j, j < k → cs[j]? = (ss.map Value.string)[j]?) ∧ Below w.heap.size w wr) (fun i _ => n - (intOf i).toNat)
    case atStart => exact ⟨0, _, rfl, by omega, HM0.out, HMS.out, fun j hj => by omega, (Below.refl _ _).alloc (Nat.le_refl _) _⟩
    case round =>
      obtain ⟨k, cs, rfl, hk, hb, hcs, hj, hbw⟩ := hrel
      have HB := Lib.hid hb; have HCS := Lib.hid hcs; have HJ := Lib.hid hj
      have hlt0 := hb.lt
      clear hb hcs hj
      by_cases hlt : k < n
      · obtain ⟨b, off, e1, hbk, hc⟩ := reads_any (H.out.1.below hbw) (by show 0 < n; omega)
        obtain rfl := Option.some.inj e1
        obtain ⟨x, hx⟩ : ∃ x, ss[k]? = some x := ⟨_, List.getElem?_eq_getElem (by have := HLEN.out; omega)⟩
        have hc1 := hc k x hx
        have HX := Lib.hid hx
        have c0 : wr.cell? ⟨w.heap.size, k, none⟩ = some (cs[k]'(by have := HCS.out; omega)) := by
          rw [HB.out.cell k, Array.getElem?_eq_getElem]
        have z0 : wr.frozen? ⟨w.heap.size, k, none⟩ = false := HB.out.frozen k
        generalize (cs[k]'(by have := HCS.out; omega)) = v at c0
        clear hx hc e1
        go_wp2
        go_roundw
        case rel =>
          refine ⟨k + 1, cs.setIfInBounds k (.string x), by go_num, by omega, HB.out.set_ k _, by rw [Array.size_setIfInBounds]; exact HCS.out, fun j hj => ?_, hbw.setCell (p := ⟨w.heap.size, k, none⟩) (Nat.le_refl _) _⟩
          rw [Array.getElem?_setIfInBounds]
          by_cases e : k = j
          · subst e
            rw [if_pos rfl, if_pos (by have := HCS.out; omega), List.getElem?_map, HX.out]; rfl
          · rw [if_neg e]; exact HJ.out j (by omega)
        case measure => simp [intOf]; omega
      · obtain rfl : k = n := by omega
        go_wp2
        go_ret
        refine ⟨_, _, rfl, ⟨⟨by simp [HLEN.out], fun hn => ⟨_, rfl, hlt0, fun j u hu => ?_⟩⟩, (fun h => by cases h), H.out.2.2.1, HLEN.out, H.out.2.2.2.2⟩, hbw⟩
        have hjl : j < k := by have := (List.getElem?_eq_some_iff.1 hu).1; simp at this; have := HLEN.out; omega
        rw [← hu, ← HJ.out j hjl, ← HB.out.cell]
        unfold Addr.add
        split
        · rename_i h0; subst h0; rfl
        · show wr.cell? ⟨w.heap.size, 0 + j, none⟩ = _
          rw [Nat.zero_add]
end Go.Proofs.YtgjmjdacdjobjaaDoor
