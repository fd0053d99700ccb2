/- n011_102: the law's own helpers: bounds, copies, counts, the end of a chain of links. -/
import Derived.Test.YtljgaldndgbcjaaDoorMin
import Derived.Test.YtljgaldndgbcjaaDoorBdt
import Derived.Test.YtljgaldndgbcjaaDoorFlw
namespace Go.Proofs.YtljgaldndgbcjaaDoor
open Go.RowKit
set_option linter.unusedVariables false
set_option linter.unusedSimpArgs false
def AnyBool (w : World) (e : Ending) (w' : World) : Prop := ∃ b, e = .returned (.bool b) ∧ w = w'
def AnyInt (w : World) (e : Ending) (w' : World) : Prop := ∃ b : Int, e = .returned (.int .i64 b) ∧ w = w'
def pin (k : Int) : Bool := decide (k % 3 = 0)
def nsI (k : Int) : Int := if k % 3 = 2 then 1 else 0
def cAt (c0 c1 c2 c3 n : Int) : Int := if n = 0 then c0 else if n = 1 then c1 else if n = 2 then c2 else c3
set_option maxRecDepth 100000 in
theorem pin_any (k : Int) (h0 : 0 ≤ k) (h1 : k ≤ 255) (w : World) : Calls Tryd.prog 15 #[.int .u8 k] w fun e w' => e = .returned (.bool (pin k)) ∧ w = w' := by
  rcases (by omega : k % 3 = 0 ∨ ¬ k % 3 = 0) with e | e
  · have HK := Lib.hid (show pin k = true by unfold pin; simpa using e)
    have t : (k % 3 == 0) = true := by rw [beq_iff_eq]; exact e
    go_enter Tryd.func15, Tryd.ntmps15
    go_wp2
    go_ret
    exact ⟨ret_bool HK.out.symm, rfl⟩
  · have HK := Lib.hid (show pin k = false by unfold pin; simpa using e)
    have t : (k % 3 == 0) = false := by rw [beq_eq_false_iff_ne]; exact e
    go_enter Tryd.func15, Tryd.ntmps15
    go_wp2
    go_ret
    exact ⟨ret_bool HK.out.symm, rfl⟩
set_option maxRecDepth 100000 in
theorem ns_any (k : Int) (h0 : 0 ≤ k) (h1 : k ≤ 255) (w : World) : Calls Tryd.prog 18 #[.int .u8 k] w fun e w' => e = .returned (.int .i64 (nsI k)) ∧ w = w' := by
  rcases (by omega : k % 3 = 2 ∨ ¬ k % 3 = 2) with e | e
  · have HK := Lib.hid (show nsI k = 1 by unfold nsI; rw [if_pos e])
    have t : (k % 3 == 2) = true := by rw [beq_iff_eq]; exact e
    go_enter Tryd.func18, Tryd.ntmps18
    go_wp2
    go_ret
    exact ⟨ret_int HK.out.symm, rfl⟩
  · have HK := Lib.hid (show nsI k = 0 by unfold nsI; rw [if_neg e])
    have t : (k % 3 == 2) = false := by rw [beq_eq_false_iff_ne]; exact e
    go_enter Tryd.func18, Tryd.ntmps18
    go_wp2
    go_ret
    exact ⟨ret_int HK.out.symm, rfl⟩
set_option maxRecDepth 100000 in
theorem cAt_any (c0 c1 c2 c3 m : Int) (hm : m = 0 ∨ m = 1) (w : World) : Calls Tryd.prog 33 #[.int .u32 c0, .int .u32 c1, .int .u32 c2, .int .u32 c3, .int .i64 m] w fun e w' => e = .returned (.int .u32 (cAt c0 c1 c2 c3 m)) ∧ w = w' := by
  rcases hm with rfl | rfl
  · go_enter Tryd.func33, Tryd.ntmps33
    go_wp2
    go_ret
    exact ⟨rfl, rfl⟩
  · go_enter Tryd.func33, Tryd.ntmps33
    go_wp2
    go_ret
    exact ⟨rfl, rfl⟩
set_option maxRecDepth 100000 in
theorem counts_any (c0 c1 c2 c3 : Int) (w : World) : Calls Tryd.prog 19 #[.int .u32 c0, .int .u32 c1, .int .u32 c2, .int .u32 c3] w fun e w' => e = .returned (.bool (decide (c0 ≤ 65536 ∧ c1 ≤ 65536 ∧ c2 ≤ 65536 ∧ c3 ≤ 65536))) ∧ w = w' := by
  by_cases h0 : c0 ≤ 65536
  · by_cases h1 : c1 ≤ 65536
    · by_cases h2 : c2 ≤ 65536
      · by_cases h3 : c3 ≤ 65536
        · go_enter Tryd.func19, Tryd.ntmps19
          go_wp2
          go_ret
          exact ⟨ret_bool (by simp [*]), rfl⟩
        · go_enter Tryd.func19, Tryd.ntmps19
          go_wp2
          go_ret
          exact ⟨ret_bool (by simp; omega), rfl⟩
      · go_enter Tryd.func19, Tryd.ntmps19
        go_wp2
        go_ret
        exact ⟨ret_bool (by simp; omega), rfl⟩
    · go_enter Tryd.func19, Tryd.ntmps19
      go_wp2
      go_ret
      exact ⟨ret_bool (by simp; omega), rfl⟩
  · go_enter Tryd.func19, Tryd.ntmps19
    go_wp2
    go_ret
    exact ⟨ret_bool (by simp; omega), rfl⟩
/-- Every symbol that is not pinned has no slot, or one in range. -/
def nestOk (c0 c1 c2 c3 : Int) (ks ds : List Int) (m : Nat) : Prop := ks.getD m 0 % 3 = 0 ∨ ds.getD m 0 = 0 ∨ ds.getD m 0 - 1 < cAt c0 c1 c2 c3 (nsI (ks.getD m 0))
def NestPost (n1 n3 : Nat) (c0 c1 c2 c3 : Int) (ks ds : List Int) (w : World) (e : Ending) (w' : World) : Prop :=
  ∃ b, e = .returned (.bool b) ∧ (b = true → ∀ m, m < n1 → m < n3 → nestOk c0 c1 c2 c3 ks ds m) ∧ ∃ N, w' = w.drewN N
theorem nsI_01 (k : Int) : nsI k = 0 ∨ nsI k = 1 := by unfold nsI; split <;> simp
set_option maxHeartbeats 4000000 in
set_option maxRecDepth 100000 in
theorem nest_any (A1 : Option Addr) (n1 cc1 : Nat) (ks : List Int) (A3 : Option Addr) (n3 cc3 : Nat) (ds : List Int) (c0 c1 c2 c3 : Int) (w : World)
    (h1 : Reads w w.heap.size 1 A1 n1 (ks.map (Value.int .u8))) (h3 : Reads w w.heap.size 1 A3 n3 (ds.map (Value.int .u32))) (hn1 : n1 ≤ 1048576) (hn3 : n3 ≤ 1048576)
    (hk : ∀ x ∈ ks, 0 ≤ x ∧ x ≤ 255) (hd : ∀ x ∈ ds, 0 ≤ x ∧ x ≤ 4294967295) :
    Calls Tryd.prog 20 #[.slice A1 n1 cc1, .slice A3 n3 cc3, .int .u32 c0, .int .u32 c1, .int .u32 c2, .int .u32 c3] w (NestPost n1 n3 c0 c1 c2 c3 ks ds w) := by
  have l1 : ks.length = n1 := by have := h1.1; simpa using this
  have l3 : ds.length = n3 := by have := h3.1; simpa using this
  have H1 := Lib.hid h1; have H3 := Lib.hid h3; have L1 := Lib.hid l1; have L3 := Lib.hid l3; have HK := Lib.hid hk; have HD := Lib.hid hd
  clear h1 h3 l1 l3 hk hd
  go_enter Tryd.func20, Tryd.ntmps20
  go_wp2
  go_loopw [13] (fun t wr => ∃ (k N : Nat), t = .int .i64 k ∧ k ≤ n1 ∧ (∀ m, m < k → nestOk c0 c1 c2 c3 ks ds m) ∧ wr = w.drewN N) (fun t _ => n1 - (intOf t).toNat)
  case atStart => exact ⟨0, 0, rfl, by omega, fun m hm => by omega, rfl⟩
  case round =>
    obtain ⟨k, N, rfl, hk, hok, hwr0⟩ := hrel
    have HOK := Lib.hid hok; have HW := Lib.hid hwr0
    have hcell : ∀ p : Addr, wr.cell? p = w.cell? p := fun p => by rw [hwr0]; rfl
    have HCELL := Lib.hid hcell
    clear hok hwr0 hcell
    by_cases hlt1 : k < n1
    · by_cases hlt3 : k < n3
      · obtain ⟨b1, off1, e1, hb1, hc1⟩ := reads_any H1.out (by omega)
        subst e1
        obtain ⟨b3, off3, e3, hb3, hc3⟩ := reads_any H3.out (by omega)
        subst e3
        obtain ⟨x1, hx1⟩ : ∃ x, ks[k]? = some x := ⟨_, List.getElem?_eq_getElem (by have := L1.out; omega)⟩
        obtain ⟨x3, hx3⟩ : ∃ x, ds[k]? = some x := ⟨_, List.getElem?_eq_getElem (by have := L3.out; omega)⟩
        have q1 := HK.out x1 (List.mem_of_getElem? hx1)
        have q3 := HD.out x3 (List.mem_of_getElem? hx3)
        have d1 : wr.cell? ⟨b1, off1 + k, none⟩ = some (.int .u8 x1) := (HCELL.out _).trans (hc1 k x1 hx1)
        have d3 : wr.cell? ⟨b3, off3 + k, none⟩ = some (.int .u32 x3) := (HCELL.out _).trans (hc3 k x3 hx3)
        have G1 : Hid (ks.getD k 0 = x1) := Lib.hid (by rw [List.getD_eq_getElem?_getD, hx1]; rfl)
        have G3 : Hid (ds.getD k 0 = x3) := Lib.hid (by rw [List.getD_eq_getElem?_getD, hx3]; rfl)
        clear hc1 hc3 hx1 hx3
        have step : nestOk c0 c1 c2 c3 ks ds k → ∀ m, m < k + 1 → nestOk c0 c1 c2 c3 ks ds m := fun h m hm => by
          by_cases e : m = k
          · subst e; exact h
          · exact HOK.out m (by omega)
        have STEP := Lib.hid step
        clear step
        by_cases hp : x1 % 3 = 0
        · have HP : Hid (pin x1 = true) := Lib.hid (by unfold pin; simpa using hp)
          have HF := Lib.hid (STEP.out (.inl (by rw [G1.out]; exact hp)))
          have PI1 := Lib.hid (fun W : World => (pin_any x1 q1.1 q1.2 W).mono (fun e w' h => (⟨by rw [h.1, HP.out], h.2.symm⟩ : e = Ending.returned (.bool true) ∧ w' = W)))
          clear hp
          go_wp2
          go_quiet ((go_at_call 15; exact Calls.quiet_of_same (PI1.out _)))
          go_wp2
          go_roundw
          case rel => exact ⟨k + 1, _, by go_num, by omega, HF.out, by first | exact HW.out | (rw [HW.out, World.drewN_drewN])⟩
          case measure => simp [intOf]; omega
        · have HP : Hid (pin x1 = false) := Lib.hid (by unfold pin; simpa using hp)
          have PI1 := Lib.hid (fun W : World => (pin_any x1 q1.1 q1.2 W).mono (fun e w' h => (⟨by rw [h.1, HP.out], h.2.symm⟩ : e = Ending.returned (.bool false) ∧ w' = W)))
          by_cases h0 : x3 = 0
          · have t3 : (x3 != 0) = false := by rw [h0]; rfl
            have HF := Lib.hid (STEP.out (.inr (.inl (by rw [G3.out]; exact h0))))
            clear h0 hp
            go_wp2
            go_quiet ((go_at_call 15; exact Calls.quiet_of_same (PI1.out _)))
            go_wp2
            go_roundw
            case rel => exact ⟨k + 1, _, by go_num, by omega, HF.out, by first | exact HW.out | (rw [HW.out, World.drewN_drewN])⟩
            case measure => simp [intOf]; omega
          · have t3 : (x3 != 0) = true := by rw [bne_iff_ne]; exact h0
            have hwr : IntKind.u32.wrap (x3 - 1) = x3 - 1 := by rw [IntKind.wrap_u32]; omega
            have NS1 := Lib.hid (fun W : World => (ns_any x1 q1.1 q1.2 W).mono (fun e w' h => (⟨h.1, h.2.symm⟩ : e = Ending.returned (.int .i64 (nsI x1)) ∧ w' = W)))
            have CA1 := Lib.hid (fun W : World => (cAt_any c0 c1 c2 c3 (nsI x1) (nsI_01 x1) W).mono (fun e w' h => (⟨h.1, h.2.symm⟩ : e = Ending.returned (.int .u32 (cAt c0 c1 c2 c3 (nsI x1))) ∧ w' = W)))
            have hp0 : 0 ≤ x3 - 1 := by omega
            by_cases hc : x3 - 1 < cAt c0 c1 c2 c3 (nsI x1)
            · have HF := Lib.hid (STEP.out (.inr (.inr (by rw [G3.out, G1.out]; exact hc))))
              have t4 : decide (cAt c0 c1 c2 c3 (nsI x1) ≤ x3 - 1) = false := by simp; omega
              clear h0 hp
              go_wp2
              go_quiet ((first | (go_at_call 15; exact Calls.quiet_of_same (PI1.out _)) | (go_at_call 18; exact Calls.quiet_of_same (NS1.out _)) | (go_at_call 33; exact Calls.quiet_of_same (CA1.out _))))
              go_wp2
              go_roundw
              case rel => exact ⟨k + 1, _, by go_num, by omega, HF.out, by first | exact HW.out | (rw [HW.out, World.drewN_drewN])⟩
              case measure => simp [intOf]; omega
            · have t4 : decide (cAt c0 c1 c2 c3 (nsI x1) ≤ x3 - 1) = true := by simp; omega
              have hc' : cAt c0 c1 c2 c3 (nsI x1) ≤ x3 - 1 := by omega
              clear h0 hp
              go_wp2
              go_quiet ((first | (go_at_call 15; exact Calls.quiet_of_same (PI1.out _)) | (go_at_call 18; exact Calls.quiet_of_same (NS1.out _)) | (go_at_call 33; exact Calls.quiet_of_same (CA1.out _))))
              go_wp2
              go_ret
              exact ⟨false, rfl, (fun h => by cases h), _, by first | exact HW.out | (rw [HW.out, World.drewN_drewN])⟩
      · have hok2 : ∀ m, m < n1 → m < n3 → nestOk c0 c1 c2 c3 ks ds m := fun m h1 h2 => HOK.out m (by omega)
        have HOK2 := Lib.hid hok2
        clear hok2 HOK
        go_wp2
        go_ret
        exact ⟨true, rfl, fun _ => HOK2.out, _, by first | exact HW.out | (rw [HW.out, World.drewN_drewN])⟩
    · have hok2 : ∀ m, m < n1 → m < n3 → nestOk c0 c1 c2 c3 ks ds m := fun m h1 h2 => HOK.out m (by omega)
      have HOK2 := Lib.hid hok2
      clear hok2 HOK
      go_wp2
      go_ret
      exact ⟨true, rfl, fun _ => HOK2.out, _, by first | exact HW.out | (rw [HW.out, World.drewN_drewN])⟩
theorem counts_size : (Tryd.prog.info? 35).map (·.size) = some 4 := by kernel_rfl
set_option maxRecDepth 100000 in
theorem sc_any (c0 c1 c2 c3 : Int) (w : World) : Calls Tryd.prog 10 #[.int .u32 c0, .int .u32 c1, .int .u32 c2, .int .u32 c3] w (KPost (.agg #[.int .u32 c0, .int .u32 c1, .int .u32 c2, .int .u32 c3]) w) := by
  have HF := Lib.hid ((Blk.new w 35 #[.int .u32 c0, .int .u32 c1, .int .u32 c2, .int .u32 c3]).alloc (.cells #[.int .u32 c0, .int .u32 c1, .int .u32 c2, .int .u32 c3] 35))
  go_enter Tryd.func10, Tryd.ntmps10
  go_wp2
  refine bodyPost_ret (results_cell_row rfl _ _ w.heap.size _ #[.int .u32 c0, .int .u32 c1, .int .u32 c2, .int .u32 c3] (0, 0) _ rfl HF.out Tryd.underlying35 rfl counts_size) rfl ?_
  exact ⟨rfl, only_alloc (only_alloc (World.grownBy.refl _ _) _) _⟩
/-- The end of a chain of links that lead forward. -/
def rootF (n : Nat) (ls : List Int) (t : Nat) : Nat := if h : t < n ∧ (t : Int) < ls.getD t 0 ∧ ls.getD t 0 < n then rootF n ls (ls.getD t 0).toNat else t
  termination_by n - t
  decreasing_by (have := h.2.1; have := h.2.2; omega)
theorem rootF_step {n : Nat} {ls : List Int} {t : Nat} (h : t < n ∧ (t : Int) < ls.getD t 0 ∧ ls.getD t 0 < n) : rootF n ls t = rootF n ls (ls.getD t 0).toNat := by rw [rootF, dif_pos h]
theorem rootF_end {n : Nat} {ls : List Int} {t : Nat} (h : ¬ (t < n ∧ (t : Int) < ls.getD t 0 ∧ ls.getD t 0 < n)) : rootF n ls t = t := by rw [rootF, dif_neg h]
theorem rootF_roots (n : Nat) (ls : List Int) : Roots n (rootF n ls) (fun m => n - m) := by
  have key : ∀ d t, n - t = d → t < n → rootF n ls t < n ∧ rootF n ls (rootF n ls t) = rootF n ls t ∧ n - rootF n ls t ≤ n - t := by
    intro d
    induction d using Nat.strongRecOn with
    | ind d ih =>
      intro t hd ht
      by_cases h : t < n ∧ (t : Int) < ls.getD t 0 ∧ ls.getD t 0 < n
      · rw [rootF_step h]
        have h1 := h.2.1; have h2 := h.2.2
        obtain ⟨k1, k2, k3⟩ := ih (n - (ls.getD t 0).toNat) (by omega) (ls.getD t 0).toNat rfl (by omega)
        exact ⟨k1, k2, by omega⟩
      · have e := rootF_end h
        rw [e, e]
        exact ⟨ht, rfl, Nat.le_refl _⟩
  exact fun m hm => key _ m rfl hm
theorem lk_of {w : World} {g n : Nat} {ss : List ByteArray} {ks ls ds : List Int} (h : Tbl w g n (symF n ss ks ls ds)) : Lk w g n (symF n ss ks ls ds) (rootF n ls) (fun m => n - m) := by
  refine ⟨_, h, fun m hm => SymR.like_refl _, fun m hm => ?_⟩
  by_cases ho : lkOk n ls m
  · have h1 := ho.1; have h2 := ho.2
    refine .inr ⟨(ls.getD m 0).toNat, if_pos ho, (if_pos ho).trans (by omega), by omega, by show n - _ < n - m; omega, (rootF_step ⟨hm, h1, h2⟩).symm⟩
  · exact .inl ⟨if_neg ho, if_neg ho, rootF_end (fun h => ho ⟨h.2.1, h.2.2⟩)⟩
end Go.Proofs.YtljgaldndgbcjaaDoor
