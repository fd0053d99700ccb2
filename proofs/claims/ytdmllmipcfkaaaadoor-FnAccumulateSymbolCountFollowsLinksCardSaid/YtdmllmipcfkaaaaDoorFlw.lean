/- FollowSymbols over a table of symbols whose links lead down a measure: it answers the root; the table keeps its roots and all else. -/
import Derived.Test.YtdmllmipcfkaaaaDoorTbs
namespace Go.Proofs.YtdmllmipcfkaaaaDoor
open Go.RowKit
set_option linter.unusedVariables false
set_option linter.unusedSimpArgs false

/-- The same symbol but for its link. -/
def SymR.like (a b : SymR) : Prop := a.nm = b.nm ∧ a.ns = b.ns ∧ a.fl = b.fl ∧ a.kd = b.kd
theorem SymR.like_refl (a : SymR) : a.like a := ⟨rfl, rfl, rfl, rfl⟩
def SymR.link (r : SymR) (a b : Int) : SymR := ⟨r.nm, a, b, r.ns, r.fl, r.kd⟩
/-- A table with these roots: its symbols are S0's but for the links; each link goes down the measure M. -/
def Lk (w : World) (g n : Nat) (S0 : Nat → SymR) (R M : Nat → Nat) : Prop :=
  ∃ S, Tbl w g n S ∧ (∀ m, m < n → (S m).like (S0 m)) ∧ ∀ m, m < n → ((S m).la = 4294967295 ∧ (S m).lb = 4294967295 ∧ R m = m) ∨ ∃ j : Nat, (S m).la = 0 ∧ (S m).lb = j ∧ j < n ∧ M j < M m ∧ R j = R m
def Roots (n : Nat) (R M : Nat → Nat) : Prop := ∀ m, m < n → R m < n ∧ R (R m) = R m ∧ M (R m) ≤ M m
section
variable {w w' : World} {g n : Nat} {S0 : Nat → SymR} {R M : Nat → Nat}
theorem Lk.grown {row : Option Nat} (h : Lk w g n S0 R M) (hb : w.grownBy w' row) (hg : some g ≠ row) : Lk w' g n S0 R M := by
  obtain ⟨S, h1, h2⟩ := h
  exact ⟨S, h1.grown hb hg, h2⟩
theorem Lk.below {B : Nat} (h : Lk w g n S0 R M) (hb : Below B w w') (hg : g < B) : Lk w' g n S0 R M := by
  obtain ⟨S, h1, h2⟩ := h
  exact ⟨S, h1.below hb hg, h2⟩
theorem Lk.far (h : Lk w g n S0 R M) {p : Addr} (hp : g ≠ p.block) (u : Value) : Lk (w.setCell p u) g n S0 R M := by
  obtain ⟨S, h1, h2⟩ := h
  exact ⟨S, h1.far hp u, h2⟩
theorem Lk.lt (h : Lk w g n S0 R M) : g < w.heap.size := by obtain ⟨S, h1, _⟩ := h; exact h1.lt
theorem Lk.frozen (h : Lk w g n S0 R M) (m : Nat) : w.frozen? ⟨g, m, none⟩ = false := by obtain ⟨S, h1, _⟩ := h; exact h1.frozen m
theorem Lk.alias_ (h : Lk w g n S0 R M) {m : Nat} (hm : m < n) : w.cell? ⟨g, m * 10, none⟩ = some (.pointer none) := by obtain ⟨S, h1, _⟩ := h; exact h1.alias_ hm
theorem Lk.name (h : Lk w g n S0 R M) {m : Nat} (hm : m < n) : w.cell? ⟨g, m * 10 + 1, none⟩ = some (.string (S0 m).nm) := by
  obtain ⟨S, h1, h2, _⟩ := h
  rw [h1.name hm, (h2 m hm).1]
theorem Lk.nest (h : Lk w g n S0 R M) {m : Nat} (hm : m < n) : w.cell? ⟨g, m * 10 + 6, none⟩ = some (.int .u32 (S0 m).ns) := by
  obtain ⟨S, h1, h2, _⟩ := h
  rw [h1.nest hm, (h2 m hm).2.1]
theorem Lk.flags (h : Lk w g n S0 R M) {m : Nat} (hm : m < n) : w.cell? ⟨g, m * 10 + 7, none⟩ = some (.int .u16 (S0 m).fl) := by
  obtain ⟨S, h1, h2, _⟩ := h
  rw [h1.flags hm, (h2 m hm).2.2.1]
theorem Lk.kind (h : Lk w g n S0 R M) {m : Nat} (hm : m < n) : w.cell? ⟨g, m * 10 + 8, none⟩ = some (.int .u8 (S0 m).kd) := by
  obtain ⟨S, h1, h2, _⟩ := h
  rw [h1.kind hm, (h2 m hm).2.2.2]
theorem Lk.at_ (h : Lk w g n S0 R M) (hR : Roots n R M) {m : Nat} (hm : m < n) :
    (R m = m ∧ w.cell? ⟨g, m * 10 + 2, none⟩ = some (.int .u32 4294967295) ∧ w.cell? ⟨g, m * 10 + 3, none⟩ = some (.int .u32 4294967295)) ∨
    ∃ j : Nat, j < n ∧ M j < M m ∧ R j = R m ∧ M (R m) < M m ∧ w.cell? ⟨g, m * 10 + 2, none⟩ = some (.int .u32 0) ∧ w.cell? ⟨g, m * 10 + 3, none⟩ = some (.int .u32 j) := by
  obtain ⟨S, h1, _, h2⟩ := h
  have l0 := h1.link0 hm; have l1 := h1.link1 hm
  rcases h2 m hm with ⟨e1, e2, e3⟩ | ⟨j, e1, e2, e3, e4, e5⟩
  · exact .inl ⟨e3, by rw [l0, e1], by rw [l1, e2]⟩
  · exact .inr ⟨j, e3, e4, e5, by have := (hR j e3).2.2; rw [e5] at this; omega, by rw [l0, e1], by rw [l1, e2]⟩
theorem Lk.put (h : Lk w g n S0 R M) (hR : Roots n R M) {i : Nat} (hi : i < n) (hlt : M (R i) < M i) :
    Lk ((w.setCell ⟨g, i * 10 + 2, none⟩ (.int .u32 0)).setCell ⟨g, i * 10 + 3, none⟩ (.int .u32 (R i : Nat))) g n S0 R M := by
  obtain ⟨S, h1, h2, h3⟩ := h
  refine ⟨upd S i ((S i).link 0 (R i : Nat)), ?_, fun m hm => ?_, fun m hm => ?_⟩
  · exact (h1.set hi (j := 2) (by omega) (.int .u32 0) ((S i).link 0 (S i).lb) rfl).upd_set hi (j := 3) (by omega) _ _ rfl
  · unfold upd
    split
    · rename_i e; subst e; exact h2 m hm
    · exact h2 m hm
  · by_cases e : m = i
    · subst e
      rw [upd_at]
      exact .inr ⟨R m, rfl, rfl, (hR m hm).1, hlt, (hR m hm).2.1⟩
    · unfold upd
      rw [if_neg e]
      exact h3 m hm
end
def FolPost (w : World) (g n : Nat) (S0 : Nat → SymR) (R M : Nat → Nat) (i : Nat) (e : Ending) (w' : World) : Prop :=
  e = .returned (.agg #[.int .u32 0, .int .u32 (R i : Nat)]) ∧ Lk w' g n S0 R M ∧ w.grownBy w' (some g)
/-- What stands while FollowSymbols runs: its boxes, the table, the variable. -/
structure FSt (w W : World) (o g n : Nat) (S0 : Nat → SymR) (R M : Nat → Nat) (i : Nat) : Prop where
  b2 : Blk W w.heap.size 32 #[.slice (some ⟨o, 0, none⟩) 1 1]
  b3 : Blk W (w.heap.size + 1) 44 #[.int .u32 0, .int .u32 i]
  b4 : Blk W (w.heap.size + 2) 44 #[.int .u32 0, .int .u32 0]
  tab : Lk W g n S0 R M
  inv : Inv W
  out : Out1 W o g n
  gr : w.grownBy W (some g)
theorem FSt.next {w W W' : World} {o g n i : Nat} {S0 : Nat → SymR} {R M : Nat → Nat} (h : FSt w W o g n S0 R M i) (hg : W.grownBy W' (some g)) (ht : Lk W' g n S0 R M) (hgw : g < w.heap.size) (ho : o ≠ g) (h0 : g ≠ 0) : FSt w W' o g n S0 R M i :=
  ⟨h.b2.grown hg (by simp; omega), h.b3.grown hg (by simp; omega), h.b4.grown hg (by simp; omega), ht, h.inv.grown hg (by simp; omega), h.out.grown hg (by simpa using ho), grown_tr h.gr hg⟩
theorem ref_size : (Tryd.prog.info? 44).map (·.size) = some 2 := by kernel_rfl
set_option maxHeartbeats 4000000 in
set_option maxRecDepth 100000 in
theorem follow (o g n : Nat) (S0 : Nat → SymR) (R M : Nat → Nat) (hn : n ≤ 16777216) (ho : o ≠ g) (h0 : g ≠ 0) (hR : Roots n R M) :
    ∀ d i, M i = d → i < n → ∀ w : World, Inv w → Out1 w o g n → Lk w g n S0 R M →
    Calls Tryd.prog 18 #[.agg #[.slice (some ⟨o, 0, none⟩) 1 1], .agg #[.int .u32 0, .int .u32 i]] w (FolPost w g n S0 R M i) := by
  intro d
  induction d using Nat.strongRecOn with
  | ind d ih =>
    intro i hd hi w hinv hout htab
    have hdd := Lib.hid hd
    clear hd
    have IH := Lib.hid ih; have HR := Lib.hid hR
    have hgw := htab.lt
    have how := hout.lt
    have h0w := hinv.pos
    obtain ⟨w3, hw3⟩ : ∃ w3, w3 = ((w.alloc (.cells #[.slice (some ⟨o, 0, none⟩) 1 1] 32)).alloc (.cells #[.int .u32 0, .int .u32 i] 44)).alloc (.cells #[.int .u32 0, .int .u32 0] 44) := ⟨_, rfl⟩
    have hg3 : w.grownBy w3 (some g) := by rw [hw3]; exact only_alloc (only_alloc (only_alloc (World.grownBy.refl _ _) _) _) _
    have hgn : w.grownBy w3 none := by rw [hw3]; exact only_alloc (only_alloc (only_alloc (World.grownBy.refl _ _) _) _) _
    have S3 : FSt w w3 o g n S0 R M i := by
      refine ⟨?_, ?_, ?_, htab.grown hgn (by simp), hinv.grown hgn (by simp), hout.grown hgn (by simp), hg3⟩
      · rw [hw3]; exact ((Blk.new w 32 _).alloc _).alloc _
      · rw [hw3]; have := (Blk.new (w.alloc (.cells #[.slice (some ⟨o, 0, none⟩) 1 1] 32)) 44 #[.int .u32 0, .int .u32 i]).alloc (.cells #[.int .u32 0, .int .u32 0] 44); simpa using this
      · rw [hw3]; have := Blk.new ((w.alloc (.cells #[.slice (some ⟨o, 0, none⟩) 1 1] 32)).alloc (.cells #[.int .u32 0, .int .u32 i] 44)) 44 #[.int .u32 0, .int .u32 0]; simpa using this
    have HS3 := Lib.hid S3; have HW3 := Lib.hid hw3
    clear S3 hg3 hgn htab hinv hout ih hR
    go_enter Tryd.func18, Tryd.ntmps18
    go_wp2_with (go_at_call 19; rw [← HW3.out]; refine (getS o g n i _ HS3.out.out hi hn).mono ?_)
    rintro e w4 ⟨rfl, hg⟩
    have HS4 := Lib.hid (HS3.out.next (grown_any hg) (HS3.out.tab.grown hg (by simp)) hgw ho h0)
    clear hg hw3 HW3 HS3
    obtain ⟨z0, z1⟩ := HS4.out.inv.cells
    have k0 : w4.cell? ⟨w.heap.size, 0, none⟩ = some (.slice (some ⟨o, 0, none⟩) 1 1) := HS4.out.b2.cell 0
    have k1 : w4.cell? ⟨w.heap.size + 1, 0, none⟩ = some (.int .u32 0) := HS4.out.b3.cell 0
    have k2 : w4.cell? ⟨w.heap.size + 1, 1, none⟩ = some (.int .u32 i) := HS4.out.b3.cell 1
    have k3 : w4.cell? ⟨w.heap.size + 2, 0, none⟩ = some (.int .u32 0) := HS4.out.b4.cell 0
    have k4 : w4.cell? ⟨w.heap.size + 2, 1, none⟩ = some (.int .u32 0) := HS4.out.b4.cell 1
    have f3 : w4.frozen? ⟨w.heap.size + 2, 0, none⟩ = false := HS4.out.b4.frozen 0
    have f4 : w4.frozen? ⟨w.heap.size + 2, 1, none⟩ = false := HS4.out.b4.frozen 1
    rcases HS4.out.tab.at_ HR.out hi with ⟨hRi, l0, l1⟩ | ⟨j, hjn, hji, hRj, hRlt, l0, l1⟩
    · have hfin : ∀ W : World, W = ((w4.setCell ⟨w.heap.size + 1 + 1, 0, none⟩ (.int .u32 0)).setCell ⟨w.heap.size + 1 + 1, 1, none⟩ (.int .u32 i)).drew →
          Blk W (w.heap.size + 1 + 1) 44 #[.int .u32 0, .int .u32 i] ∧ Lk W g n S0 R M ∧ w.grownBy W (some g) := fun W hW => by
        subst hW
        have hg4 : w4.grownBy (((w4.setCell ⟨w.heap.size + 1 + 1, 0, none⟩ (.int .u32 0)).setCell ⟨w.heap.size + 1 + 1, 1, none⟩ (.int .u32 i)).drew) (some (w.heap.size + 1 + 1)) :=
          only_drew (only_setCell (p := ⟨w.heap.size + 1 + 1, 1, none⟩) (only_setCell (p := ⟨w.heap.size + 1 + 1, 0, none⟩) (World.grownBy.refl _ _) (Or.inl rfl) _) (Or.inl rfl) _)
        refine ⟨((HS4.out.b4.set_ 0 _).set_ 1 _).drew, HS4.out.tab.grown hg4 (by simp; omega), ?_⟩
        exact only_drew (only_setCell (p := ⟨w.heap.size + 1 + 1, 1, none⟩) (only_setCell (p := ⟨w.heap.size + 1 + 1, 0, none⟩) HS4.out.gr (Or.inr (by show w.heap.size ≤ w.heap.size + 1 + 1; omega)) _) (Or.inr (by show w.heap.size ≤ w.heap.size + 1 + 1; omega)) _)
      have HFIN := Lib.hid hfin; have HRI := Lib.hid hRi
      clear hfin hRi
      go_wp2
      go_region
      go_wp2
      obtain ⟨r1, r2, r3⟩ := HFIN.out _ rfl
      (try simp only [Exit.inBlock, Exit.then])
      refine bodyPost_ret (results_cell_row rfl _ _ (w.heap.size + 1 + 1) 44 #[.int .u32 0, .int .u32 i] (0, 0) _ rfl r1 Tryd.underlying44 rfl ref_size) rfl ?_
      exact ⟨by rw [HRI.out], r2, r3⟩
    · have HJI := Lib.hid hji; have HRLT := Lib.hid hRlt
      clear hji hRlt
      have HSA : Hid (∀ W : World, (W = w4.drew.drew ∨ W = w4.drew.drew.alloc (.cells #[.int .u32 0, .int .u32 0] 44) ∨ W = w4.drew ∨ W = w4.drew.alloc (.cells #[.int .u32 0, .int .u32 0] 44)) → FSt w W o g n S0 R M i) := Lib.hid (fun W hW => by
        have h1 : w4.grownBy W none := by
          rcases hW with rfl | rfl | rfl | rfl
          · exact only_drew (only_drew (World.grownBy.refl _ _))
          · exact only_alloc (only_drew (only_drew (World.grownBy.refl _ _))) _
          · exact only_drew (World.grownBy.refl _ _)
          · exact only_alloc (only_drew (World.grownBy.refl _ _)) _
        exact HS4.out.next (grown_any h1) (HS4.out.tab.grown h1 (by simp)) hgw ho h0)
      have HBX : Hid (∀ (W w5 : World), (W = w4.drew.drew.alloc (.cells #[.int .u32 0, .int .u32 0] 44) ∨ W = w4.drew.alloc (.cells #[.int .u32 0, .int .u32 0] 44)) → W.grownBy w5 (some g) → Blk w5 w4.heap.size 44 #[.int .u32 0, .int .u32 0]) := Lib.hid (fun W w5 hW hg => by
        have h4 := HS4.out.b4.lt
        rcases hW with rfl | rfl
        · exact (Blk.new w4.drew.drew 44 #[.int .u32 0, .int .u32 0]).grown hg (by show some w4.heap.size ≠ some g; simp; omega)
        · exact (Blk.new w4.drew 44 #[.int .u32 0, .int .u32 0]).grown hg (by show some w4.heap.size ≠ some g; simp; omega))
      have hs4 : w.heap.size + 3 ≤ w4.heap.size := by have := HS4.out.b4.lt; omega
      have HFA : Hid (∀ w5 : World, FSt w w5 o g n S0 R M i → ∃ b6, Value.pointer (some ⟨w5.heap.size, 0, none⟩) = .pointer (some ⟨b6, 0, none⟩) ∧ w.heap.size + 3 ≤ b6 ∧ Blk (w5.alloc (.cells #[.int .u32 0, .int .u32 (R i : Nat)] 44)) b6 44 #[.int .u32 0, .int .u32 (R i : Nat)] ∧ FSt w (w5.alloc (.cells #[.int .u32 0, .int .u32 (R i : Nat)] 44)) o g n S0 R M i) := Lib.hid (fun w5 h => by
        have h1 : w5.grownBy (w5.alloc (.cells #[.int .u32 0, .int .u32 (R i : Nat)] 44)) none := only_alloc (World.grownBy.refl _ _) _
        exact ⟨w5.heap.size, rfl, by have := h.b4.lt; omega, Blk.new _ _ _, h.next (grown_any h1) (h.tab.grown h1 (by simp)) hgw ho h0⟩)
      have HFB : Hid (∀ w5 : World, FSt w w5 o g n S0 R M i → Blk w5 w4.heap.size 44 #[.int .u32 0, .int .u32 0] → ∃ b6, Value.pointer (some ⟨w4.heap.size, 0, none⟩) = .pointer (some ⟨b6, 0, none⟩) ∧ w.heap.size + 3 ≤ b6 ∧ Blk ((w5.setCell ⟨w4.heap.size, 0, none⟩ (.int .u32 0)).setCell ⟨w4.heap.size, 1, none⟩ (.int .u32 (R i : Nat))) b6 44 #[.int .u32 0, .int .u32 (R i : Nat)] ∧ FSt w ((w5.setCell ⟨w4.heap.size, 0, none⟩ (.int .u32 0)).setCell ⟨w4.heap.size, 1, none⟩ (.int .u32 (R i : Nat))) o g n S0 R M i) := Lib.hid (fun w5 h hk => by
        have h4 := HS4.out.b4.lt
        have h1 : w5.grownBy ((w5.setCell ⟨w4.heap.size, 0, none⟩ (.int .u32 0)).setCell ⟨w4.heap.size, 1, none⟩ (.int .u32 (R i : Nat))) (some w4.heap.size) :=
          only_setCell (p := ⟨w4.heap.size, 1, none⟩) (only_setCell (p := ⟨w4.heap.size, 0, none⟩) (World.grownBy.refl _ _) (Or.inl rfl) _) (Or.inl rfl) _
        refine ⟨w4.heap.size, rfl, by omega, (hk.set_ 0 _).set_ 1 _, ?_⟩
        exact ⟨h.b2.grown h1 (by simp; omega), h.b3.grown h1 (by simp; omega), h.b4.grown h1 (by simp; omega), h.tab.grown h1 (fun e => by have := Option.some.inj e; omega), h.inv.grown h1 (fun e => by have := Option.some.inj e; omega), h.out.grown h1 (fun e => by have := Option.some.inj e; omega),
          only_setCell (p := ⟨w4.heap.size, 1, none⟩) (only_setCell (p := ⟨w4.heap.size, 0, none⟩) h.gr (Or.inr (by show w.heap.size ≤ w4.heap.size; omega)) _) (Or.inr (by show w.heap.size ≤ w4.heap.size; omega)) _⟩)
      have hg4' : g < w4.heap.size := by omega
      have hb4' : w.heap.size < w4.heap.size := by omega
      go_wp2
      go_region
      go_wp2_with fail
      go_cut [6] (fun v wx => ∃ b6, v = .pointer (some ⟨b6, 0, none⟩) ∧ w.heap.size + 3 ≤ b6 ∧ Blk wx b6 44 #[.int .u32 0, .int .u32 (R i : Nat)] ∧ FSt w wx o g n S0 R M i)
      case first =>
        go_region_with (go_at_call 18; refine (IH.out (M j) (by have := HJI.out; have := hdd.out; omega) j rfl hjn _ (HSA.out _ (by first | exact Or.inl rfl | exact Or.inr (Or.inl rfl) | exact Or.inr (Or.inr (Or.inl rfl)) | exact Or.inr (Or.inr (Or.inr rfl)))).inv (HSA.out _ (by first | exact Or.inl rfl | exact Or.inr (Or.inl rfl) | exact Or.inr (Or.inr (Or.inl rfl)) | exact Or.inr (Or.inr (Or.inr rfl)))).out (HSA.out _ (by first | exact Or.inl rfl | exact Or.inr (Or.inl rfl) | exact Or.inr (Or.inr (Or.inl rfl)) | exact Or.inr (Or.inr (Or.inr rfl)))).tab).mono ?_; rintro e w5 ⟨rfl, ht5, hg5⟩; try (have kb := HBX.out _ w5 (by first | exact Or.inl rfl | exact Or.inr rfl) hg5; have kb0 : w5.cell? ⟨w4.heap.size, 0, none⟩ = some (.int .u32 0) := kb.cell 0; have kb1 : w5.cell? ⟨w4.heap.size, 1, none⟩ = some (.int .u32 0) := kb.cell 1; have kf0 : w5.frozen? ⟨w4.heap.size, 0, none⟩ = false := kb.frozen 0; have kf1 : w5.frozen? ⟨w4.heap.size, 1, none⟩ = false := kb.frozen 1; have KB := Lib.hid kb; clear kb))
        all_goals
          have hst := (HSA.out _ (by first | exact Or.inl rfl | exact Or.inr (Or.inl rfl) | exact Or.inr (Or.inr (Or.inl rfl)) | exact Or.inr (Or.inr (Or.inr rfl)))).next hg5 ht5 hgw ho h0
          go_wp2_with fail
          go_meet
          first | exact HFA.out w5 hst | exact HFB.out w5 hst KB.out
      case rest =>
        obtain ⟨b6, rfl, hb6, hk6, hst⟩ := hcut
        have HST := Lib.hid hst; have HK6 := Lib.hid hk6
        clear hst hk6
        obtain ⟨j', e0, e1⟩ : ∃ j' : Nat, wc.cell? ⟨g, i * 10 + 2, none⟩ = some (.int .u32 0) ∧ wc.cell? ⟨g, i * 10 + 3, none⟩ = some (.int .u32 j') := by
          rcases HST.out.tab.at_ HR.out hi with ⟨h, _⟩ | ⟨j', _, _, _, _, h2, h3⟩
          · have := HRLT.out; rw [h] at this; omega
          · exact ⟨j', h2, h3⟩
        have m0 : wc.cell? ⟨b6, 0, none⟩ = some (.int .u32 0) := HK6.out.cell 0
        have m1 : wc.cell? ⟨b6, 1, none⟩ = some (.int .u32 (R i : Nat)) := HK6.out.cell 1
        have k3 : wc.cell? ⟨w.heap.size + 2, 0, none⟩ = some (.int .u32 0) := HST.out.b4.cell 0
        have k4 : wc.cell? ⟨w.heap.size + 2, 1, none⟩ = some (.int .u32 0) := HST.out.b4.cell 1
        have f3 : wc.frozen? ⟨w.heap.size + 2, 0, none⟩ = false := HST.out.b4.frozen 0
        have f4 : wc.frozen? ⟨w.heap.size + 2, 1, none⟩ = false := HST.out.b4.frozen 1
        have fg2 : wc.frozen? ⟨g, i * 10 + 2, none⟩ = false := HST.out.tab.frozen _
        have fg3 : wc.frozen? ⟨g, i * 10 + 3, none⟩ = false := HST.out.tab.frozen _
        have hgb : g ≠ w.heap.size + 1 + 1 := by omega
        have hgb' : ¬ w.heap.size + 1 + 1 = g := by omega
        have hgb6 : ¬ b6 = g := by omega
        have hend : ∀ W0 W : World, FSt w W0 o g n S0 R M i → W = ((W0.setCell ⟨w.heap.size + 1 + 1, 0, none⟩ (.int .u32 0)).setCell ⟨w.heap.size + 1 + 1, 1, none⟩ (.int .u32 (R i : Nat))).drew →
            Blk W (w.heap.size + 1 + 1) 44 #[.int .u32 0, .int .u32 (R i : Nat)] ∧ Lk W g n S0 R M ∧ w.grownBy W (some g) := fun W0 W h hW => by
          subst hW
          have hg4 : W0.grownBy (((W0.setCell ⟨w.heap.size + 1 + 1, 0, none⟩ (.int .u32 0)).setCell ⟨w.heap.size + 1 + 1, 1, none⟩ (.int .u32 (R i : Nat))).drew) (some (w.heap.size + 1 + 1)) :=
            only_drew (only_setCell (p := ⟨w.heap.size + 1 + 1, 1, none⟩) (only_setCell (p := ⟨w.heap.size + 1 + 1, 0, none⟩) (World.grownBy.refl _ _) (Or.inl rfl) _) (Or.inl rfl) _)
          refine ⟨((h.b4.set_ 0 _).set_ 1 _).drew, h.tab.grown hg4 (by simp; omega), ?_⟩
          exact only_drew (only_setCell (p := ⟨w.heap.size + 1 + 1, 1, none⟩) (only_setCell (p := ⟨w.heap.size + 1 + 1, 0, none⟩) h.gr (Or.inr (by show w.heap.size ≤ w.heap.size + 1 + 1; omega)) _) (Or.inr (by show w.heap.size ≤ w.heap.size + 1 + 1; omega)) _)
        have hput : FSt w ((wc.setCell ⟨g, i * 10 + 2, none⟩ (.int .u32 0)).setCell ⟨g, i * 10 + 3, none⟩ (.int .u32 (R i : Nat))) o g n S0 R M i :=
          HST.out.next (only_setCell (p := ⟨g, i * 10 + 3, none⟩) (only_setCell (p := ⟨g, i * 10 + 2, none⟩) (World.grownBy.refl _ _) (Or.inl rfl) _) (Or.inl rfl) _) (HST.out.tab.put HR.out hi HRLT.out) hgw ho h0
        have HEND := Lib.hid hend; have HPUT := Lib.hid hput
        clear hend hput
        by_cases hjr : j' = R i
        · have q2 : ((j' : Int) != (R i : Nat)) = false := by rw [hjr]; simp
          go_wp2
          go_region
          go_wp2
          obtain ⟨r1, r2, r3⟩ := HEND.out _ _ HST.out rfl
          (try simp only [Exit.inBlock, Exit.then])
          refine bodyPost_ret (results_cell_row rfl _ _ (w.heap.size + 1 + 1) 44 #[.int .u32 0, .int .u32 (R i : Nat)] (0, 0) _ rfl r1 Tryd.underlying44 rfl ref_size) rfl ?_
          exact ⟨rfl, r2, r3⟩
        · have q2 : ((j' : Int) != (R i : Nat)) = true := by rw [bne_iff_ne]; omega
          go_wp2
          go_region
          go_wp2
          obtain ⟨r1, r2, r3⟩ := HEND.out _ _ HPUT.out rfl
          (try simp only [Exit.inBlock, Exit.then])
          refine bodyPost_ret (results_cell_row rfl _ _ (w.heap.size + 1 + 1) 44 #[.int .u32 0, .int .u32 (R i : Nat)] (0, 0) _ rfl r1 Tryd.underlying44 rfl ref_size) rfl ?_
          exact ⟨rfl, r2, r3⟩
end Go.Proofs.YtdmllmipcfkaaaaDoor
